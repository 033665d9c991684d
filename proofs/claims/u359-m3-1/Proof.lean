import JvmDerived
import JvmDerived.Pilot.@@N@@Statement
import JvmDerived.Pilot.@@N@@Code
set_option linter.unusedVariables false
set_option linter.unusedSimpArgs false
namespace Jvm.RoadKit
open Sem ClassFile Op Lib Jvm.Stand Jvm.Free Jvm.LawKit
section New
variable {p : Program} {l : Launch} {e : Env} {R : Room} {s : State} {m : MethodId} {args : Array Value} {below : List Frame} {meth : Method} {c : Code} {T : State} {locs : List Loc} {cells slots : Nat}
theorem retI (X : Stand p l e R s m args below meth c T locs cells slots) (hx : p.tables.exec = Jvm.exec) {pc : Nat} {Ls : Array Slot} {z : Int32} {rest : List Value} (hret : meth.sig.returnType = some .int) (hd : decode c.code pc = .ok (.ireturn, 1)) {fs : List Frame}
    (hl : ∀ (f : JFrame) (acts : List Action), f.method = m → f.locked = none → f.entered = [] → (doReturn e (T.setTop f) acts (some (.int z))).1 = T.setFrames fs) : Steps p.tables e below (T.setTop (mkF m pc Ls (.int z :: rest))) (T.setFrames fs) := by
  have hm' : T.vm.method? m = some meth := X.method'
  have hn : narrow .int (.int z) = .int z := rfl
  show Steps p.tables e below (T.setTop { method := m, pc := pc, locals := Ls, stack := _ :: rest, locked := none }) _
  jvm_step X.here [X.here.top, hx, hd, hm', hret, hn]
  first | (intro acts; rw [hl _ acts rfl rfl rfl]) | rw [hl _ _ rfl rfl rfl]
  exact Steps.refl _
theorem retL (X : Stand p l e R s m args below meth c T locs cells slots) (hx : p.tables.exec = Jvm.exec) {pc : Nat} {Ls : Array Slot} {z : Int64} {rest : List Value} (hret : meth.sig.returnType = some .long) (hd : decode c.code pc = .ok (.lreturn, 1)) {fs : List Frame}
    (hl : ∀ (f : JFrame) (acts : List Action), f.method = m → f.locked = none → f.entered = [] → (doReturn e (T.setTop f) acts (some (.long z))).1 = T.setFrames fs) : Steps p.tables e below (T.setTop (mkF m pc Ls (.long z :: rest))) (T.setFrames fs) := by
  have hm' : T.vm.method? m = some meth := X.method'
  have hn : narrow .long (.long z) = .long z := rfl
  show Steps p.tables e below (T.setTop { method := m, pc := pc, locals := Ls, stack := _ :: rest, locked := none }) _
  jvm_step X.here [X.here.top, hx, hd, hm', hret, hn]
  first | (intro acts; rw [hl _ acts rfl rfl rfl]) | rw [hl _ _ rfl rfl rfl]
  exact Steps.refl _
end New
end Jvm.RoadKit
@@BLOCK:LamKit.lean.txt@@
namespace Jvm.Pilot.@@N@@
open Jvm Jvm.ClassFile Sem Op Lib Jvm.Free Jvm.Stand Jvm.LawKit Jvm.RoadKit Bundle Jvm.Pilot.@@N@@.Jvm.D

theorem own_toN {i : Nat} (h : i < 2147483648) : (Int32.ofNat i).toInt = i := Int32.toInt_ofNat_of_lt (by omega)
theorem own_clamp {i : Nat} (h : i < 2147483648) : (Int32.ofNat i).toNatClampNeg = i := by
  rw [Int32.toNatClampNeg, own_toN h]; omega
theorem own_ltN {i j : Nat} (hi : i < 2147483648) (hj : j < 2147483648) : Int32.ofNat i < Int32.ofNat j ↔ i < j := by
  rw [Int32.lt_iff_toInt_lt, own_toN hi, own_toN hj]; omega
theorem own_injN {i j : Nat} (hi : i < 2147483648) (hj : j < 2147483648) : Int32.ofNat i = Int32.ofNat j ↔ i = j := by
  rw [← Int32.toInt_inj, own_toN hi, own_toN hj]; omega
theorem own_nn {i : Nat} (h : i < 2147483648) : ¬ Int32.ofNat i < 0 := by
  rw [Int32.lt_iff_toInt_lt, own_toN h, show (0 : Int32).toInt = 0 from by decide]; omega
theorem own_addN (i j : Nat) : Int32.ofNat i + Int32.ofNat j = Int32.ofNat (i + j) := (Int32.ofNat_add i j).symm
theorem own_mulN (i j : Nat) : Int32.ofNat i * Int32.ofNat j = Int32.ofNat (i * j) := (Int32.ofNat_mul i j).symm
/-! tables of ints by a function -/
def own_tab (f : Nat → Int32) (n : Nat) : List Value := (List.range n).map fun j => .int (f j)
theorem own_tab_len (f : Nat → Int32) (n : Nat) : (own_tab f n).length = n := by simp [own_tab]
theorem own_tab_get {f : Nat → Int32} {n j : Nat} (h : j < n) (d : Value) : (own_tab f n).getD j d = .int (f j) := by
  simp [own_tab, List.getD_eq_getElem?_getD, List.getElem?_range h]
theorem own_tab_set (f : Nat → Int32) (n j : Nat) (x : Int32) : (own_tab f n).set j (.int x) = own_tab (fun i => if i = j then x else f i) n := by
  apply List.ext_getElem
  · simp [own_tab]
  · intro i h1 h2
    simp only [own_tab, List.getElem_set, List.getElem_map, List.getElem_range]
    by_cases h : i = j
    · subst h; simp
    · simp [h, Ne.symm h]
theorem own_tab_pad (n : Nat) : own_tab (fun _ => 0) n = [] ++ List.replicate n (Value.int (0 : Int32)) := by
  apply List.ext_getElem
  · simp [own_tab]
  · intro i h1 h2; simp [own_tab]

theorem own_shl1 {i : Nat} (h : i < 1073741824) : (Int32.ofNat i <<< ((1 : Int32) &&& 31)) = Int32.ofNat (2 * i) := by
  rw [show ((1 : Int32) &&& 31) = 1 from by decide]
  apply Int32.toBitVec_inj.mp
  apply BitVec.eq_of_toNat_eq
  have e : (Int32.ofNat i <<< (1 : Int32)).toBitVec = BitVec.ofNat 32 i <<< 1 := rfl
  rw [e]
  have e2 : (Int32.ofNat (2 * i)).toBitVec = BitVec.ofNat 32 (2 * i) := rfl
  rw [e2, BitVec.toNat_shiftLeft, BitVec.toNat_ofNat, BitVec.toNat_ofNat, Nat.shiftLeft_eq]
  omega
theorem own_shr1 {i : Nat} (h : i < 1073741824) : (Int32.ofNat (2 * i) >>> ((1 : Int32) &&& 31)) = Int32.ofNat i := by
  rw [show ((1 : Int32) &&& 31) = 1 from by decide]
  apply Int32.toBitVec_inj.mp
  apply BitVec.eq_of_toInt_eq
  have e : (Int32.ofNat (2 * i) >>> (1 : Int32)).toBitVec = (BitVec.ofNat 32 (2 * i)).sshiftRight 1 := rfl
  rw [e, BitVec.toInt_sshiftRight]
  have e1 : (BitVec.ofNat 32 (2 * i)).toInt = (2 * i : Nat) := own_toN (i := 2 * i) (by omega)
  have e2 : (Int32.ofNat i).toBitVec.toInt = i := own_toN (i := i) (by omega)
  rw [e1, e2, Int.shiftRight_eq_div_pow]
  omega
theorem own_shr0 (x : Int32) : (x >>> ((0 : Int32) &&& 31)) = x := by
  rw [show ((0 : Int32) &&& 31) = 0 from by decide]
  apply Int32.toBitVec_inj.mp
  show x.toBitVec.sshiftRight 0 = x.toBitVec
  simp
theorem own_shl0 (x : Int32) : (x <<< ((0 : Int32) &&& 31)) = x := by
  rw [show ((0 : Int32) &&& 31) = 0 from by decide]
  apply Int32.toBitVec_inj.mp
  show x.toBitVec <<< 0 = x.toBitVec
  simp
def own_ch (x : Int32) : Prop := 0 ≤ x.toInt ∧ x.toInt ≤ 65535
theorem own_chN {x : Int32} (h : own_ch x) : ∃ k, k ≤ 65535 ∧ x = Int32.ofNat k := by
  refine ⟨x.toInt.toNat, by have := h.2; omega, Int32.toInt_inj.mp ?_⟩
  have := h.1; have := h.2
  rw [own_toN (by omega)]; omega
def own_lo (x : Int32) : Int32 := x.toInt8.toInt32
def own_hi (x : Int32) : Int32 := (x >>> ((8 : Int32) &&& 31)).toInt8.toInt32
theorem own_lo255 (x : Int32) : (own_lo x) &&& 255 = x &&& 255 := by
  apply Int32.toBitVec_inj.mp
  show (x.toBitVec.signExtend 8).signExtend 32 &&& 255#32 = x.toBitVec &&& 255#32
  generalize x.toBitVec = b
  apply BitVec.eq_of_getLsbD_eq
  intro i hi
  simp only [BitVec.getLsbD_and, BitVec.getLsbD_signExtend]
  by_cases h : i < 8
  · simp [h, hi]
  · have : (255#32).getLsbD i = false := by
      have : ∀ i < 32, ¬ i < 8 → (255#32).getLsbD i = false := by decide
      exact this i hi h
    simp [this]
theorem own_and255N {k : Nat} (h : k < 2147483648) : Int32.ofNat k &&& 255 = Int32.ofNat (k % 256) := by
  apply Int32.toBitVec_inj.mp
  show BitVec.ofNat 32 k &&& 255#32 = BitVec.ofNat 32 (k % 256)
  apply BitVec.eq_of_toNat_eq
  rw [BitVec.toNat_and, show (255#32).toNat = 2 ^ 8 - 1 from by decide, Nat.and_two_pow_sub_one_eq_mod, BitVec.toNat_ofNat, BitVec.toNat_ofNat]
  omega
theorem own_shr8 {i : Nat} (h : i < 2147483648) : (Int32.ofNat i >>> ((8 : Int32) &&& 31)) = Int32.ofNat (i / 256) := by
  rw [show ((8 : Int32) &&& 31) = 8 from by decide]
  apply Int32.toBitVec_inj.mp
  apply BitVec.eq_of_toInt_eq
  have e : (Int32.ofNat i >>> (8 : Int32)).toBitVec = (BitVec.ofNat 32 i).sshiftRight 8 := rfl
  rw [e, BitVec.toInt_sshiftRight]
  have e1 : (BitVec.ofNat 32 i).toInt = (i : Nat) := own_toN (i := i) (by omega)
  have e2 : (Int32.ofNat (i / 256)).toBitVec.toInt = (i / 256 : Nat) := own_toN (i := i / 256) (by omega)
  rw [e1, e2, Int.shiftRight_eq_div_pow]
  omega
theorem own_shl8 {i : Nat} (h : i < 65536) : (Int32.ofNat i <<< ((8 : Int32) &&& 31)) = Int32.ofNat (256 * i) := by
  rw [show ((8 : Int32) &&& 31) = 8 from by decide]
  apply Int32.toBitVec_inj.mp
  apply BitVec.eq_of_toNat_eq
  have e : (Int32.ofNat i <<< (8 : Int32)).toBitVec = BitVec.ofNat 32 i <<< 8 := rfl
  rw [e]
  have e2 : (Int32.ofNat (256 * i)).toBitVec = BitVec.ofNat 32 (256 * i) := rfl
  rw [e2, BitVec.toNat_shiftLeft, BitVec.toNat_ofNat, BitVec.toNat_ofNat, Nat.shiftLeft_eq]
  omega
theorem own_i2c {k : Nat} (h : k < 65536) : (Int32.ofNat k).toUInt32.toUInt16.toUInt32.toInt32 = Int32.ofNat k := by
  apply Int32.toInt_inj.mp
  have q := c_i2c (Int32.ofNat k)
  rw [own_toN (by omega)] at q ⊢
  omega
theorem own_i2cc {x : Int32} (h : own_ch x) : x.toUInt32.toUInt16.toUInt32.toInt32 = x := by
  obtain ⟨k, hk, rfl⟩ := own_chN h
  exact own_i2c (by omega)
theorem own_orN {a b : Nat} (ha : a < 256) (hb : b < 256) : Int32.ofNat a ||| Int32.ofNat (256 * b) = Int32.ofNat (a + 256 * b) := by
  apply Int32.toBitVec_inj.mp
  show BitVec.ofNat 32 a ||| BitVec.ofNat 32 (256 * b) = BitVec.ofNat 32 (a + 256 * b)
  apply BitVec.eq_of_toNat_eq
  rw [BitVec.toNat_or, BitVec.toNat_ofNat, BitVec.toNat_ofNat, BitVec.toNat_ofNat, Nat.mod_eq_of_lt (by omega), Nat.mod_eq_of_lt (by omega), Nat.mod_eq_of_lt (by omega)]
  have q := Nat.two_pow_add_eq_or_of_lt (i := 8) (b := a) (by omega) b
  rw [Nat.or_comm, ← show 2 ^ 8 * b = 256 * b from by omega, ← q]
  omega
theorem own_glue {x : Int32} (h : own_ch x) : ((((own_lo x) &&& 255) <<< ((0 : Int32) &&& 31)) ||| (((own_hi x) &&& 255) <<< ((8 : Int32) &&& 31))).toUInt32.toUInt16.toUInt32.toInt32 = x := by
  obtain ⟨k, hk, rfl⟩ := own_chN h
  rw [own_shl0, own_lo255, own_and255N (by omega)]
  have e : own_hi (Int32.ofNat k) = own_lo (Int32.ofNat (k / 256)) := by rw [own_hi, own_shr8 (by omega), own_lo]
  rw [e, own_lo255, own_and255N (by omega), own_shl8 (by omega), own_orN (by omega) (by omega), own_i2c (by omega)]
  congr 1; omega
theorem own_l1c {x : Int32} (h0 : 0 ≤ x.toInt) (h : x.toInt ≤ 255) : ((own_lo x) &&& 255).toUInt32.toUInt16.toUInt32.toInt32 = x := by
  obtain ⟨k, hk, rfl⟩ := own_chN (x := x) ⟨h0, by omega⟩
  rw [own_toN (by omega)] at h
  rw [own_lo255, own_and255N (by omega), Nat.mod_eq_of_lt (by omega), own_i2c (by omega)]
theorem own_lolo (x : Int32) : nar .byte (own_lo x) = own_lo x := by
  show x.toInt8.toInt32.toInt8.toInt32 = x.toInt8.toInt32
  rw [Int8.toInt8_toInt32]
theorem own_hihi (x : Int32) : nar .byte (own_hi x) = own_hi x := own_lolo _
def own_u16 (f : Nat → Int32) (i : Nat) : Int32 := if i % 2 = 0 then own_lo (f (i / 2)) else own_hi (f (i / 2))
theorem own_u16e (f : Nat → Int32) (i : Nat) : own_u16 f (2 * i) = own_lo (f i) := by
  rw [own_u16, if_pos (by omega), show 2 * i / 2 = i from by omega]
theorem own_u16o (f : Nat → Int32) (i : Nat) : own_u16 f (2 * i + 1) = own_hi (f i) := by
  rw [own_u16, if_neg (by omega), show (2 * i + 1) / 2 = i from by omega]
def own_l1 (f : Nat → Int32) (i : Nat) : Int32 := own_lo (f i)
theorem own_tab_cong {f g : Nat → Int32} {n : Nat} (h : ∀ j, j < n → f j = g j) : own_tab f n = own_tab g n := by
  unfold own_tab
  apply List.map_congr_left
  intro j hj
  rw [h j (List.mem_range.mp hj)]

theorem own_sel {Z s : State} {a0 args : Array Value} {y : MethodName} {n : Nat} (hZ : Z.Warmed39 s.vm) (wi : (Cond.instantiable y.cls n).before a0 Z = true) (wp : (Cond.privateMethod y).before a0 Z = true) (wn : (Cond.instanceMethod y).before a0 Z = true) (hy : y.cls ≠ "java/lang/invoke/MethodHandle" ∧ y.cls ≠ "java/lang/invoke/VarHandle") : (Cond.selects y.cls y y).before args s = true := by
  have wi' : (Cond.instantiable y.cls n).before args s = true := mv hZ wi
  obtain ⟨c, k, h1, h2, -, h4, -⟩ := Cond.instantiable_spec wi'
  rw [Bool.or_eq_false_iff] at h4
  exact Stand.selects_self_of_private h1 h2 h4.1 (Cond.privateMethod_at (mvP hZ wp (args := args))) (mv hZ wn) hy
theorem own_shape {cf : ClassFile} {index : Nat} {σ : Lambda.Shape} (h : Lambda.shapeOf? cf index = some σ) : ∃ b nt name desc site, cf.constantPool[index]? = some (.invokeDynamic b nt) ∧ cf.constantPool.nameAndType? nt = some (name, desc) ∧ parseMethodDescriptor desc = some site ∧ site.parameters = σ.captured := by
  unfold Lambda.shapeOf? at h
  split at h
  · next b nt hb =>
    obtain ⟨en, -, h⟩ := Option.bind_eq_some_iff.mp h
    obtain ⟨bm, -, h⟩ := Option.bind_eq_some_iff.mp h
    split at h
    · obtain ⟨-, -, h⟩ := Option.bind_eq_some_iff.mp h
      obtain ⟨ba, hbb⟩ : ∃ x, x = bm.bootstrapArguments := ⟨_, rfl⟩
      rw [← hbb] at h
      clear hbb
      by_cases hba : ba.size = 3
      · obtain ⟨a0, a1, a2, rfl⟩ : ∃ a0 a1 a2, ba = #[a0, a1, a2] := by
          obtain ⟨L⟩ := ba
          match L, hba with
          | [x, y, z], _ => exact ⟨x, y, z, rfl⟩
        unfold Lambda.shapeOf?.match_15 at h
        dsimp [Array.getLit] at h
        split at h
        · split at h
          · split at h
            · obtain ⟨⟨name, desc⟩, hnt, h⟩ := Option.bind_eq_some_iff.mp h
              obtain ⟨site, hsite, h⟩ := Option.bind_eq_some_iff.mp h
              split at h
              · simp only [Option.bind_eq_bind, Option.bind_eq_some_iff, Option.pure_def] at h
                obtain ⟨mm, -, x1, -, sam, -, x2, -, x3, -, x4, -, h⟩ := h
                exact ⟨b, nt, name, desc, site, hb, hnt, hsite, by simp only [Option.some.injEq] at h; rw [← h]⟩
              · cases h
            · cases h
          · cases h
        · cases h
      · exfalso
        unfold Lambda.shapeOf?.match_15 at h
        simp [hba] at h
    · cases h
  · cases h
abbrev own_HS : String := "com/example/earmark/earmark/ledger/HoldStates"
def own_σ : Lambda.Shape := (Jvm.Lambda.Shape.mk "com/example/earmark/earmark/ledger/RowIndex$Hashes" "hash" (Jvm.ClassFile.MethodDescriptor.mk ([Jvm.ClassFile.FieldType.int] : List Jvm.ClassFile.FieldType) (Option.some Jvm.ClassFile.FieldType.int)) ([(Jvm.ClassFile.FieldType.object "com/example/earmark/earmark/ledger/HoldStates")] : List Jvm.ClassFile.FieldType) (5 : Nat) "com/example/earmark/earmark/ledger/HoldStates" "lambda$new$0" (Jvm.ClassFile.MethodDescriptor.mk ([Jvm.ClassFile.FieldType.int] : List Jvm.ClassFile.FieldType) (Option.some Jvm.ClassFile.FieldType.int)) false (Jvm.ClassFile.MethodDescriptor.mk ([Jvm.ClassFile.FieldType.int] : List Jvm.ClassFile.FieldType) (Option.some Jvm.ClassFile.FieldType.int)))
set_option maxRecDepth 100000 in
theorem own_lay : ((own_σ.file own_HS).bind fun cf => layoutFields cf 0).map (fun l => l.2.1) = some #[FieldType.object own_HS] := by decide +kernel
theorem own_made {vm : Vm} {e : Setting} {d c : ClassId} {dk : Class} (hd : vm.classes[d]? = some dk) (hn : dk.name = own_HS) (h : Lambda.isMade e vm d own_σ c = true) {o : ClassId} {ok : Class} (ho : vm.findClass "java/lang/Object" = some o) (hok : vm.classes[o]? = some ok) (h0 : ok.instanceTypes.size = 0) : ∃ k, vm.classes[c]? = some k ∧ k.kind = .ordinary ∧ k.instanceTypes = #[FieldType.object own_HS] := by
  obtain ⟨dk', k, ok', tk, file, cf, object, iface, t, lay, methods, target, found, h1, h2, h3, h4, h5, h6, h7, h8, h9, h10, h11, h12, h13, ⟨h14, h15, -⟩, h16, h17, h18, h19, h20, h21, h22, ⟨h23, -⟩, -⟩ := Lambda.isMade_spec h
  cases hd.symm.trans h1
  cases ho.symm.trans h5
  cases hok.symm.trans h7
  refine ⟨k, h2, h15, ?_⟩
  rw [hn] at h4
  rw [h0] at h8
  have q := own_lay
  rw [h4, Option.bind_some, h8, Option.map_some] at q
  rw [h23, Option.some.inj q]
  have : ok.instanceTypes = #[] := Array.eq_empty_of_size_eq_zero h0
  rw [this]; simp
section
variable {p : Program} {l : Launch} {e : Env} {R : Room} {s : State} {m : MethodId} {args : Array Value} {below : List Frame} {meth : Method} {c : Code} {T : State} {locs : List Loc} {cells slots : Nat}

theorem own_lam (X : Stand p l e R s m args below meth c T locs cells slots) (hx : p.tables.exec = Jvm.exec) {Z : State} (hZ : Z.Warmed39 s.vm) {a0 : Array Value} {h : Heap} {y : MethodName} {pc index : Nat} (hyc : y.cls = own_HS) (hnm : s.methodNamed? y = some m) (w : (Cond.lambdaSite y pc index own_σ).before a0 Z = true) (wo : (Cond.instantiable "java/lang/Object" 0).before a0 Z = true) (eT : T.heap = h)
    {g : JFrame} (hg : g.method = m) (hpc : g.pc = pc) (hsize : g.locals.size = c.maxLocals) (hd : decode c.code g.pc = .ok (.invokedynamic index, 5)) {ob : Addr} {rest : List Value} (hstack : g.stack = .ref ob :: rest)
    {W : Nat} (hW : 2 * g.monitorRoom + (g.stack.map fun v => v.category).sum ≤ W) (hlo : W + 3072 ≤ R.locals) (hc : cells + 1 ≤ R.cells) (hs : slots + 1 ≤ R.slots) :
    ∃ T' h', Stand p l e R s m args below meth c T' locs (cells + 1) (slots + 1) ∧ T'.heap = h' ∧ Ext h h' ∧ ∀ target, Steps p.tables e below (T'.setTop { g with pc := g.pc + 5, stack := .ref h.size :: rest }) target → Steps p.tables e below (T.setTop g) target := by
  have hnZ : Z.methodNamed? y = some m := by
    have q : (Z.setVm s.vm).methodNamed? y = some m := hnm
    rw [State.methodNamed?_setVm hZ.alike] at q; exact q
  obtain ⟨cK, one, hat⟩ := Cond.lambdaSite_spec w
  obtain ⟨m', k, cf, i0, p0, lk, hm', hk, hcf, hsh, hin, hfind, hmade, hcan, hlk⟩ := State.lambdaAt?_spec hat
  cases hnZ.symm.trans hm'
  obtain ⟨rfl, -, -⟩ : lk = .makes cK ∧ one = none ∧ own_σ.captured ≠ [] := by
    rcases hlk with ⟨a, cell, -, -, h, -⟩ | h
    · exact absurd h (by decide)
    · exact h
  obtain ⟨b, nt, name, desc, site, hb, hnt, hsite, hpar⟩ := own_shape hsh
  obtain ⟨k', hk', hname⟩ := className_of_methodNamed hnZ
  cases hk.symm.trans hk'
  obtain ⟨o, ko, ho, hko, -, -, -, hsz⟩ := Cond.instantiable_spec wo
  obtain ⟨kc, hkc, hkind, hty⟩ := own_made hk (hname.trans hyc) hmade ho hko hsz
  obtain ⟨k1, hk1, he1⟩ := hZ.alike.2.2 _ _ hk
  obtain ⟨kc1, hkc1, hec1⟩ := hZ.alike.2.2 _ _ hkc
  have hty1 : kc1.instanceTypes = #[FieldType.object own_HS] := by rw [hec1]; exact hty
  have hkind1 : kc1.kind = .ordinary := by rw [hec1]; exact hkind
  have hsl : ((kc1.instanceTypes.toList.zip [Value.ref ob]).map fun (t, v) => narrow t v) = [Value.ref ob] := by rw [hty1]; rfl
  subst eT
  obtain ⟨X1, st⟩ := X.lambdaMakes hx hg hsize hd (k := k1) (vals := [Value.ref ob]) (rest := rest) hk1 (by rw [he1, hpc]; exact hfind) (by rw [he1]; exact hcf) hb hnt (parseLong_of_parse hsite) (by rw [hpar]; rfl) hstack hkc1
    (by rw [X.admits.platform]; show _ + 3072 ≤ _; omega) hc (by rw [hsl]; exact hs)
    (fun i v hv => by
      rw [hsl] at hv
      cases i with
      | zero => simp at hv; subst hv; simp [State.fitsSlot, State.slotType?, hkc1, hkind1, hty1, fits]
      | succ j => simp at hv)
  rw [hsl] at X1 st
  refine ⟨_, _, X1, rfl, ?_, st⟩
  constructor
  · show _ ≤ (T.heap.push _).size
    rw [Array.size_push]; omega
  · intro a cc q
    show (T.heap.push _)[a]? = some cc
    rw [Array.getElem?_push, if_neg (fun z => by rw [z] at q; simp at q)]; exact q
theorem own_specialRef (X : Stand p l e R s m args below meth c T locs cells slots) (hexec : p.tables.exec = Jvm.exec) {own : String} {index : Nat} {y : MethodName} (hy1 : y.name = "<init>")
    (hown : s.vm.findClass own = some m.cls) (hlink : (Cond.methodRef own index y).before args s = true) (hinst : (Cond.instanceMethod y).before args s = true)
    {bytes : ByteArray} {maxL : Nat} (hcode : (Cond.code y bytes maxL none).before args s = true)
    (hy : y.cls ≠ "java/lang/invoke/MethodHandle" ∧ y.cls ≠ "java/lang/invoke/VarHandle")
    {W : Nat} {Pre : Pt → Array Value → Prop} {Post : Pt → Array Value → Option Value → Pt → Prop} (hK : Back l R p e below s args y 3 W Pre Post)
    {g : JFrame} (hg : g.method = m) (hsize : g.locals.size = c.maxLocals) {s₀ : State} (hcome : Steps p.tables e below s₀ (T.setTop g)) {a : Addr} {argsL rest : List Value}
    (hlen : ∀ sig, parseMethodDescriptor y.desc = some sig → argsL.length = sig.parameters.length) (hstack : g.stack = argsL.reverse ++ .ref a :: rest) (hW : 2 * g.monitorRoom + (rest.map fun v => v.category).sum ≤ W)
    (hdg : decode c.code g.pc = .ok (.invokespecial index, 3)) (hpre : ∀ vm₁, s.WarmedH vm₁ → Pre ⟨T.setVm vm₁, locs, cells, slots⟩ (.ref a :: argsL).toArray) :
    ∃ (v : Option Value) (vm₁ : Vm) (B : Pt), s.WarmedH vm₁ ∧ Stand p l e R s m args below meth c B.U B.locs B.cells B.slots ∧ Post ⟨T.setVm vm₁, locs, cells, slots⟩ (.ref a :: argsL).toArray v B ∧
      Steps p.tables e below s₀ (B.U.setTop { g with pc := g.pc + 3, stack := v.toList ++ rest }) := by
  obtain ⟨mk, mM, hnO, hmO, hstO, habO⟩ := Cond.instanceMethod_spec hinst
  obtain ⟨mM', cO, hmO', -, -, -, -, -, -, hsig⟩ := Cond.code_spec hnO hcode
  cases hmO.symm.trans hmO'
  obtain ⟨kO, hkO, -⟩ := className_of_methodNamed hnO
  obtain ⟨hnm, hds⟩ := name_of_methodNamed hnO hmO
  have hal := X.warmed.alike
  have hT : (Cond.methodRef own index y).before args (s.setVm T.vm) = true := Cond.methodRef_warmed39 X.warmed.wide hnO hy hlink
  have hoT : (s.setVm T.vm).vm.findClass own = some m.cls := by show T.vm.findClass own = _; rw [hal.findClass]; exact hown
  obtain ⟨m', c', hf, hready, hfc, hnr⟩ := Cond.methodRef_named e hoT hT
  have hnT : (s.setVm T.vm).methodNamed? y = some mk := by rw [State.methodNamed?_setVm hal]; exact hnO
  cases hf.symm.trans (State.methodFound?_of_named hnT hy)
  cases hfc.symm.trans (findClass_of_methodNamed hnT)
  obtain ⟨kT, hkT, -⟩ := hal.2.2 _ _ hkO
  have hmT : T.vm.method? mk = some mM := by rw [hal.method?]; exact hmO
  have hfound : lookupSpecial T.vm mk.cls "<init>" mM.desc = .method mk := by rw [hal.lookupSpecial, hds, ← hy1]; exact lookupSpecial_of_named hnO hmO hstO
  have step : ∀ target, (∀ acts, Steps p.tables e below (doInvoke e (T.setTop { g with stack := rest }) acts mk (.ref a :: argsL).toArray).1 target) → Steps p.tables e below (T.setTop g) target := by
    intro target hrest
    subst hg
    jvm_step X.here [hexec, hdg, invokespecial.wp_init (e := e) (s := T) (k := kT) (meth := mM) (m := mk) (a := a) (args := argsL) (rest := rest) (f := g) X.here.top hnr hready hkT hmT (hnm.trans hy1) hstO habO hfound (hlen _ hsig) hstack]
    exact hrest
  have hTT : T.setVm T.vm = T := by cases T; rfl
  have hp := hpre T.vm X.warmed
  rw [hTT] at hp
  obtain ⟨v, B, X', hpost, hsteps⟩ := hK m meth c ⟨T, locs, cells, slots⟩ { g with stack := rest } (.invokespecial index) mk (.ref a :: argsL).toArray X hg hsize hdg hW (X.named hnO) hp
  exact ⟨v, T.vm, B, X.warmed, X', by rw [hTT]; exact hpost, (hcome.trans (step _ fun acts => by rw [doInvoke_state]; exact Steps.refl _)).trans hsteps⟩
end

theorem own_tab_congX : True := trivial
def own_tabJ (f : Nat → Int64) (n : Nat) : List Value := (List.range n).map fun j => .long (f j)
theorem own_tabJ_len (f : Nat → Int64) (n : Nat) : (own_tabJ f n).length = n := by simp [own_tabJ]
theorem own_tabJ_get {f : Nat → Int64} {n j : Nat} (h : j < n) (d : Value) : (own_tabJ f n).getD j d = .long (f j) := by
  simp [own_tabJ, List.getD_eq_getElem?_getD, List.getElem?_range h]
theorem own_tabJ_set (f : Nat → Int64) (n j : Nat) (x : Int64) : (own_tabJ f n).set j (.long x) = own_tabJ (fun i => if i = j then x else f i) n := by
  apply List.ext_getElem
  · simp [own_tabJ]
  · intro i h1 h2
    simp only [own_tabJ, List.getElem_set, List.getElem_map, List.getElem_range]
    by_cases h : i = j
    · subst h; simp
    · simp [h, Ne.symm h]
theorem own_tabJ_pad (n : Nat) : own_tabJ (fun _ => 0) n = [] ++ List.replicate n (Value.long (0 : Int64)) := by
  apply List.ext_getElem
  · simp [own_tabJ]
  · intro i h1 h2; simp [own_tabJ]
theorem own_copyJ {g : Nat → Int64} {z z2 : Nat} (h : z ≤ z2) : (own_tabJ (fun _ => 0) z2).take 0 ++ own_tabJ g z ++ (own_tabJ (fun _ => 0) z2).drop (0 + z) = own_tabJ (fun j => if j < z then g j else 0) z2 := by
  have e0 : (own_tabJ (fun _ => 0) z2).take 0 ++ own_tabJ g z ++ (own_tabJ (fun _ => 0) z2).drop (0 + z) = own_tabJ g z ++ (own_tabJ (fun _ => 0) z2).drop z := by rw [List.take_zero, List.nil_append, Nat.zero_add]
  rw [e0]
  apply List.ext_getElem
  · simp [own_tabJ]; omega
  · intro i h1 h2
    have hi : i < z2 := by simpa [own_tabJ] using h2
    by_cases q : i < z
    · rw [List.getElem_append_left (by simpa [own_tabJ] using q)]; simp [own_tabJ, q]
    · rw [List.getElem_append_right (by simpa [own_tabJ] using q)]; simp [own_tabJ, q]
theorem own_usJ {g : Nat → Int64} {z : Nat} (h : z < 2147483648) : own_tabJ g z = (List.range (Int32.ofNat z).toNatClampNeg).map fun i => (own_tabJ g z).getD ((0 : Int32).toNatClampNeg + i) (.long (0 : Int64)) := by
  rw [own_clamp h, show (0 : Int32).toNatClampNeg = 0 from by decide]
  unfold own_tabJ
  apply List.map_congr_left
  intro j hj
  rw [Nat.zero_add]
  exact (own_tabJ_get (List.mem_range.mp hj) _).symm
theorem own_cgJ {Z : State} {h : Heap} {a : Addr} {k : ClassId} {ty : FieldType} {z : Int32} {f g : Nat → Int64} {n : Nat} {d : Value} (V : Arv Z h a k ty z (own_tabJ f n) d) (e : ∀ j, j < n → f j = g j) : Arv Z h a k ty z (own_tabJ g n) d := by
  have q : own_tabJ f n = own_tabJ g n := by
    unfold own_tabJ
    apply List.map_congr_left
    intro j hj
    rw [e j (List.mem_range.mp hj)]
  rw [← q]; exact V
theorem own_and (x m : Int32) (n : Nat) (h : 0 ≤ m.toInt) (e : m.toInt = n) (hn : n < 2147483648) : ∃ z, z ≤ n ∧ x &&& m = Int32.ofNat z := by
  have q := c_and x m h
  refine ⟨(x &&& m).toInt.toNat, by omega, Int32.toInt_inj.mp ?_⟩
  rw [own_toN (by omega)]; omega
theorem own_sub1 {k : Nat} (h : 1 ≤ k) : Int32.ofNat k - (1 : Int32) = Int32.ofNat (k - 1) := by
  obtain ⟨j, rfl⟩ : ∃ j, k = j + 1 := ⟨k - 1, by omega⟩
  rw [Int32.ofNat_add, show j + 1 - 1 = j from rfl]
  show Int32.ofNat j + 1 - 1 = Int32.ofNat j
  simp
def own_in (k : Nat) (g : Nat → Int64) (v : Int64) : Prop := ∃ j, j < k ∧ g j = v
def own_inj (k : Nat) (g : Nat → Int64) : Prop := ∀ i j, i < k → j < k → g i = g j → i = j
/-- the batches that have passed: k of them, the first k places of an array of z longs -/
def own_PB (Z : State) (h : Heap) (n0 : Nat) (so : Addr) (k z : Nat) (g : Nat → Int64) : Prop := ∃ (pa : Addr) (kp : ClassId), Fld Z h so "com/example/earmark/earmark/ledger/HoldStates" "passed" "[J" (.ref pa) ∧ Fld Z h so "com/example/earmark/earmark/ledger/HoldStates" "passedCount" "I" (.int (Int32.ofNat k)) ∧ Arv Z h pa kp .long (Int32.ofNat z) (own_tabJ g z) (.long (0 : Int64)) ∧ pa ≠ so ∧ n0 ≤ pa
theorem own_inS {k : Nat} {g g' : Nat → Int64} {x v : Int64} (h1 : ∀ j, j < k → g' j = g j) (h2 : g' k = x) : own_in (k + 1) g' v ↔ own_in k g v ∨ v = x := by
  constructor
  · rintro ⟨j, hj, e⟩
    by_cases q : j = k
    · right; rw [← e, q, h2]
    · left; exact ⟨j, by omega, by rw [← h1 j (by omega)]; exact e⟩
  · rintro (⟨j, hj, e⟩ | rfl)
    · exact ⟨j, by omega, by rw [h1 j hj]; exact e⟩
    · exact ⟨k, by omega, h2⟩
theorem own_injS {k : Nat} {g g' : Nat → Int64} {x : Int64} (h1 : ∀ j, j < k → g' j = g j) (h2 : g' k = x) (h : own_inj k g) (q : ¬ own_in k g x) : own_inj (k + 1) g' := by
  intro i j hi hj e
  by_cases a : i = k
  · by_cases b : j = k
    · omega
    · exact absurd ⟨j, by omega, by rw [← h1 j (by omega), ← e, a, h2]⟩ q
  · by_cases b : j = k
    · exact absurd ⟨i, by omega, by rw [← h1 i (by omega), e, b, h2]⟩ q
    · exact h i j (by omega) (by omega) (by rw [← h1 i (by omega), ← h1 j (by omega)]; exact e)
theorem own_inR {k i : Nat} {g : Nat → Int64} {x v : Int64} (h : own_inj k g) (hi : i < k) (hx : g i = x) : own_in (k - 1) (fun j => if j = i then g (k - 1) else g j) v ↔ own_in k g v ∧ ¬ v = x := by
  constructor
  · rintro ⟨j, hj, e⟩
    by_cases q : j = i
    · subst q
      have e' : g (k - 1) = v := by simpa using e
      refine ⟨⟨k - 1, by omega, e'⟩, fun z => ?_⟩
      have := h (k - 1) j (by omega) (by omega) (by rw [e', hx, z])
      omega
    · have e' : g j = v := by simpa [q] using e
      refine ⟨⟨j, by omega, e'⟩, fun z => q ?_⟩
      exact h j i (by omega) hi (by rw [e', hx, z])
  · rintro ⟨⟨j, hj, e⟩, hv⟩
    have hji : j ≠ i := fun z => hv (by rw [← e, z, hx])
    by_cases q : j = k - 1
    · exact ⟨i, by omega, by show (if i = i then g (k - 1) else g i) = v; rw [if_pos rfl, ← q, e]⟩
    · exact ⟨j, by omega, by show (if j = i then g (k - 1) else g j) = v; rw [if_neg hji, e]⟩
theorem own_injR {k i : Nat} {g : Nat → Int64} (h : own_inj k g) (hi : i < k) : own_inj (k - 1) (fun j => if j = i then g (k - 1) else g j) := by
  intro a b ha hb e
  by_cases qa : a = i
  · by_cases qb : b = i
    · omega
    · have := h (k - 1) b (by omega) (by omega) (by simpa [qa, qb] using e)
      omega
  · by_cases qb : b = i
    · have := h a (k - 1) (by omega) (by omega) (by simpa [qa, qb] using e)
      omega
    · exact h a b (by omega) (by omega) (by simpa [qa, qb] using e)
theorem own_mvRef {Z s : State} {a0 args : Array Value} {cls : String} {index : Nat} {y : MethodName} (hZ : Z.Warmed39 s.vm) (wi : (Cond.instanceMethod y).before a0 Z = true) (w : (Cond.methodRef cls index y).before a0 Z = true) (hy : y.cls ≠ "java/lang/invoke/MethodHandle" ∧ y.cls ≠ "java/lang/invoke/VarHandle") : (Cond.methodRef cls index y).before args s = true := by
  obtain ⟨mk, mM, hn, -⟩ := Cond.instanceMethod_spec wi
  have q : (Cond.methodRef cls index y).before a0 (Z.setVm s.vm) = true := Cond.methodRef_warmed39 hZ hn hy w
  exact q
/-- an array of references of N places, whatever it holds -/
def own_AR (Z : State) (h : Heap) (a : Addr) (ty : FieldType) (n : Nat) : Prop := ∃ cl : Cell, Arr Z h a cl ty ∧ cl.slots.size = n
theorem own_exaB {Z : State} {vm : Vm} {h : Heap} {EL : List (String × Nat)} {a0 : Array Value} {own text : String} {ix : Nat} {a b : Addr} {k : ClassId} {z : Int32} {vs : List Value} {dv : Value} {s : State} (hZ : Z.Warmed39 vm) {cO : ClassId} (hO : Z.vm.findClass own = some cO) (w : (Cond.stringLink own ix text).before a0 Z = true) (H : CHv Z EL vm h) (hm : (own, ix) ∈ EL) (L : Lit (s.setVm vm) own ix a) (Fv : Fld Z h a "java/lang/String" "value" "[B" (.ref b)) (V : Arv Z h b k .byte z vs dv) : Exa Z h b "[B" := by
  obtain ⟨k0, cf, i, units, hk, hcf, hc, hu, -, -, -⟩ := Cond.stringLink_spec hO w
  obtain ⟨k1, hk1, he⟩ := hZ.alike.2.2 _ _ hk
  have hO' : vm.findClass own = some cO := by rw [hZ.alike.findClass]; exact hO
  have hr : k1.resolved[ix]? = some (some (.string a)) := by
    have q : (s.setVm vm).resolvedAt? own ix = some (.string a) := L
    simp only [State.resolvedAt?, State.vm_setVm, hO', Option.bind_eq_bind, Option.bind_some, hk1] at q
    cases hq : k1.resolved[ix]? with
    | none => rw [hq] at q; cases q
    | some r => rw [hq] at q; cases r with
      | none => cases q
      | some r => simpa using q
  have B : Booksv vm own ix units a := ⟨cO, k1, cf, i, hO', hk1, by rw [he]; exact hcf, hc, hu, Or.inl hr⟩
  obtain ⟨q, rfl, G⟩ := SlB.of (H _ hm units a B)
  have hd := G.hd
  obtain ⟨cS, ⟨⟨s1, s2, s3, ⟨cv, kv, iv, s4, s4'⟩, -, -, -, s8, -⟩, -⟩, -, f, -⟩ := G
  obtain ⟨cell, cf', k', i', fd, e1, e2, -, -, -, -, e7⟩ := Fv
  obtain ⟨k'', z4⟩ := ff_back (U := Wst Z vm h) hZ.alike s4
  cases e2.symm.trans z4
  cases (show h[q.sa]? = some q.sC from s1).symm.trans e1
  have eb : q.sd = b := by rw [s8] at e7; cases e7; rfl
  subst eb
  obtain ⟨cl, Ar, -⟩ := V
  cases (show h[q.sd]? = some q.SA from hd).symm.trans Ar.1
  obtain ⟨os, ks, hks, sc, hsk⟩ := Ar.2.1
  refine ⟨q.SA, ks, hd, ?_, hks, ?_, fun z => by rw [hsk] at z; cases z⟩
  · have f' : vm.findClass "[B" = some q.SA.cls := f
    rw [← hZ.alike.findClass]; exact f'
  · cases hq : q.SA.vm <;> first | rfl | exact absurd hq (os _)

theorem own_wS {Z : State} {a0 : Array Value} (hw : ∀ d ∈ tables_1, d.before a0 Z = true) : ∀ a ∈ Bundle.stringAtoms, a.before a0 Z = true := by
  intro d hd
  simp only [Bundle.stringAtoms, Bundle.sN, List.mem_cons, List.not_mem_nil, or_false] at hd
  rcases hd with rfl | rfl | rfl | rfl | rfl | rfl | rfl
  · exact (hw _ (List.mem_of_getElem? (i := 8) rfl))
  · exact (hw _ (List.mem_of_getElem? (i := 9) rfl))
  · exact (hw _ (List.mem_of_getElem? (i := 10) rfl))
  · exact (hw _ (List.mem_of_getElem? (i := 11) rfl))
  · exact (hw _ (List.mem_of_getElem? (i := 12) rfl))
  · exact (hw _ (List.mem_of_getElem? (i := 13) rfl))
  · exact (hw _ (List.mem_of_getElem? (i := 14) rfl))
theorem own_EL {Z : State} {a0 : Array Value} (hw : ∀ d ∈ tables_1, d.before a0 Z = true) : EW Z a0 consts_1 := (EW.cons (hw _ (List.mem_of_getElem? (i := 7) rfl)) (by decide) EW.nil)

theorem d1_0 : decode method_3_code 0 = .ok (.iload_n 0, 1) := by decide +kernel
theorem d1_1 : decode method_3_code 1 = .ok (.ifCond .ne 5, 3) := by decide +kernel
theorem d1_4 : decode method_3_code 4 = .ok (.lload_n 1, 1) := by decide +kernel
theorem d1_5 : decode method_3_code 5 = .ok (.lreturn, 1) := by decide +kernel
theorem d1_6 : decode method_3_code 6 = .ok (.iload_n 0, 1) := by decide +kernel
theorem d1_7 : decode method_3_code 7 = .ok (.iconst 1, 1) := by decide +kernel
theorem d1_8 : decode method_3_code 8 = .ok (.if_icmp .ne 5, 3) := by decide +kernel
theorem d1_11 : decode method_3_code 11 = .ok (.lload_n 3, 1) := by decide +kernel
theorem d1_12 : decode method_3_code 12 = .ok (.lreturn, 1) := by decide +kernel
theorem d1_13 : decode method_3_code 13 = .ok (.iload_n 0, 1) := by decide +kernel
theorem d1_14 : decode method_3_code 14 = .ok (.iconst 2, 1) := by decide +kernel
theorem d1_15 : decode method_3_code 15 = .ok (.if_icmp .ne 6, 3) := by decide +kernel
theorem d1_18 : decode method_3_code 18 = .ok (.lload 5, 2) := by decide +kernel
theorem d1_20 : decode method_3_code 20 = .ok (.lreturn, 1) := by decide +kernel
theorem d1_21 : decode method_3_code 21 = .ok (.lload 7, 2) := by decide +kernel
theorem d1_23 : decode method_3_code 23 = .ok (.lreturn, 1) := by decide +kernel
theorem d2_0 : decode prog_73_method_1_code 0 = .ok (.aload_n 0, 1) := by decide +kernel
theorem d2_1 : decode prog_73_method_1_code 1 = .ok (.invokespecial 5, 3) := by decide +kernel
theorem d2_4 : decode prog_73_method_1_code 4 = .ok (.aload_n 0, 1) := by decide +kernel
theorem d2_5 : decode prog_73_method_1_code 5 = .ok (.iconst 1, 1) := by decide +kernel
theorem d2_6 : decode prog_73_method_1_code 6 = .ok (.anewarray 11, 3) := by decide +kernel
theorem d2_9 : decode prog_73_method_1_code 9 = .ok (.dup, 1) := by decide +kernel
theorem d2_10 : decode prog_73_method_1_code 10 = .ok (.iconst 0, 1) := by decide +kernel
theorem d2_11 : decode prog_73_method_1_code 11 = .ok (.new 11, 3) := by decide +kernel
theorem d2_14 : decode prog_73_method_1_code 14 = .ok (.dup, 1) := by decide +kernel
theorem d2_15 : decode prog_73_method_1_code 15 = .ok (.bipush 16, 2) := by decide +kernel
theorem d2_17 : decode prog_73_method_1_code 17 = .ok (.invokespecial 13, 3) := by decide +kernel
theorem d2_20 : decode prog_73_method_1_code 20 = .ok (.aastore, 1) := by decide +kernel
theorem d2_21 : decode prog_73_method_1_code 21 = .ok (.putfield 16, 3) := by decide +kernel
theorem d2_24 : decode prog_73_method_1_code 24 = .ok (.aload_n 0, 1) := by decide +kernel
theorem d2_25 : decode prog_73_method_1_code 25 = .ok (.new 20, 3) := by decide +kernel
theorem d2_28 : decode prog_73_method_1_code 28 = .ok (.dup, 1) := by decide +kernel
theorem d2_29 : decode prog_73_method_1_code 29 = .ok (.bipush 8, 2) := by decide +kernel
theorem d2_31 : decode prog_73_method_1_code 31 = .ok (.aload_n 0, 1) := by decide +kernel
theorem d2_32 : decode prog_73_method_1_code 32 = .ok (.invokedynamic 22, 5) := by decide +kernel
theorem d2_37 : decode prog_73_method_1_code 37 = .ok (.invokespecial 26, 3) := by decide +kernel
theorem d2_40 : decode prog_73_method_1_code 40 = .ok (.putfield 29, 3) := by decide +kernel
theorem d2_43 : decode prog_73_method_1_code 43 = .ok (.aload_n 0, 1) := by decide +kernel
theorem d2_44 : decode prog_73_method_1_code 44 = .ok (.new 33, 3) := by decide +kernel
theorem d2_47 : decode prog_73_method_1_code 47 = .ok (.dup, 1) := by decide +kernel
theorem d2_48 : decode prog_73_method_1_code 48 = .ok (.invokespecial 35, 3) := by decide +kernel
theorem d2_51 : decode prog_73_method_1_code 51 = .ok (.putfield 36, 3) := by decide +kernel
theorem d2_54 : decode prog_73_method_1_code 54 = .ok (.aload_n 0, 1) := by decide +kernel
theorem d2_55 : decode prog_73_method_1_code 55 = .ok (.new 33, 3) := by decide +kernel
theorem d2_58 : decode prog_73_method_1_code 58 = .ok (.dup, 1) := by decide +kernel
theorem d2_59 : decode prog_73_method_1_code 59 = .ok (.invokespecial 35, 3) := by decide +kernel
theorem d2_62 : decode prog_73_method_1_code 62 = .ok (.putfield 40, 3) := by decide +kernel
theorem d2_65 : decode prog_73_method_1_code 65 = .ok (.aload_n 0, 1) := by decide +kernel
theorem d2_66 : decode prog_73_method_1_code 66 = .ok (.iconst 0, 1) := by decide +kernel
theorem d2_67 : decode prog_73_method_1_code 67 = .ok (.anewarray 43, 3) := by decide +kernel
theorem d2_70 : decode prog_73_method_1_code 70 = .ok (.putfield 45, 3) := by decide +kernel
theorem d2_73 : decode prog_73_method_1_code 73 = .ok (.aload_n 0, 1) := by decide +kernel
theorem d2_74 : decode prog_73_method_1_code 74 = .ok (.iconst 1, 1) := by decide +kernel
theorem d2_75 : decode prog_73_method_1_code 75 = .ok (.newarray .long, 2) := by decide +kernel
theorem d2_77 : decode prog_73_method_1_code 77 = .ok (.putfield 49, 3) := by decide +kernel
theorem d2_80 : decode prog_73_method_1_code 80 = .ok (.aload_n 0, 1) := by decide +kernel
theorem d2_81 : decode prog_73_method_1_code 81 = .ok (.aload_n 1, 1) := by decide +kernel
theorem d2_82 : decode prog_73_method_1_code 82 = .ok (.putfield 52, 3) := by decide +kernel
theorem d2_85 : decode prog_73_method_1_code 85 = .ok (.aload_n 0, 1) := by decide +kernel
theorem d2_86 : decode prog_73_method_1_code 86 = .ok (.aload_n 1, 1) := by decide +kernel
theorem d2_87 : decode prog_73_method_1_code 87 = .ok (.getstatic 56, 3) := by decide +kernel
theorem d2_90 : decode prog_73_method_1_code 90 = .ok (.invokevirtual 62, 3) := by decide +kernel
theorem d2_93 : decode prog_73_method_1_code 93 = .ok (.putfield 68, 3) := by decide +kernel
theorem d2_96 : decode prog_73_method_1_code 96 = .ok (.return_, 1) := by decide +kernel
theorem d4_0 : decode prog_75_method_1_code 0 = .ok (.aload_n 0, 1) := by decide +kernel
theorem d4_1 : decode prog_75_method_1_code 1 = .ok (.iload_n 1, 1) := by decide +kernel
theorem d4_2 : decode prog_75_method_1_code 2 = .ok (.newarray .long, 2) := by decide +kernel
theorem d4_4 : decode prog_75_method_1_code 4 = .ok (.iload_n 1, 1) := by decide +kernel
theorem d4_5 : decode prog_75_method_1_code 5 = .ok (.newarray .long, 2) := by decide +kernel
theorem d4_7 : decode prog_75_method_1_code 7 = .ok (.iload_n 1, 1) := by decide +kernel
theorem d4_8 : decode prog_75_method_1_code 8 = .ok (.anewarray 3, 3) := by decide +kernel
theorem d4_11 : decode prog_75_method_1_code 11 = .ok (.iload_n 1, 1) := by decide +kernel
theorem d4_12 : decode prog_75_method_1_code 12 = .ok (.newarray .long, 2) := by decide +kernel
theorem d4_14 : decode prog_75_method_1_code 14 = .ok (.iload_n 1, 1) := by decide +kernel
theorem d4_15 : decode prog_75_method_1_code 15 = .ok (.newarray .long, 2) := by decide +kernel
theorem d4_17 : decode prog_75_method_1_code 17 = .ok (.iload_n 1, 1) := by decide +kernel
theorem d4_18 : decode prog_75_method_1_code 18 = .ok (.newarray .long, 2) := by decide +kernel
theorem d4_20 : decode prog_75_method_1_code 20 = .ok (.iload_n 1, 1) := by decide +kernel
theorem d4_21 : decode prog_75_method_1_code 21 = .ok (.anewarray 5, 3) := by decide +kernel
theorem d4_24 : decode prog_75_method_1_code 24 = .ok (.invokespecial 7, 3) := by decide +kernel
theorem d4_27 : decode prog_75_method_1_code 27 = .ok (.return_, 1) := by decide +kernel
theorem d5_0 : decode prog_75_method_2_code 0 = .ok (.aload_n 0, 1) := by decide +kernel
theorem d5_1 : decode prog_75_method_2_code 1 = .ok (.invokespecial 13, 3) := by decide +kernel
theorem d5_4 : decode prog_75_method_2_code 4 = .ok (.aload_n 0, 1) := by decide +kernel
theorem d5_5 : decode prog_75_method_2_code 5 = .ok (.aload_n 1, 1) := by decide +kernel
theorem d5_6 : decode prog_75_method_2_code 6 = .ok (.putfield 16, 3) := by decide +kernel
theorem d5_9 : decode prog_75_method_2_code 9 = .ok (.aload_n 0, 1) := by decide +kernel
theorem d5_10 : decode prog_75_method_2_code 10 = .ok (.aload_n 2, 1) := by decide +kernel
theorem d5_11 : decode prog_75_method_2_code 11 = .ok (.putfield 20, 3) := by decide +kernel
theorem d5_14 : decode prog_75_method_2_code 14 = .ok (.aload_n 0, 1) := by decide +kernel
theorem d5_15 : decode prog_75_method_2_code 15 = .ok (.aload_n 3, 1) := by decide +kernel
theorem d5_16 : decode prog_75_method_2_code 16 = .ok (.putfield 23, 3) := by decide +kernel
theorem d5_19 : decode prog_75_method_2_code 19 = .ok (.aload_n 0, 1) := by decide +kernel
theorem d5_20 : decode prog_75_method_2_code 20 = .ok (.aload 4, 2) := by decide +kernel
theorem d5_22 : decode prog_75_method_2_code 22 = .ok (.putfield 27, 3) := by decide +kernel
theorem d5_25 : decode prog_75_method_2_code 25 = .ok (.aload_n 0, 1) := by decide +kernel
theorem d5_26 : decode prog_75_method_2_code 26 = .ok (.aload 5, 2) := by decide +kernel
theorem d5_28 : decode prog_75_method_2_code 28 = .ok (.putfield 30, 3) := by decide +kernel
theorem d5_31 : decode prog_75_method_2_code 31 = .ok (.aload_n 0, 1) := by decide +kernel
theorem d5_32 : decode prog_75_method_2_code 32 = .ok (.aload 6, 2) := by decide +kernel
theorem d5_34 : decode prog_75_method_2_code 34 = .ok (.putfield 33, 3) := by decide +kernel
theorem d5_37 : decode prog_75_method_2_code 37 = .ok (.aload_n 0, 1) := by decide +kernel
theorem d5_38 : decode prog_75_method_2_code 38 = .ok (.aload 7, 2) := by decide +kernel
theorem d5_40 : decode prog_75_method_2_code 40 = .ok (.putfield 36, 3) := by decide +kernel
theorem d5_43 : decode prog_75_method_2_code 43 = .ok (.return_, 1) := by decide +kernel
theorem d6_0 : decode prog_113_method_1_code 0 = .ok (.aload_n 0, 1) := by decide +kernel
theorem d6_1 : decode prog_113_method_1_code 1 = .ok (.invokespecial 1, 3) := by decide +kernel
theorem d6_4 : decode prog_113_method_1_code 4 = .ok (.aload_n 0, 1) := by decide +kernel
theorem d6_5 : decode prog_113_method_1_code 5 = .ok (.iload_n 1, 1) := by decide +kernel
theorem d6_6 : decode prog_113_method_1_code 6 = .ok (.putfield 7, 3) := by decide +kernel
theorem d6_9 : decode prog_113_method_1_code 9 = .ok (.aload_n 0, 1) := by decide +kernel
theorem d6_10 : decode prog_113_method_1_code 10 = .ok (.aload_n 2, 1) := by decide +kernel
theorem d6_11 : decode prog_113_method_1_code 11 = .ok (.putfield 13, 3) := by decide +kernel
theorem d6_14 : decode prog_113_method_1_code 14 = .ok (.aload_n 0, 1) := by decide +kernel
theorem d6_15 : decode prog_113_method_1_code 15 = .ok (.iconst 1, 1) := by decide +kernel
theorem d6_16 : decode prog_113_method_1_code 16 = .ok (.iload_n 1, 1) := by decide +kernel
theorem d6_17 : decode prog_113_method_1_code 17 = .ok (.ishl, 1) := by decide +kernel
theorem d6_18 : decode prog_113_method_1_code 18 = .ok (.anewarray 17, 3) := by decide +kernel
theorem d6_21 : decode prog_113_method_1_code 21 = .ok (.putfield 19, 3) := by decide +kernel
theorem d6_24 : decode prog_113_method_1_code 24 = .ok (.aload_n 0, 1) := by decide +kernel
theorem d6_25 : decode prog_113_method_1_code 25 = .ok (.getfield 19, 3) := by decide +kernel
theorem d6_28 : decode prog_113_method_1_code 28 = .ok (.getstatic 23, 3) := by decide +kernel
theorem d6_31 : decode prog_113_method_1_code 31 = .ok (.invokestatic 26, 3) := by decide +kernel
theorem d6_34 : decode prog_113_method_1_code 34 = .ok (.aload_n 0, 1) := by decide +kernel
theorem d6_35 : decode prog_113_method_1_code 35 = .ok (.iconst 1, 1) := by decide +kernel
theorem d6_36 : decode prog_113_method_1_code 36 = .ok (.iload_n 1, 1) := by decide +kernel
theorem d6_37 : decode prog_113_method_1_code 37 = .ok (.ishl, 1) := by decide +kernel
theorem d6_38 : decode prog_113_method_1_code 38 = .ok (.newarray .int, 2) := by decide +kernel
theorem d6_40 : decode prog_113_method_1_code 40 = .ok (.putfield 32, 3) := by decide +kernel
theorem d6_43 : decode prog_113_method_1_code 43 = .ok (.return_, 1) := by decide +kernel
theorem d7_0 : decode jdk_65_method_117_code 0 = .ok (.iconst 0, 1) := by decide +kernel
theorem d7_1 : decode jdk_65_method_117_code 1 = .ok (.istore_n 2, 1) := by decide +kernel
theorem d7_2 : decode jdk_65_method_117_code 2 = .ok (.aload_n 0, 1) := by decide +kernel
theorem d7_3 : decode jdk_65_method_117_code 3 = .ok (.arraylength, 1) := by decide +kernel
theorem d7_4 : decode jdk_65_method_117_code 4 = .ok (.istore_n 3, 1) := by decide +kernel
theorem d7_5 : decode jdk_65_method_117_code 5 = .ok (.iload_n 2, 1) := by decide +kernel
theorem d7_6 : decode jdk_65_method_117_code 6 = .ok (.iload_n 3, 1) := by decide +kernel
theorem d7_7 : decode jdk_65_method_117_code 7 = .ok (.if_icmp .ge 13, 3) := by decide +kernel
theorem d7_10 : decode jdk_65_method_117_code 10 = .ok (.aload_n 0, 1) := by decide +kernel
theorem d7_11 : decode jdk_65_method_117_code 11 = .ok (.iload_n 2, 1) := by decide +kernel
theorem d7_12 : decode jdk_65_method_117_code 12 = .ok (.aload_n 1, 1) := by decide +kernel
theorem d7_13 : decode jdk_65_method_117_code 13 = .ok (.aastore, 1) := by decide +kernel
theorem d7_14 : decode jdk_65_method_117_code 14 = .ok (.iinc 2 1, 3) := by decide +kernel
theorem d7_17 : decode jdk_65_method_117_code 17 = .ok (.goto (-12), 3) := by decide +kernel
theorem d7_20 : decode jdk_65_method_117_code 20 = .ok (.return_, 1) := by decide +kernel
theorem d8_0 : decode jdk_69_method_7_code 0 = .ok (.aload_n 0, 1) := by decide +kernel
theorem d8_1 : decode jdk_69_method_7_code 1 = .ok (.invokespecial 43, 3) := by decide +kernel
theorem d8_4 : decode jdk_69_method_7_code 4 = .ok (.aload_n 0, 1) := by decide +kernel
theorem d8_5 : decode jdk_69_method_7_code 5 = .ok (.ldc 92, 2) := by decide +kernel
theorem d8_7 : decode jdk_69_method_7_code 7 = .ok (.putfield 81, 3) := by decide +kernel
theorem d8_10 : decode jdk_69_method_7_code 10 = .ok (.return_, 1) := by decide +kernel
theorem d9_0 : decode jdk_71_method_1_code 0 = .ok (.aload_n 0, 1) := by decide +kernel
theorem d9_1 : decode jdk_71_method_1_code 1 = .ok (.invokespecial 1, 3) := by decide +kernel
theorem d9_4 : decode jdk_71_method_1_code 4 = .ok (.return_, 1) := by decide +kernel
theorem d10_0 : decode jdk_42_method_64_code 0 = .ok (.aload_n 1, 1) := by decide +kernel
theorem d10_1 : decode jdk_42_method_64_code 1 = .ok (.ifnonnull 11, 3) := by decide +kernel
theorem d10_12 : decode jdk_42_method_64_code 12 = .ok (.aload_n 1, 1) := by decide +kernel
theorem d10_13 : decode jdk_42_method_64_code 13 = .ok (.aload_n 0, 1) := by decide +kernel
theorem d10_14 : decode jdk_42_method_64_code 14 = .ok (.invokevirtual 335, 3) := by decide +kernel
theorem d10_17 : decode jdk_42_method_64_code 17 = .ok (.aload_n 0, 1) := by decide +kernel
theorem d10_18 : decode jdk_42_method_64_code 18 = .ok (.getfield 9, 3) := by decide +kernel
theorem d10_21 : decode jdk_42_method_64_code 21 = .ok (.invokestatic 535, 3) := by decide +kernel
theorem d10_24 : decode jdk_42_method_64_code 24 = .ok (.areturn, 1) := by decide +kernel
theorem d11_0 : decode jdk_42_method_152_code 0 = .ok (.getstatic 38, 3) := by decide +kernel
theorem d11_3 : decode jdk_42_method_152_code 3 = .ok (.ifCond .eq 10, 3) := by decide +kernel
theorem d11_6 : decode jdk_42_method_152_code 6 = .ok (.aload_n 0, 1) := by decide +kernel
theorem d11_7 : decode jdk_42_method_152_code 7 = .ok (.getfield 15, 3) := by decide +kernel
theorem d11_10 : decode jdk_42_method_152_code 10 = .ok (.goto 4, 3) := by decide +kernel
theorem d11_14 : decode jdk_42_method_152_code 14 = .ok (.ireturn, 1) := by decide +kernel
theorem d12_0 : decode jdk_42_method_18_code 0 = .ok (.aload_n 0, 1) := by decide +kernel
theorem d12_1 : decode jdk_42_method_18_code 1 = .ok (.getstatic 86, 3) := by decide +kernel
theorem d12_4 : decode jdk_42_method_18_code 4 = .ok (.if_acmp .ne 10, 3) := by decide +kernel
theorem d12_14 : decode jdk_42_method_18_code 14 = .ok (.aload_n 0, 1) := by decide +kernel
theorem d12_15 : decode jdk_42_method_18_code 15 = .ok (.getstatic 116, 3) := by decide +kernel
theorem d12_18 : decode jdk_42_method_18_code 18 = .ok (.if_acmp .ne 9, 3) := by decide +kernel
theorem d12_21 : decode jdk_42_method_18_code 21 = .ok (.iload_n 1, 1) := by decide +kernel
theorem d12_22 : decode jdk_42_method_18_code 22 = .ok (.aload_n 2, 1) := by decide +kernel
theorem d12_23 : decode jdk_42_method_18_code 23 = .ok (.invokestatic 256, 3) := by decide +kernel
theorem d12_26 : decode jdk_42_method_18_code 26 = .ok (.areturn, 1) := by decide +kernel
theorem d13_0 : decode jdk_42_method_26_code 0 = .ok (.iload_n 0, 1) := by decide +kernel
theorem d13_1 : decode jdk_42_method_26_code 1 = .ok (.aload_n 1, 1) := by decide +kernel
theorem d13_2 : decode jdk_42_method_26_code 2 = .ok (.iconst 1, 1) := by decide +kernel
theorem d13_3 : decode jdk_42_method_26_code 3 = .ok (.invokestatic 351, 3) := by decide +kernel
theorem d13_6 : decode jdk_42_method_26_code 6 = .ok (.areturn, 1) := by decide +kernel
theorem d14_0 : decode jdk_42_method_27_code 0 = .ok (.iload_n 0, 1) := by decide +kernel
theorem d14_1 : decode jdk_42_method_27_code 1 = .ok (.ifCond .ne 11, 3) := by decide +kernel
theorem d14_4 : decode jdk_42_method_27_code 4 = .ok (.aload_n 1, 1) := by decide +kernel
theorem d14_5 : decode jdk_42_method_27_code 5 = .ok (.invokevirtual 279, 3) := by decide +kernel
theorem d14_8 : decode jdk_42_method_27_code 8 = .ok (.checkcast 280, 3) := by decide +kernel
theorem d14_11 : decode jdk_42_method_27_code 11 = .ok (.areturn, 1) := by decide +kernel
theorem d15_0 : decode prog_73_method_19_code 0 = .ok (.aload_n 0, 1) := by decide +kernel
theorem d15_1 : decode prog_73_method_19_code 1 = .ok (.getfield 139, 3) := by decide +kernel
theorem d15_4 : decode prog_73_method_19_code 4 = .ok (.aload_n 0, 1) := by decide +kernel
theorem d15_5 : decode prog_73_method_19_code 5 = .ok (.getfield 49, 3) := by decide +kernel
theorem d15_8 : decode prog_73_method_19_code 8 = .ok (.arraylength, 1) := by decide +kernel
theorem d15_9 : decode prog_73_method_19_code 9 = .ok (.if_icmp .ne 20, 3) := by decide +kernel
theorem d15_12 : decode prog_73_method_19_code 12 = .ok (.aload_n 0, 1) := by decide +kernel
theorem d15_13 : decode prog_73_method_19_code 13 = .ok (.aload_n 0, 1) := by decide +kernel
theorem d15_14 : decode prog_73_method_19_code 14 = .ok (.getfield 49, 3) := by decide +kernel
theorem d15_17 : decode prog_73_method_19_code 17 = .ok (.iconst 2, 1) := by decide +kernel
theorem d15_18 : decode prog_73_method_19_code 18 = .ok (.aload_n 0, 1) := by decide +kernel
theorem d15_19 : decode prog_73_method_19_code 19 = .ok (.getfield 139, 3) := by decide +kernel
theorem d15_22 : decode prog_73_method_19_code 22 = .ok (.imul, 1) := by decide +kernel
theorem d15_23 : decode prog_73_method_19_code 23 = .ok (.invokestatic 304, 3) := by decide +kernel
theorem d15_26 : decode prog_73_method_19_code 26 = .ok (.putfield 49, 3) := by decide +kernel
theorem d15_29 : decode prog_73_method_19_code 29 = .ok (.aload_n 0, 1) := by decide +kernel
theorem d15_30 : decode prog_73_method_19_code 30 = .ok (.getfield 49, 3) := by decide +kernel
theorem d15_33 : decode prog_73_method_19_code 33 = .ok (.aload_n 0, 1) := by decide +kernel
theorem d15_34 : decode prog_73_method_19_code 34 = .ok (.dup, 1) := by decide +kernel
theorem d15_35 : decode prog_73_method_19_code 35 = .ok (.getfield 139, 3) := by decide +kernel
theorem d15_38 : decode prog_73_method_19_code 38 = .ok (.dup_x1, 1) := by decide +kernel
theorem d15_39 : decode prog_73_method_19_code 39 = .ok (.iconst 1, 1) := by decide +kernel
theorem d15_40 : decode prog_73_method_19_code 40 = .ok (.iadd, 1) := by decide +kernel
theorem d15_41 : decode prog_73_method_19_code 41 = .ok (.putfield 139, 3) := by decide +kernel
theorem d15_44 : decode prog_73_method_19_code 44 = .ok (.lload_n 1, 1) := by decide +kernel
theorem d15_45 : decode prog_73_method_19_code 45 = .ok (.lastore, 1) := by decide +kernel
theorem d15_46 : decode prog_73_method_19_code 46 = .ok (.return_, 1) := by decide +kernel
theorem d16_0 : decode jdk_65_method_124_code 0 = .ok (.iload_n 1, 1) := by decide +kernel
theorem d16_1 : decode jdk_65_method_124_code 1 = .ok (.aload_n 0, 1) := by decide +kernel
theorem d16_2 : decode jdk_65_method_124_code 2 = .ok (.arraylength, 1) := by decide +kernel
theorem d16_3 : decode jdk_65_method_124_code 3 = .ok (.if_icmp .ne 11, 3) := by decide +kernel
theorem d16_14 : decode jdk_65_method_124_code 14 = .ok (.iload_n 1, 1) := by decide +kernel
theorem d16_15 : decode jdk_65_method_124_code 15 = .ok (.newarray .long, 2) := by decide +kernel
theorem d16_17 : decode jdk_65_method_124_code 17 = .ok (.astore_n 2, 1) := by decide +kernel
theorem d16_18 : decode jdk_65_method_124_code 18 = .ok (.aload_n 0, 1) := by decide +kernel
theorem d16_19 : decode jdk_65_method_124_code 19 = .ok (.iconst 0, 1) := by decide +kernel
theorem d16_20 : decode jdk_65_method_124_code 20 = .ok (.aload_n 2, 1) := by decide +kernel
theorem d16_21 : decode jdk_65_method_124_code 21 = .ok (.iconst 0, 1) := by decide +kernel
theorem d16_22 : decode jdk_65_method_124_code 22 = .ok (.aload_n 0, 1) := by decide +kernel
theorem d16_23 : decode jdk_65_method_124_code 23 = .ok (.arraylength, 1) := by decide +kernel
theorem d16_24 : decode jdk_65_method_124_code 24 = .ok (.iload_n 1, 1) := by decide +kernel
theorem d16_25 : decode jdk_65_method_124_code 25 = .ok (.invokestatic 304, 3) := by decide +kernel
theorem d16_28 : decode jdk_65_method_124_code 28 = .ok (.invokestatic 150, 3) := by decide +kernel
theorem d16_31 : decode jdk_65_method_124_code 31 = .ok (.aload_n 2, 1) := by decide +kernel
theorem d16_32 : decode jdk_65_method_124_code 32 = .ok (.areturn, 1) := by decide +kernel
theorem d17_0 : decode jdk_29_method_69_code 0 = .ok (.iload_n 0, 1) := by decide +kernel
theorem d17_1 : decode jdk_29_method_69_code 1 = .ok (.iload_n 1, 1) := by decide +kernel
theorem d17_2 : decode jdk_29_method_69_code 2 = .ok (.if_icmp .gt 7, 3) := by decide +kernel
theorem d17_5 : decode jdk_29_method_69_code 5 = .ok (.iload_n 0, 1) := by decide +kernel
theorem d17_6 : decode jdk_29_method_69_code 6 = .ok (.goto 4, 3) := by decide +kernel
theorem d17_10 : decode jdk_29_method_69_code 10 = .ok (.ireturn, 1) := by decide +kernel
theorem d18_0 : decode prog_73_method_21_code 0 = .ok (.iconst 0, 1) := by decide +kernel
theorem d18_1 : decode prog_73_method_21_code 1 = .ok (.istore_n 3, 1) := by decide +kernel
theorem d18_2 : decode prog_73_method_21_code 2 = .ok (.iload_n 3, 1) := by decide +kernel
theorem d18_3 : decode prog_73_method_21_code 3 = .ok (.aload_n 0, 1) := by decide +kernel
theorem d18_4 : decode prog_73_method_21_code 4 = .ok (.getfield 139, 3) := by decide +kernel
theorem d18_7 : decode prog_73_method_21_code 7 = .ok (.if_icmp .ge 43, 3) := by decide +kernel
theorem d18_10 : decode prog_73_method_21_code 10 = .ok (.aload_n 0, 1) := by decide +kernel
theorem d18_11 : decode prog_73_method_21_code 11 = .ok (.getfield 49, 3) := by decide +kernel
theorem d18_14 : decode prog_73_method_21_code 14 = .ok (.iload_n 3, 1) := by decide +kernel
theorem d18_15 : decode prog_73_method_21_code 15 = .ok (.laload, 1) := by decide +kernel
theorem d18_16 : decode prog_73_method_21_code 16 = .ok (.lload_n 1, 1) := by decide +kernel
theorem d18_17 : decode prog_73_method_21_code 17 = .ok (.lcmp, 1) := by decide +kernel
theorem d18_18 : decode prog_73_method_21_code 18 = .ok (.ifCond .ne 26, 3) := by decide +kernel
theorem d18_21 : decode prog_73_method_21_code 21 = .ok (.aload_n 0, 1) := by decide +kernel
theorem d18_22 : decode prog_73_method_21_code 22 = .ok (.getfield 49, 3) := by decide +kernel
theorem d18_25 : decode prog_73_method_21_code 25 = .ok (.iload_n 3, 1) := by decide +kernel
theorem d18_26 : decode prog_73_method_21_code 26 = .ok (.aload_n 0, 1) := by decide +kernel
theorem d18_27 : decode prog_73_method_21_code 27 = .ok (.getfield 49, 3) := by decide +kernel
theorem d18_30 : decode prog_73_method_21_code 30 = .ok (.aload_n 0, 1) := by decide +kernel
theorem d18_31 : decode prog_73_method_21_code 31 = .ok (.dup, 1) := by decide +kernel
theorem d18_32 : decode prog_73_method_21_code 32 = .ok (.getfield 139, 3) := by decide +kernel
theorem d18_35 : decode prog_73_method_21_code 35 = .ok (.iconst 1, 1) := by decide +kernel
theorem d18_36 : decode prog_73_method_21_code 36 = .ok (.isub, 1) := by decide +kernel
theorem d18_37 : decode prog_73_method_21_code 37 = .ok (.dup_x1, 1) := by decide +kernel
theorem d18_38 : decode prog_73_method_21_code 38 = .ok (.putfield 139, 3) := by decide +kernel
theorem d18_41 : decode prog_73_method_21_code 41 = .ok (.laload, 1) := by decide +kernel
theorem d18_42 : decode prog_73_method_21_code 42 = .ok (.lastore, 1) := by decide +kernel
theorem d18_43 : decode prog_73_method_21_code 43 = .ok (.return_, 1) := by decide +kernel
theorem d18_44 : decode prog_73_method_21_code 44 = .ok (.iinc 3 1, 3) := by decide +kernel
theorem d18_47 : decode prog_73_method_21_code 47 = .ok (.goto (-45), 3) := by decide +kernel
theorem d18_50 : decode prog_73_method_21_code 50 = .ok (.return_, 1) := by decide +kernel
theorem d19_0 : decode prog_73_method_20_code 0 = .ok (.iconst 0, 1) := by decide +kernel
theorem d19_1 : decode prog_73_method_20_code 1 = .ok (.istore_n 3, 1) := by decide +kernel
theorem d19_2 : decode prog_73_method_20_code 2 = .ok (.iload_n 3, 1) := by decide +kernel
theorem d19_3 : decode prog_73_method_20_code 3 = .ok (.aload_n 0, 1) := by decide +kernel
theorem d19_4 : decode prog_73_method_20_code 4 = .ok (.getfield 139, 3) := by decide +kernel
theorem d19_7 : decode prog_73_method_20_code 7 = .ok (.if_icmp .ge 22, 3) := by decide +kernel
theorem d19_10 : decode prog_73_method_20_code 10 = .ok (.aload_n 0, 1) := by decide +kernel
theorem d19_11 : decode prog_73_method_20_code 11 = .ok (.getfield 49, 3) := by decide +kernel
theorem d19_14 : decode prog_73_method_20_code 14 = .ok (.iload_n 3, 1) := by decide +kernel
theorem d19_15 : decode prog_73_method_20_code 15 = .ok (.laload, 1) := by decide +kernel
theorem d19_16 : decode prog_73_method_20_code 16 = .ok (.lload_n 1, 1) := by decide +kernel
theorem d19_17 : decode prog_73_method_20_code 17 = .ok (.lcmp, 1) := by decide +kernel
theorem d19_18 : decode prog_73_method_20_code 18 = .ok (.ifCond .ne 5, 3) := by decide +kernel
theorem d19_21 : decode prog_73_method_20_code 21 = .ok (.iconst 1, 1) := by decide +kernel
theorem d19_22 : decode prog_73_method_20_code 22 = .ok (.ireturn, 1) := by decide +kernel
theorem d19_23 : decode prog_73_method_20_code 23 = .ok (.iinc 3 1, 3) := by decide +kernel
theorem d19_26 : decode prog_73_method_20_code 26 = .ok (.goto (-24), 3) := by decide +kernel
theorem d19_29 : decode prog_73_method_20_code 29 = .ok (.iconst 0, 1) := by decide +kernel
theorem d19_30 : decode prog_73_method_20_code 30 = .ok (.ireturn, 1) := by decide +kernel
theorem pn_com_example_earmark_earmark_ledger_HoldStatesBatchClosedPinLaw : plainName "com/example/earmark/earmark/ledger/HoldStatesBatchClosedPinLaw" = true := by first | (simp [plainName, overriddenIn]; done) | decide +kernel
theorem pn_com_example_earmark_earmark_ledger_HoldStates : plainName "com/example/earmark/earmark/ledger/HoldStates" = true := by first | (simp [plainName, overriddenIn]; done) | decide +kernel
theorem pn_com_example_earmark_earmark_ledger_HoldStates_Chunk : plainName "com/example/earmark/earmark/ledger/HoldStates$Chunk" = true := by first | (simp [plainName, overriddenIn]; done) | decide +kernel
theorem pn_com_example_earmark_earmark_ledger_RowIndex : plainName "com/example/earmark/earmark/ledger/RowIndex" = true := by first | (simp [plainName, overriddenIn]; done) | decide +kernel
theorem pn_java_util_Arrays : plainName "java/util/Arrays" = true := by first | (simp [plainName, overriddenIn]; done) | decide +kernel
theorem pn_java_util_HashMap : plainName "java/util/HashMap" = true := by first | (simp [plainName, overriddenIn]; done) | decide +kernel
theorem pn_java_util_AbstractMap : plainName "java/util/AbstractMap" = true := by first | (simp [plainName, overriddenIn]; done) | decide +kernel
theorem pn_java_lang_String : plainName "java/lang/String" = true := by first | (simp [plainName, overriddenIn]; done) | decide +kernel
theorem pd_0 : parseMethodDescriptor "([J[J[Ljava/lang/String;[J[J[J[Ljava/lang/Object;)V" = some ⟨[(.array .long), (.array .long), (.array (.object "java/lang/String")), (.array .long), (.array .long), (.array .long), (.array (.object "java/lang/Object"))], none⟩ := by decide +kernel
theorem pd_1 : parseMethodDescriptor "([Ljava/lang/Object;Ljava/lang/Object;)V" = some ⟨[(.array (.object "java/lang/Object")), (.object "java/lang/Object")], none⟩ := by decide +kernel
theorem pd_2 : parseMethodDescriptor "()V" = some ⟨[], none⟩ := by decide +kernel
theorem pd_3 : parseMethodDescriptor "(B[BZ)[B" = some ⟨[.byte, (.array .byte), .boolean], some (.array .byte)⟩ := by decide +kernel
theorem pd_4 : parseMethodDescriptor "(B[B)[B" = some ⟨[.byte, (.array .byte)], some (.array .byte)⟩ := by decide +kernel
theorem pd_5 : parseMethodDescriptor "()B" = some ⟨[], some .byte⟩ := by decide +kernel
theorem pd_6 : parseMethodDescriptor "(Ljava/nio/charset/Charset;B[B)[B" = some ⟨[(.object "java/nio/charset/Charset"), .byte, (.array .byte)], some (.array .byte)⟩ := by decide +kernel
theorem pd_7 : parseMethodDescriptor "(I)V" = some ⟨[.int], none⟩ := by decide +kernel
theorem pd_8 : parseMethodDescriptor "(ILcom/example/earmark/earmark/ledger/RowIndex$Hashes;)V" = some ⟨[.int, (.object "com/example/earmark/earmark/ledger/RowIndex$Hashes")], none⟩ := by decide +kernel
theorem pd_9 : parseMethodDescriptor "(Ljava/nio/charset/Charset;)[B" = some ⟨[(.object "java/nio/charset/Charset")], some (.array .byte)⟩ := by decide +kernel
theorem pd_10 : parseMethodDescriptor "(II)I" = some ⟨[.int, .int], some .int⟩ := by decide +kernel
theorem pd_11 : parseMethodDescriptor "([JI)[J" = some ⟨[(.array .long), .int], some (.array .long)⟩ := by decide +kernel
theorem pd_12 : parseMethodDescriptor "(IJJJJ)J" = some ⟨[.int, .long, .long, .long, .long], some .long⟩ := by decide +kernel
theorem pd_13 : parseMethodDescriptor "(Ljava/lang/String;)V" = some ⟨[(.object "java/lang/String")], none⟩ := by decide +kernel
theorem pd_14 : parseMethodDescriptor "(J)V" = some ⟨[.long], none⟩ := by decide +kernel
theorem pd_15 : parseMethodDescriptor "(J)Z" = some ⟨[.long], some .boolean⟩ := by decide +kernel
theorem ef_1 (m : MethodId) (sl : Int32) (la : Int64) (lb : Int64) (lc : Int64) (ld : Int64) : entryFrame m #[(.int sl), (.long la), (.long lb), (.long lc), (.long ld)] 9 = mkF m 0 #[.val (.int sl), .val (.long la), .second, .val (.long lb), .second, .val (.long lc), .second, .val (.long ld), .second] [] := by first | (simp [entryFrame, mkF, argsToLocals, Value.category]; done) | rfl
def Q1 (Z : State) (sl : Int32) (la : Int64) (lb : Int64) (lc : Int64) (ld : Int64) (h0 : Heap) (n0 : Nat) (v : Option Value) (h : Heap) (L : List Loc) : Prop := ∃ x : Int64, v = some (.long x) ∧ Fr n0 L ∧ h = h0
set_option maxRecDepth 65536 in
set_option maxHeartbeats 40000000 in
theorem rm1 (l : Launch) (Z : State) (a0 : Array Value) (hw : ∀ d ∈ tables_1, d.before a0 Z = true) (ws : List Jvm.Cond) (sl : Int32) (la : Int64) (lb : Int64) (lc : Int64) (ld : Int64) (h0 : Heap) (n0 : Nat) (Z0 : n0 ≤ h0.size) :
    MetFree l (⟨"com/example/earmark/earmark/ledger/HoldStatesBatchClosedPinLaw", "pick", "(IJJJJ)J"⟩ : MethodName) (head1 (Jvm.Cond.code (⟨"com/example/earmark/earmark/ledger/HoldStatesBatchClosedPinLaw", "pick", "(IJJJJ)J"⟩ : MethodName) method_3_code 9 (some .long) :: ws) ({ frames := 0, cells := 0, slots := 0, locals := 0 } : Room)) (fun α υ => α = #[(.int sl), (.long la), (.long lb), (.long lc), (.long ld)] ∧ Z.Warmed39 υ.vm ∧ υ.heap = h0) (fun _ _ _ _ _ => True) (fun _ υ ω υ' => ∃ v L, ω = .returned v ∧ Q1 Z sl la lb lc ld h0 n0 v υ'.heap L ∧ FrameEnd υ ω υ' L ({ frames := 0, cells := 0, slots := 0, locals := 0 } : Room).cells ({ frames := 0, cells := 0, slots := 0, locals := 0 } : Room).slots) := by
  refine MetFree.of_bodySF (plainFor_of_name pn_com_example_earmark_earmark_ledger_HoldStatesBatchClosedPinLaw) hisR ?_
  intro p e s m args below meth c s₁ Bd hml0 hP hK
  obtain ⟨rfl, hZ, hh⟩ := hP
  have hx := Bd.exec
  have hby := Bd.bytes
  have hml : c.maxLocals = 9 := hml0
  have hown : s.vm.findClass "com/example/earmark/earmark/ledger/HoldStatesBatchClosedPinLaw" = some m.cls := findClass_of_methodNamed Bd.named
  have hnm := (name_of_methodNamed Bd.named Bd.method).1
  have X0 : Stand p l e ({ frames := 0, cells := 0, slots := 0, locals := 0 } : Room) s m #[(.int sl), (.long la), (.long lb), (.long lc), (.long ld)] below meth c s₁ [] 0 0 := Stand.of_body Bd
  have e0 : s₁.heap = h0 := by rw [← hh, Bd.state]; rfl
  have N0 := Fr.nil n0
  have pre0 : ∀ τ, Steps p.tables e below (s₁.setTop (mkF m 0 #[.val (.int sl), .val (.long la), .second, .val (.long lb), .second, .val (.long lc), .second, .val (.long ld), .second] [])) τ → Steps p.tables e below (s₁.setTop (entryFrame m #[(.int sl), (.long la), (.long lb), (.long lc), (.long ld)] 9)) τ := fun τ κ => castTop (ef_1 m sl la lb lc ld) κ
  have pre1 := fun τ (κ : Steps p.tables e below (s₁.setTop (mkF m 1 #[.val (.int sl), .val (.long la), .second, .val (.long lb), .second, .val (.long lc), .second, .val (.long ld), .second] [(.int sl)])) τ) => pre0 τ (by
    refine XS.iloadN X0.here hx rfl (hb hby d1_0) rfl ?_
    show Steps p.tables e below (s₁.setTop (mkF m 1 #[.val (.int sl), .val (.long la), .second, .val (.long lb), .second, .val (.long lc), .second, .val (.long ld), .second] [(.int sl)])) _
    exact κ)
  by_cases q0 : sl = (0 : Int32)
  · have pre2 := fun τ (κ : Steps p.tables e below (s₁.setTop (mkF m 5 #[.val (.int sl), .val (.long la), .second, .val (.long lb), .second, .val (.long lc), .second, .val (.long ld), .second] [(.long la)])) τ) => pre1 τ (by
      refine XS.ifNo X0.here hx rfl (hb hby d1_1) rfl ((if0 _ _).trans (teq q0).2) ?_
      show Steps p.tables e below (s₁.setTop (mkF m 4 #[.val (.int sl), .val (.long la), .second, .val (.long lb), .second, .val (.long lc), .second, .val (.long ld), .second] [])) _
      refine XS.lloadN X0.here hx rfl (hb hby d1_4) rfl ?_
      show Steps p.tables e below (s₁.setTop (mkF m 5 #[.val (.int sl), .val (.long la), .second, .val (.long lb), .second, .val (.long lc), .second, .val (.long ld), .second] [(.long la)])) _
      exact κ)
    obtain ⟨fs, hr, hrun, hended, hW, hsame⟩ := X0.leave (v := some (.long la)) (fun h => by rw [Bd.returns] at h; cases h)
    refine ⟨_, _, pre2 _ ?_, hrun, hended, _, _, rfl, ?_, ⟨_, rfl⟩, hW, hsame.mono (by decide) (by decide)⟩
    · exact retL X0 hx Bd.returns (hb hby d1_5) hr
    · show Q1 Z sl la lb lc ld h0 n0 _ s₁.heap _
      rw [e0]
      exact ⟨_, rfl, N0, rfl⟩
  · have pre3 := fun τ (κ : Steps p.tables e below (s₁.setTop (mkF m 8 #[.val (.int sl), .val (.long la), .second, .val (.long lb), .second, .val (.long lc), .second, .val (.long ld), .second] [(.int (1 : Int32)), (.int sl)])) τ) => pre1 τ (by
      refine XS.ifYes X0.here hx rfl (pc0 := 1) (pc' := 6) rfl (hb hby d1_1) rfl ((if0 _ _).trans (feq q0).2) (by decide) (by decide) ?_
      show Steps p.tables e below (s₁.setTop (mkF m 6 #[.val (.int sl), .val (.long la), .second, .val (.long lb), .second, .val (.long lc), .second, .val (.long ld), .second] [])) _
      refine XS.iloadN X0.here hx rfl (hb hby d1_6) rfl ?_
      refine XS.iconst X0.here hx rfl (hb hby d1_7) ?_
      show Steps p.tables e below (s₁.setTop (mkF m 8 #[.val (.int sl), .val (.long la), .second, .val (.long lb), .second, .val (.long lc), .second, .val (.long ld), .second] [(.int (1 : Int32)), (.int sl)])) _
      exact κ)
    by_cases q1 : sl = (1 : Int32)
    · have pre4 := fun τ (κ : Steps p.tables e below (s₁.setTop (mkF m 12 #[.val (.int sl), .val (.long la), .second, .val (.long lb), .second, .val (.long lc), .second, .val (.long ld), .second] [(.long lb)])) τ) => pre3 τ (by
        refine XS.icmpNo X0.here hx rfl (hb hby d1_8) rfl (teq q1).2 ?_
        show Steps p.tables e below (s₁.setTop (mkF m 11 #[.val (.int sl), .val (.long la), .second, .val (.long lb), .second, .val (.long lc), .second, .val (.long ld), .second] [])) _
        refine XS.lloadN X0.here hx rfl (hb hby d1_11) rfl ?_
        show Steps p.tables e below (s₁.setTop (mkF m 12 #[.val (.int sl), .val (.long la), .second, .val (.long lb), .second, .val (.long lc), .second, .val (.long ld), .second] [(.long lb)])) _
        exact κ)
      obtain ⟨fs, hr, hrun, hended, hW, hsame⟩ := X0.leave (v := some (.long lb)) (fun h => by rw [Bd.returns] at h; cases h)
      refine ⟨_, _, pre4 _ ?_, hrun, hended, _, _, rfl, ?_, ⟨_, rfl⟩, hW, hsame.mono (by decide) (by decide)⟩
      · exact retL X0 hx Bd.returns (hb hby d1_12) hr
      · show Q1 Z sl la lb lc ld h0 n0 _ s₁.heap _
        rw [e0]
        exact ⟨_, rfl, N0, rfl⟩
    · have pre5 := fun τ (κ : Steps p.tables e below (s₁.setTop (mkF m 15 #[.val (.int sl), .val (.long la), .second, .val (.long lb), .second, .val (.long lc), .second, .val (.long ld), .second] [(.int (2 : Int32)), (.int sl)])) τ) => pre3 τ (by
        refine XS.icmpYes X0.here hx rfl (pc0 := 8) (pc' := 13) rfl (hb hby d1_8) rfl (feq q1).2 (by decide) (by decide) ?_
        show Steps p.tables e below (s₁.setTop (mkF m 13 #[.val (.int sl), .val (.long la), .second, .val (.long lb), .second, .val (.long lc), .second, .val (.long ld), .second] [])) _
        refine XS.iloadN X0.here hx rfl (hb hby d1_13) rfl ?_
        refine XS.iconst X0.here hx rfl (hb hby d1_14) ?_
        show Steps p.tables e below (s₁.setTop (mkF m 15 #[.val (.int sl), .val (.long la), .second, .val (.long lb), .second, .val (.long lc), .second, .val (.long ld), .second] [(.int (2 : Int32)), (.int sl)])) _
        exact κ)
      by_cases q2 : sl = (2 : Int32)
      · have pre6 := fun τ (κ : Steps p.tables e below (s₁.setTop (mkF m 20 #[.val (.int sl), .val (.long la), .second, .val (.long lb), .second, .val (.long lc), .second, .val (.long ld), .second] [(.long lc)])) τ) => pre5 τ (by
          refine XS.icmpNo X0.here hx rfl (hb hby d1_15) rfl (teq q2).2 ?_
          show Steps p.tables e below (s₁.setTop (mkF m 18 #[.val (.int sl), .val (.long la), .second, .val (.long lb), .second, .val (.long lc), .second, .val (.long ld), .second] [])) _
          refine XS.lload X0.here hx rfl (hb hby d1_18) rfl ?_
          show Steps p.tables e below (s₁.setTop (mkF m 20 #[.val (.int sl), .val (.long la), .second, .val (.long lb), .second, .val (.long lc), .second, .val (.long ld), .second] [(.long lc)])) _
          exact κ)
        obtain ⟨fs, hr, hrun, hended, hW, hsame⟩ := X0.leave (v := some (.long lc)) (fun h => by rw [Bd.returns] at h; cases h)
        refine ⟨_, _, pre6 _ ?_, hrun, hended, _, _, rfl, ?_, ⟨_, rfl⟩, hW, hsame.mono (by decide) (by decide)⟩
        · exact retL X0 hx Bd.returns (hb hby d1_20) hr
        · show Q1 Z sl la lb lc ld h0 n0 _ s₁.heap _
          rw [e0]
          exact ⟨_, rfl, N0, rfl⟩
      · have pre7 := fun τ (κ : Steps p.tables e below (s₁.setTop (mkF m 23 #[.val (.int sl), .val (.long la), .second, .val (.long lb), .second, .val (.long lc), .second, .val (.long ld), .second] [(.long ld)])) τ) => pre5 τ (by
          refine XS.icmpYes X0.here hx rfl (pc0 := 15) (pc' := 21) rfl (hb hby d1_15) rfl (feq q2).2 (by decide) (by decide) ?_
          show Steps p.tables e below (s₁.setTop (mkF m 21 #[.val (.int sl), .val (.long la), .second, .val (.long lb), .second, .val (.long lc), .second, .val (.long ld), .second] [])) _
          refine XS.lload X0.here hx rfl (hb hby d1_21) rfl ?_
          show Steps p.tables e below (s₁.setTop (mkF m 23 #[.val (.int sl), .val (.long la), .second, .val (.long lb), .second, .val (.long lc), .second, .val (.long ld), .second] [(.long ld)])) _
          exact κ)
        obtain ⟨fs, hr, hrun, hended, hW, hsame⟩ := X0.leave (v := some (.long ld)) (fun h => by rw [Bd.returns] at h; cases h)
        refine ⟨_, _, pre7 _ ?_, hrun, hended, _, _, rfl, ?_, ⟨_, rfl⟩, hW, hsame.mono (by decide) (by decide)⟩
        · exact retL X0 hx Bd.returns (hb hby d1_23) hr
        · show Q1 Z sl la lb lc ld h0 n0 _ s₁.heap _
          rw [e0]
          exact ⟨_, rfl, N0, rfl⟩
theorem ef_5 (m : MethodId) (cu : Addr) (q1 : Addr) (q2 : Addr) (q3 : Addr) (q4 : Addr) (q5 : Addr) (q6 : Addr) (q7 : Addr) : entryFrame m #[(.ref cu), (.ref q1), (.ref q2), (.ref q3), (.ref q4), (.ref q5), (.ref q6), (.ref q7)] 8 = mkF m 0 #[.val (.ref cu), .val (.ref q1), .val (.ref q2), .val (.ref q3), .val (.ref q4), .val (.ref q5), .val (.ref q6), .val (.ref q7)] [] := by first | (simp [entryFrame, mkF, argsToLocals, Value.category]; done) | rfl
def Q5 (Z : State) (cu : Addr) (q1 : Addr) (q2 : Addr) (q3 : Addr) (q4 : Addr) (q5 : Addr) (q6 : Addr) (q7 : Addr) (h0 : Heap) (n0 : Nat) (v : Option Value) (h : Heap) (L : List Loc) : Prop := v = none ∧ Fr n0 L ∧ Keep h0 h [cu]
set_option maxRecDepth 65536 in
set_option maxHeartbeats 40000000 in
theorem rm5 (l : Launch) (Z : State) (a0 : Array Value) (hw : ∀ d ∈ tables_1, d.before a0 Z = true) (ws : List Jvm.Cond) (cu : Addr) (q1 : Addr) (q2 : Addr) (q3 : Addr) (q4 : Addr) (q5 : Addr) (q6 : Addr) (q7 : Addr) (h0 : Heap) (n0 : Nat) (Z0 : n0 ≤ h0.size) (E_c : Exa Z h0 cu "com/example/earmark/earmark/ledger/HoldStates$Chunk") (g_cu : n0 ≤ cu) (F_highs : Fld Z h0 cu "com/example/earmark/earmark/ledger/HoldStates$Chunk" "highs" "[J" .null) (F_lows : Fld Z h0 cu "com/example/earmark/earmark/ledger/HoldStates$Chunk" "lows" "[J" .null) (F_accountIds : Fld Z h0 cu "com/example/earmark/earmark/ledger/HoldStates$Chunk" "accountIds" "[Ljava/lang/String;" .null) (F_amounts : Fld Z h0 cu "com/example/earmark/earmark/ledger/HoldStates$Chunk" "amounts" "[J" .null) (F_placedAt : Fld Z h0 cu "com/example/earmark/earmark/ledger/HoldStates$Chunk" "placedAt" "[J" .null) (F_expiresAt : Fld Z h0 cu "com/example/earmark/earmark/ledger/HoldStates$Chunk" "expiresAt" "[J" .null) (F_states : Fld Z h0 cu "com/example/earmark/earmark/ledger/HoldStates$Chunk" "states" "[Ljava/lang/Object;" .null) :
    MetFree l (⟨"com/example/earmark/earmark/ledger/HoldStates$Chunk", "<init>", "([J[J[Ljava/lang/String;[J[J[J[Ljava/lang/Object;)V"⟩ : MethodName) (head1 (Jvm.Cond.code (⟨"com/example/earmark/earmark/ledger/HoldStates$Chunk", "<init>", "([J[J[Ljava/lang/String;[J[J[J[Ljava/lang/Object;)V"⟩ : MethodName) prog_75_method_2_code 8 none :: ws) ({ frames := 1, cells := 0, slots := 0, locals := 12 } : Room)) (fun α υ => α = #[(.ref cu), (.ref q1), (.ref q2), (.ref q3), (.ref q4), (.ref q5), (.ref q6), (.ref q7)] ∧ Z.Warmed39 υ.vm ∧ υ.heap = h0) (fun _ _ _ _ _ => True) (fun _ υ ω υ' => ∃ v L, ω = .returned v ∧ Q5 Z cu q1 q2 q3 q4 q5 q6 q7 h0 n0 v υ'.heap L ∧ FrameEnd υ ω υ' L ({ frames := 1, cells := 0, slots := 0, locals := 12 } : Room).cells ({ frames := 1, cells := 0, slots := 0, locals := 12 } : Room).slots) := by
  refine MetFree.of_bodySF (plainFor_of_name pn_com_example_earmark_earmark_ledger_HoldStates_Chunk) hisR ?_
  intro p e s m args below meth c s₁ Bd hml0 hP hK
  obtain ⟨rfl, hZ, hh⟩ := hP
  have hx := Bd.exec
  have hby := Bd.bytes
  have hml : c.maxLocals = 8 := hml0
  have hown : s.vm.findClass "com/example/earmark/earmark/ledger/HoldStates$Chunk" = some m.cls := findClass_of_methodNamed Bd.named
  have hnm := (name_of_methodNamed Bd.named Bd.method).1
  have X0 : Stand p l e ({ frames := 1, cells := 0, slots := 0, locals := 12 } : Room) s m #[(.ref cu), (.ref q1), (.ref q2), (.ref q3), (.ref q4), (.ref q5), (.ref q6), (.ref q7)] below meth c s₁ [] 0 0 := Stand.of_body Bd
  have e0 : s₁.heap = h0 := by rw [← hh, Bd.state]; rfl
  have N0 := Fr.nil n0
  have pre0 : ∀ τ, Steps p.tables e below (s₁.setTop (mkF m 0 #[.val (.ref cu), .val (.ref q1), .val (.ref q2), .val (.ref q3), .val (.ref q4), .val (.ref q5), .val (.ref q6), .val (.ref q7)] [])) τ → Steps p.tables e below (s₁.setTop (entryFrame m #[(.ref cu), (.ref q1), (.ref q2), (.ref q3), (.ref q4), (.ref q5), (.ref q6), (.ref q7)] 8)) τ := fun τ κ => castTop (ef_5 m cu q1 q2 q3 q4 q5 q6 q7) κ
  have Kp0 : Keep h0 h0 [cu] := Keep.refl _ _
  have pre1 := fun τ (κ : Steps p.tables e below (s₁.setTop (mkF m 1 #[.val (.ref cu), .val (.ref q1), .val (.ref q2), .val (.ref q3), .val (.ref q4), .val (.ref q5), .val (.ref q6), .val (.ref q7)] [(.ref cu)])) τ) => pre0 τ (by
    refine XS.aloadN X0.here hx rfl (hb hby d5_0) rfl rfl ?_
    show Steps p.tables e below (s₁.setTop (mkF m 1 #[.val (.ref cu), .val (.ref q1), .val (.ref q2), .val (.ref q3), .val (.ref q4), .val (.ref q5), .val (.ref q6), .val (.ref q7)] [(.ref cu)])) _
    exact κ)
  obtain ⟨T2, X2, e2, st2⟩ := initO X0 hx hZ hown (hw _ (List.mem_of_getElem? (i := 36) rfl)) (hw _ (List.mem_of_getElem? (i := 19) rfl)) (hw _ (List.mem_of_getElem? (i := 20) rfl)) e0 (g := (mkF m 1 #[.val (.ref cu), .val (.ref q1), .val (.ref q2), .val (.ref q3), .val (.ref q4), .val (.ref q5), .val (.ref q6), .val (.ref q7)] [(.ref cu)])) rfl (by rw [hml]; rfl) rfl (hb hby d5_1) (by decide) (W := 0) (by show 2 * 0 + _ ≤ _; exact Nat.le_of_eq rfl) (by decide)
  have pre3 := fun τ (κ : Steps p.tables e below (T2.setTop (mkF m 4 #[.val (.ref cu), .val (.ref q1), .val (.ref q2), .val (.ref q3), .val (.ref q4), .val (.ref q5), .val (.ref q6), .val (.ref q7)] [])) τ) => pre1 τ (st2 _ κ)
  have pre4 := fun τ (κ : Steps p.tables e below (T2.setTop (mkF m 6 #[.val (.ref cu), .val (.ref q1), .val (.ref q2), .val (.ref q3), .val (.ref q4), .val (.ref q5), .val (.ref q6), .val (.ref q7)] [(.ref q1), (.ref cu)])) τ) => pre3 τ (by
    refine XS.aloadN X2.here hx rfl (hb hby d5_4) rfl rfl ?_
    refine XS.aloadN X2.here hx rfl (hb hby d5_5) rfl rfl ?_
    show Steps p.tables e below (T2.setTop (mkF m 6 #[.val (.ref cu), .val (.ref q1), .val (.ref q2), .val (.ref q3), .val (.ref q4), .val (.ref q5), .val (.ref q6), .val (.ref q7)] [(.ref q1), (.ref cu)])) _
    exact κ)
  obtain ⟨T5, h5, X5, e5, W5, st5⟩ := putF X2 hx hZ hown (host := "") (Or.inl (hw _ (List.mem_of_getElem? (i := 37) rfl))) Via.refl e2 F_highs E_c (Or.inr ⟨(hw _ (List.mem_of_getElem? (i := 38) rfl)), rfl, hnm⟩) (hw _ (List.mem_of_getElem? (i := 23) rfl)) (ty := (.array .long)) (by decide) rfl rfl (g := (mkF m 6 #[.val (.ref cu), .val (.ref q1), .val (.ref q2), .val (.ref q3), .val (.ref q4), .val (.ref q5), .val (.ref q6), .val (.ref q7)] [(.ref q1), (.ref cu)])) rfl rfl (hb hby d5_6)
  have E_c_5 : Exa Z h5 cu "com/example/earmark/earmark/ledger/HoldStates$Chunk" := E_c.wr W5
  have F_lows_5 : Fld Z h5 cu "com/example/earmark/earmark/ledger/HoldStates$Chunk" "lows" "[J" .null := F_lows.other W5 (Or.inr (slot_ne (Or.inr (hw _ (List.mem_of_getElem? (i := 40) rfl))) (Or.inr (hw _ (List.mem_of_getElem? (i := 38) rfl))) (by decide) (t := (.array .long)) (t' := (.array .long)) (by decide) (by decide)))
  have F_accountIds_5 : Fld Z h5 cu "com/example/earmark/earmark/ledger/HoldStates$Chunk" "accountIds" "[Ljava/lang/String;" .null := F_accountIds.other W5 (Or.inr (slot_ne (Or.inr (hw _ (List.mem_of_getElem? (i := 42) rfl))) (Or.inr (hw _ (List.mem_of_getElem? (i := 38) rfl))) (by decide) (t := (.array (.object "java/lang/String"))) (t' := (.array .long)) (by decide) (by decide)))
  have F_amounts_5 : Fld Z h5 cu "com/example/earmark/earmark/ledger/HoldStates$Chunk" "amounts" "[J" .null := F_amounts.other W5 (Or.inr (slot_ne (Or.inr (hw _ (List.mem_of_getElem? (i := 44) rfl))) (Or.inr (hw _ (List.mem_of_getElem? (i := 38) rfl))) (by decide) (t := (.array .long)) (t' := (.array .long)) (by decide) (by decide)))
  have F_placedAt_5 : Fld Z h5 cu "com/example/earmark/earmark/ledger/HoldStates$Chunk" "placedAt" "[J" .null := F_placedAt.other W5 (Or.inr (slot_ne (Or.inr (hw _ (List.mem_of_getElem? (i := 46) rfl))) (Or.inr (hw _ (List.mem_of_getElem? (i := 38) rfl))) (by decide) (t := (.array .long)) (t' := (.array .long)) (by decide) (by decide)))
  have F_expiresAt_5 : Fld Z h5 cu "com/example/earmark/earmark/ledger/HoldStates$Chunk" "expiresAt" "[J" .null := F_expiresAt.other W5 (Or.inr (slot_ne (Or.inr (hw _ (List.mem_of_getElem? (i := 48) rfl))) (Or.inr (hw _ (List.mem_of_getElem? (i := 38) rfl))) (by decide) (t := (.array .long)) (t' := (.array .long)) (by decide) (by decide)))
  have F_states_5 : Fld Z h5 cu "com/example/earmark/earmark/ledger/HoldStates$Chunk" "states" "[Ljava/lang/Object;" .null := F_states.other W5 (Or.inr (slot_ne (Or.inr (hw _ (List.mem_of_getElem? (i := 50) rfl))) (Or.inr (hw _ (List.mem_of_getElem? (i := 38) rfl))) (by decide) (t := (.array (.object "java/lang/Object"))) (t' := (.array .long)) (by decide) (by decide)))
  have Kp5 : Keep h0 h5 [cu] := Kp0.wr W5 (Or.inl (List.mem_of_getElem? (i := 0) rfl))
  have N5 := Fr.snoc X5 N0 g_cu
  have Z5 : n0 ≤ h5.size := Nat.le_trans Z0 (Keep.of_wr W5).1
  have F_highs_cu_5 : Fld Z h5 cu "com/example/earmark/earmark/ledger/HoldStates$Chunk" "highs" "[J" (.ref q1) := F_highs.same W5
  have pre6 := fun τ (κ : Steps p.tables e below (T5.setTop (mkF m 9 #[.val (.ref cu), .val (.ref q1), .val (.ref q2), .val (.ref q3), .val (.ref q4), .val (.ref q5), .val (.ref q6), .val (.ref q7)] [])) τ) => pre4 τ (st5 _ κ)
  have pre7 := fun τ (κ : Steps p.tables e below (T5.setTop (mkF m 11 #[.val (.ref cu), .val (.ref q1), .val (.ref q2), .val (.ref q3), .val (.ref q4), .val (.ref q5), .val (.ref q6), .val (.ref q7)] [(.ref q2), (.ref cu)])) τ) => pre6 τ (by
    refine XS.aloadN X5.here hx rfl (hb hby d5_9) rfl rfl ?_
    refine XS.aloadN X5.here hx rfl (hb hby d5_10) rfl rfl ?_
    show Steps p.tables e below (T5.setTop (mkF m 11 #[.val (.ref cu), .val (.ref q1), .val (.ref q2), .val (.ref q3), .val (.ref q4), .val (.ref q5), .val (.ref q6), .val (.ref q7)] [(.ref q2), (.ref cu)])) _
    exact κ)
  obtain ⟨T8, h8, X8, e8, W8, st8⟩ := putF X5 hx hZ hown (host := "") (Or.inl (hw _ (List.mem_of_getElem? (i := 39) rfl))) Via.refl e5 F_lows_5 E_c_5 (Or.inr ⟨(hw _ (List.mem_of_getElem? (i := 40) rfl)), rfl, hnm⟩) (hw _ (List.mem_of_getElem? (i := 23) rfl)) (ty := (.array .long)) (by decide) rfl rfl (g := (mkF m 11 #[.val (.ref cu), .val (.ref q1), .val (.ref q2), .val (.ref q3), .val (.ref q4), .val (.ref q5), .val (.ref q6), .val (.ref q7)] [(.ref q2), (.ref cu)])) rfl rfl (hb hby d5_11)
  have E_c_8 : Exa Z h8 cu "com/example/earmark/earmark/ledger/HoldStates$Chunk" := E_c_5.wr W8
  have F_accountIds_8 : Fld Z h8 cu "com/example/earmark/earmark/ledger/HoldStates$Chunk" "accountIds" "[Ljava/lang/String;" .null := F_accountIds_5.other W8 (Or.inr (slot_ne (Or.inr (hw _ (List.mem_of_getElem? (i := 42) rfl))) (Or.inr (hw _ (List.mem_of_getElem? (i := 40) rfl))) (by decide) (t := (.array (.object "java/lang/String"))) (t' := (.array .long)) (by decide) (by decide)))
  have F_amounts_8 : Fld Z h8 cu "com/example/earmark/earmark/ledger/HoldStates$Chunk" "amounts" "[J" .null := F_amounts_5.other W8 (Or.inr (slot_ne (Or.inr (hw _ (List.mem_of_getElem? (i := 44) rfl))) (Or.inr (hw _ (List.mem_of_getElem? (i := 40) rfl))) (by decide) (t := (.array .long)) (t' := (.array .long)) (by decide) (by decide)))
  have F_placedAt_8 : Fld Z h8 cu "com/example/earmark/earmark/ledger/HoldStates$Chunk" "placedAt" "[J" .null := F_placedAt_5.other W8 (Or.inr (slot_ne (Or.inr (hw _ (List.mem_of_getElem? (i := 46) rfl))) (Or.inr (hw _ (List.mem_of_getElem? (i := 40) rfl))) (by decide) (t := (.array .long)) (t' := (.array .long)) (by decide) (by decide)))
  have F_expiresAt_8 : Fld Z h8 cu "com/example/earmark/earmark/ledger/HoldStates$Chunk" "expiresAt" "[J" .null := F_expiresAt_5.other W8 (Or.inr (slot_ne (Or.inr (hw _ (List.mem_of_getElem? (i := 48) rfl))) (Or.inr (hw _ (List.mem_of_getElem? (i := 40) rfl))) (by decide) (t := (.array .long)) (t' := (.array .long)) (by decide) (by decide)))
  have F_states_8 : Fld Z h8 cu "com/example/earmark/earmark/ledger/HoldStates$Chunk" "states" "[Ljava/lang/Object;" .null := F_states_5.other W8 (Or.inr (slot_ne (Or.inr (hw _ (List.mem_of_getElem? (i := 50) rfl))) (Or.inr (hw _ (List.mem_of_getElem? (i := 40) rfl))) (by decide) (t := (.array (.object "java/lang/Object"))) (t' := (.array .long)) (by decide) (by decide)))
  have F_highs_cu_8 : Fld Z h8 cu "com/example/earmark/earmark/ledger/HoldStates$Chunk" "highs" "[J" (.ref q1) := F_highs_cu_5.other W8 (Or.inr (slot_ne (Or.inr (hw _ (List.mem_of_getElem? (i := 38) rfl))) (Or.inr (hw _ (List.mem_of_getElem? (i := 40) rfl))) (by decide) (t := (.array .long)) (t' := (.array .long)) (by decide) (by decide)))
  have Kp8 : Keep h0 h8 [cu] := Kp5.wr W8 (Or.inl (List.mem_of_getElem? (i := 0) rfl))
  have N8 := Fr.snoc X8 N5 g_cu
  have Z8 : n0 ≤ h8.size := Nat.le_trans Z5 (Keep.of_wr W8).1
  have F_lows_cu_8 : Fld Z h8 cu "com/example/earmark/earmark/ledger/HoldStates$Chunk" "lows" "[J" (.ref q2) := F_lows_5.same W8
  have pre9 := fun τ (κ : Steps p.tables e below (T8.setTop (mkF m 14 #[.val (.ref cu), .val (.ref q1), .val (.ref q2), .val (.ref q3), .val (.ref q4), .val (.ref q5), .val (.ref q6), .val (.ref q7)] [])) τ) => pre7 τ (st8 _ κ)
  have pre10 := fun τ (κ : Steps p.tables e below (T8.setTop (mkF m 16 #[.val (.ref cu), .val (.ref q1), .val (.ref q2), .val (.ref q3), .val (.ref q4), .val (.ref q5), .val (.ref q6), .val (.ref q7)] [(.ref q3), (.ref cu)])) τ) => pre9 τ (by
    refine XS.aloadN X8.here hx rfl (hb hby d5_14) rfl rfl ?_
    refine XS.aloadN X8.here hx rfl (hb hby d5_15) rfl rfl ?_
    show Steps p.tables e below (T8.setTop (mkF m 16 #[.val (.ref cu), .val (.ref q1), .val (.ref q2), .val (.ref q3), .val (.ref q4), .val (.ref q5), .val (.ref q6), .val (.ref q7)] [(.ref q3), (.ref cu)])) _
    exact κ)
  obtain ⟨T11, h11, X11, e11, W11, st11⟩ := putF X8 hx hZ hown (host := "") (Or.inl (hw _ (List.mem_of_getElem? (i := 41) rfl))) Via.refl e8 F_accountIds_8 E_c_8 (Or.inr ⟨(hw _ (List.mem_of_getElem? (i := 42) rfl)), rfl, hnm⟩) (hw _ (List.mem_of_getElem? (i := 23) rfl)) (ty := (.array (.object "java/lang/String"))) (by decide) rfl rfl (g := (mkF m 16 #[.val (.ref cu), .val (.ref q1), .val (.ref q2), .val (.ref q3), .val (.ref q4), .val (.ref q5), .val (.ref q6), .val (.ref q7)] [(.ref q3), (.ref cu)])) rfl rfl (hb hby d5_16)
  have E_c_11 : Exa Z h11 cu "com/example/earmark/earmark/ledger/HoldStates$Chunk" := E_c_8.wr W11
  have F_amounts_11 : Fld Z h11 cu "com/example/earmark/earmark/ledger/HoldStates$Chunk" "amounts" "[J" .null := F_amounts_8.other W11 (Or.inr (slot_ne (Or.inr (hw _ (List.mem_of_getElem? (i := 44) rfl))) (Or.inr (hw _ (List.mem_of_getElem? (i := 42) rfl))) (by decide) (t := (.array .long)) (t' := (.array (.object "java/lang/String"))) (by decide) (by decide)))
  have F_placedAt_11 : Fld Z h11 cu "com/example/earmark/earmark/ledger/HoldStates$Chunk" "placedAt" "[J" .null := F_placedAt_8.other W11 (Or.inr (slot_ne (Or.inr (hw _ (List.mem_of_getElem? (i := 46) rfl))) (Or.inr (hw _ (List.mem_of_getElem? (i := 42) rfl))) (by decide) (t := (.array .long)) (t' := (.array (.object "java/lang/String"))) (by decide) (by decide)))
  have F_expiresAt_11 : Fld Z h11 cu "com/example/earmark/earmark/ledger/HoldStates$Chunk" "expiresAt" "[J" .null := F_expiresAt_8.other W11 (Or.inr (slot_ne (Or.inr (hw _ (List.mem_of_getElem? (i := 48) rfl))) (Or.inr (hw _ (List.mem_of_getElem? (i := 42) rfl))) (by decide) (t := (.array .long)) (t' := (.array (.object "java/lang/String"))) (by decide) (by decide)))
  have F_states_11 : Fld Z h11 cu "com/example/earmark/earmark/ledger/HoldStates$Chunk" "states" "[Ljava/lang/Object;" .null := F_states_8.other W11 (Or.inr (slot_ne (Or.inr (hw _ (List.mem_of_getElem? (i := 50) rfl))) (Or.inr (hw _ (List.mem_of_getElem? (i := 42) rfl))) (by decide) (t := (.array (.object "java/lang/Object"))) (t' := (.array (.object "java/lang/String"))) (by decide) (by decide)))
  have F_highs_cu_11 : Fld Z h11 cu "com/example/earmark/earmark/ledger/HoldStates$Chunk" "highs" "[J" (.ref q1) := F_highs_cu_8.other W11 (Or.inr (slot_ne (Or.inr (hw _ (List.mem_of_getElem? (i := 38) rfl))) (Or.inr (hw _ (List.mem_of_getElem? (i := 42) rfl))) (by decide) (t := (.array .long)) (t' := (.array (.object "java/lang/String"))) (by decide) (by decide)))
  have F_lows_cu_11 : Fld Z h11 cu "com/example/earmark/earmark/ledger/HoldStates$Chunk" "lows" "[J" (.ref q2) := F_lows_cu_8.other W11 (Or.inr (slot_ne (Or.inr (hw _ (List.mem_of_getElem? (i := 40) rfl))) (Or.inr (hw _ (List.mem_of_getElem? (i := 42) rfl))) (by decide) (t := (.array .long)) (t' := (.array (.object "java/lang/String"))) (by decide) (by decide)))
  have Kp11 : Keep h0 h11 [cu] := Kp8.wr W11 (Or.inl (List.mem_of_getElem? (i := 0) rfl))
  have N11 := Fr.snoc X11 N8 g_cu
  have Z11 : n0 ≤ h11.size := Nat.le_trans Z8 (Keep.of_wr W11).1
  have F_accountIds_cu_11 : Fld Z h11 cu "com/example/earmark/earmark/ledger/HoldStates$Chunk" "accountIds" "[Ljava/lang/String;" (.ref q3) := F_accountIds_8.same W11
  have pre12 := fun τ (κ : Steps p.tables e below (T11.setTop (mkF m 19 #[.val (.ref cu), .val (.ref q1), .val (.ref q2), .val (.ref q3), .val (.ref q4), .val (.ref q5), .val (.ref q6), .val (.ref q7)] [])) τ) => pre10 τ (st11 _ κ)
  have pre13 := fun τ (κ : Steps p.tables e below (T11.setTop (mkF m 22 #[.val (.ref cu), .val (.ref q1), .val (.ref q2), .val (.ref q3), .val (.ref q4), .val (.ref q5), .val (.ref q6), .val (.ref q7)] [(.ref q4), (.ref cu)])) τ) => pre12 τ (by
    refine XS.aloadN X11.here hx rfl (hb hby d5_19) rfl rfl ?_
    refine XS.aload X11.here hx rfl (hb hby d5_20) rfl rfl ?_
    show Steps p.tables e below (T11.setTop (mkF m 22 #[.val (.ref cu), .val (.ref q1), .val (.ref q2), .val (.ref q3), .val (.ref q4), .val (.ref q5), .val (.ref q6), .val (.ref q7)] [(.ref q4), (.ref cu)])) _
    exact κ)
  obtain ⟨T14, h14, X14, e14, W14, st14⟩ := putF X11 hx hZ hown (host := "") (Or.inl (hw _ (List.mem_of_getElem? (i := 43) rfl))) Via.refl e11 F_amounts_11 E_c_11 (Or.inr ⟨(hw _ (List.mem_of_getElem? (i := 44) rfl)), rfl, hnm⟩) (hw _ (List.mem_of_getElem? (i := 23) rfl)) (ty := (.array .long)) (by decide) rfl rfl (g := (mkF m 22 #[.val (.ref cu), .val (.ref q1), .val (.ref q2), .val (.ref q3), .val (.ref q4), .val (.ref q5), .val (.ref q6), .val (.ref q7)] [(.ref q4), (.ref cu)])) rfl rfl (hb hby d5_22)
  have E_c_14 : Exa Z h14 cu "com/example/earmark/earmark/ledger/HoldStates$Chunk" := E_c_11.wr W14
  have F_placedAt_14 : Fld Z h14 cu "com/example/earmark/earmark/ledger/HoldStates$Chunk" "placedAt" "[J" .null := F_placedAt_11.other W14 (Or.inr (slot_ne (Or.inr (hw _ (List.mem_of_getElem? (i := 46) rfl))) (Or.inr (hw _ (List.mem_of_getElem? (i := 44) rfl))) (by decide) (t := (.array .long)) (t' := (.array .long)) (by decide) (by decide)))
  have F_expiresAt_14 : Fld Z h14 cu "com/example/earmark/earmark/ledger/HoldStates$Chunk" "expiresAt" "[J" .null := F_expiresAt_11.other W14 (Or.inr (slot_ne (Or.inr (hw _ (List.mem_of_getElem? (i := 48) rfl))) (Or.inr (hw _ (List.mem_of_getElem? (i := 44) rfl))) (by decide) (t := (.array .long)) (t' := (.array .long)) (by decide) (by decide)))
  have F_states_14 : Fld Z h14 cu "com/example/earmark/earmark/ledger/HoldStates$Chunk" "states" "[Ljava/lang/Object;" .null := F_states_11.other W14 (Or.inr (slot_ne (Or.inr (hw _ (List.mem_of_getElem? (i := 50) rfl))) (Or.inr (hw _ (List.mem_of_getElem? (i := 44) rfl))) (by decide) (t := (.array (.object "java/lang/Object"))) (t' := (.array .long)) (by decide) (by decide)))
  have F_highs_cu_14 : Fld Z h14 cu "com/example/earmark/earmark/ledger/HoldStates$Chunk" "highs" "[J" (.ref q1) := F_highs_cu_11.other W14 (Or.inr (slot_ne (Or.inr (hw _ (List.mem_of_getElem? (i := 38) rfl))) (Or.inr (hw _ (List.mem_of_getElem? (i := 44) rfl))) (by decide) (t := (.array .long)) (t' := (.array .long)) (by decide) (by decide)))
  have F_lows_cu_14 : Fld Z h14 cu "com/example/earmark/earmark/ledger/HoldStates$Chunk" "lows" "[J" (.ref q2) := F_lows_cu_11.other W14 (Or.inr (slot_ne (Or.inr (hw _ (List.mem_of_getElem? (i := 40) rfl))) (Or.inr (hw _ (List.mem_of_getElem? (i := 44) rfl))) (by decide) (t := (.array .long)) (t' := (.array .long)) (by decide) (by decide)))
  have F_accountIds_cu_14 : Fld Z h14 cu "com/example/earmark/earmark/ledger/HoldStates$Chunk" "accountIds" "[Ljava/lang/String;" (.ref q3) := F_accountIds_cu_11.other W14 (Or.inr (slot_ne (Or.inr (hw _ (List.mem_of_getElem? (i := 42) rfl))) (Or.inr (hw _ (List.mem_of_getElem? (i := 44) rfl))) (by decide) (t := (.array (.object "java/lang/String"))) (t' := (.array .long)) (by decide) (by decide)))
  have Kp14 : Keep h0 h14 [cu] := Kp11.wr W14 (Or.inl (List.mem_of_getElem? (i := 0) rfl))
  have N14 := Fr.snoc X14 N11 g_cu
  have Z14 : n0 ≤ h14.size := Nat.le_trans Z11 (Keep.of_wr W14).1
  have F_amounts_cu_14 : Fld Z h14 cu "com/example/earmark/earmark/ledger/HoldStates$Chunk" "amounts" "[J" (.ref q4) := F_amounts_11.same W14
  have pre15 := fun τ (κ : Steps p.tables e below (T14.setTop (mkF m 25 #[.val (.ref cu), .val (.ref q1), .val (.ref q2), .val (.ref q3), .val (.ref q4), .val (.ref q5), .val (.ref q6), .val (.ref q7)] [])) τ) => pre13 τ (st14 _ κ)
  have pre16 := fun τ (κ : Steps p.tables e below (T14.setTop (mkF m 28 #[.val (.ref cu), .val (.ref q1), .val (.ref q2), .val (.ref q3), .val (.ref q4), .val (.ref q5), .val (.ref q6), .val (.ref q7)] [(.ref q5), (.ref cu)])) τ) => pre15 τ (by
    refine XS.aloadN X14.here hx rfl (hb hby d5_25) rfl rfl ?_
    refine XS.aload X14.here hx rfl (hb hby d5_26) rfl rfl ?_
    show Steps p.tables e below (T14.setTop (mkF m 28 #[.val (.ref cu), .val (.ref q1), .val (.ref q2), .val (.ref q3), .val (.ref q4), .val (.ref q5), .val (.ref q6), .val (.ref q7)] [(.ref q5), (.ref cu)])) _
    exact κ)
  obtain ⟨T17, h17, X17, e17, W17, st17⟩ := putF X14 hx hZ hown (host := "") (Or.inl (hw _ (List.mem_of_getElem? (i := 45) rfl))) Via.refl e14 F_placedAt_14 E_c_14 (Or.inr ⟨(hw _ (List.mem_of_getElem? (i := 46) rfl)), rfl, hnm⟩) (hw _ (List.mem_of_getElem? (i := 23) rfl)) (ty := (.array .long)) (by decide) rfl rfl (g := (mkF m 28 #[.val (.ref cu), .val (.ref q1), .val (.ref q2), .val (.ref q3), .val (.ref q4), .val (.ref q5), .val (.ref q6), .val (.ref q7)] [(.ref q5), (.ref cu)])) rfl rfl (hb hby d5_28)
  have E_c_17 : Exa Z h17 cu "com/example/earmark/earmark/ledger/HoldStates$Chunk" := E_c_14.wr W17
  have F_expiresAt_17 : Fld Z h17 cu "com/example/earmark/earmark/ledger/HoldStates$Chunk" "expiresAt" "[J" .null := F_expiresAt_14.other W17 (Or.inr (slot_ne (Or.inr (hw _ (List.mem_of_getElem? (i := 48) rfl))) (Or.inr (hw _ (List.mem_of_getElem? (i := 46) rfl))) (by decide) (t := (.array .long)) (t' := (.array .long)) (by decide) (by decide)))
  have F_states_17 : Fld Z h17 cu "com/example/earmark/earmark/ledger/HoldStates$Chunk" "states" "[Ljava/lang/Object;" .null := F_states_14.other W17 (Or.inr (slot_ne (Or.inr (hw _ (List.mem_of_getElem? (i := 50) rfl))) (Or.inr (hw _ (List.mem_of_getElem? (i := 46) rfl))) (by decide) (t := (.array (.object "java/lang/Object"))) (t' := (.array .long)) (by decide) (by decide)))
  have F_highs_cu_17 : Fld Z h17 cu "com/example/earmark/earmark/ledger/HoldStates$Chunk" "highs" "[J" (.ref q1) := F_highs_cu_14.other W17 (Or.inr (slot_ne (Or.inr (hw _ (List.mem_of_getElem? (i := 38) rfl))) (Or.inr (hw _ (List.mem_of_getElem? (i := 46) rfl))) (by decide) (t := (.array .long)) (t' := (.array .long)) (by decide) (by decide)))
  have F_lows_cu_17 : Fld Z h17 cu "com/example/earmark/earmark/ledger/HoldStates$Chunk" "lows" "[J" (.ref q2) := F_lows_cu_14.other W17 (Or.inr (slot_ne (Or.inr (hw _ (List.mem_of_getElem? (i := 40) rfl))) (Or.inr (hw _ (List.mem_of_getElem? (i := 46) rfl))) (by decide) (t := (.array .long)) (t' := (.array .long)) (by decide) (by decide)))
  have F_accountIds_cu_17 : Fld Z h17 cu "com/example/earmark/earmark/ledger/HoldStates$Chunk" "accountIds" "[Ljava/lang/String;" (.ref q3) := F_accountIds_cu_14.other W17 (Or.inr (slot_ne (Or.inr (hw _ (List.mem_of_getElem? (i := 42) rfl))) (Or.inr (hw _ (List.mem_of_getElem? (i := 46) rfl))) (by decide) (t := (.array (.object "java/lang/String"))) (t' := (.array .long)) (by decide) (by decide)))
  have F_amounts_cu_17 : Fld Z h17 cu "com/example/earmark/earmark/ledger/HoldStates$Chunk" "amounts" "[J" (.ref q4) := F_amounts_cu_14.other W17 (Or.inr (slot_ne (Or.inr (hw _ (List.mem_of_getElem? (i := 44) rfl))) (Or.inr (hw _ (List.mem_of_getElem? (i := 46) rfl))) (by decide) (t := (.array .long)) (t' := (.array .long)) (by decide) (by decide)))
  have Kp17 : Keep h0 h17 [cu] := Kp14.wr W17 (Or.inl (List.mem_of_getElem? (i := 0) rfl))
  have N17 := Fr.snoc X17 N14 g_cu
  have Z17 : n0 ≤ h17.size := Nat.le_trans Z14 (Keep.of_wr W17).1
  have F_placedAt_cu_17 : Fld Z h17 cu "com/example/earmark/earmark/ledger/HoldStates$Chunk" "placedAt" "[J" (.ref q5) := F_placedAt_14.same W17
  have pre18 := fun τ (κ : Steps p.tables e below (T17.setTop (mkF m 31 #[.val (.ref cu), .val (.ref q1), .val (.ref q2), .val (.ref q3), .val (.ref q4), .val (.ref q5), .val (.ref q6), .val (.ref q7)] [])) τ) => pre16 τ (st17 _ κ)
  have pre19 := fun τ (κ : Steps p.tables e below (T17.setTop (mkF m 34 #[.val (.ref cu), .val (.ref q1), .val (.ref q2), .val (.ref q3), .val (.ref q4), .val (.ref q5), .val (.ref q6), .val (.ref q7)] [(.ref q6), (.ref cu)])) τ) => pre18 τ (by
    refine XS.aloadN X17.here hx rfl (hb hby d5_31) rfl rfl ?_
    refine XS.aload X17.here hx rfl (hb hby d5_32) rfl rfl ?_
    show Steps p.tables e below (T17.setTop (mkF m 34 #[.val (.ref cu), .val (.ref q1), .val (.ref q2), .val (.ref q3), .val (.ref q4), .val (.ref q5), .val (.ref q6), .val (.ref q7)] [(.ref q6), (.ref cu)])) _
    exact κ)
  obtain ⟨T20, h20, X20, e20, W20, st20⟩ := putF X17 hx hZ hown (host := "") (Or.inl (hw _ (List.mem_of_getElem? (i := 47) rfl))) Via.refl e17 F_expiresAt_17 E_c_17 (Or.inr ⟨(hw _ (List.mem_of_getElem? (i := 48) rfl)), rfl, hnm⟩) (hw _ (List.mem_of_getElem? (i := 23) rfl)) (ty := (.array .long)) (by decide) rfl rfl (g := (mkF m 34 #[.val (.ref cu), .val (.ref q1), .val (.ref q2), .val (.ref q3), .val (.ref q4), .val (.ref q5), .val (.ref q6), .val (.ref q7)] [(.ref q6), (.ref cu)])) rfl rfl (hb hby d5_34)
  have E_c_20 : Exa Z h20 cu "com/example/earmark/earmark/ledger/HoldStates$Chunk" := E_c_17.wr W20
  have F_states_20 : Fld Z h20 cu "com/example/earmark/earmark/ledger/HoldStates$Chunk" "states" "[Ljava/lang/Object;" .null := F_states_17.other W20 (Or.inr (slot_ne (Or.inr (hw _ (List.mem_of_getElem? (i := 50) rfl))) (Or.inr (hw _ (List.mem_of_getElem? (i := 48) rfl))) (by decide) (t := (.array (.object "java/lang/Object"))) (t' := (.array .long)) (by decide) (by decide)))
  have F_highs_cu_20 : Fld Z h20 cu "com/example/earmark/earmark/ledger/HoldStates$Chunk" "highs" "[J" (.ref q1) := F_highs_cu_17.other W20 (Or.inr (slot_ne (Or.inr (hw _ (List.mem_of_getElem? (i := 38) rfl))) (Or.inr (hw _ (List.mem_of_getElem? (i := 48) rfl))) (by decide) (t := (.array .long)) (t' := (.array .long)) (by decide) (by decide)))
  have F_lows_cu_20 : Fld Z h20 cu "com/example/earmark/earmark/ledger/HoldStates$Chunk" "lows" "[J" (.ref q2) := F_lows_cu_17.other W20 (Or.inr (slot_ne (Or.inr (hw _ (List.mem_of_getElem? (i := 40) rfl))) (Or.inr (hw _ (List.mem_of_getElem? (i := 48) rfl))) (by decide) (t := (.array .long)) (t' := (.array .long)) (by decide) (by decide)))
  have F_accountIds_cu_20 : Fld Z h20 cu "com/example/earmark/earmark/ledger/HoldStates$Chunk" "accountIds" "[Ljava/lang/String;" (.ref q3) := F_accountIds_cu_17.other W20 (Or.inr (slot_ne (Or.inr (hw _ (List.mem_of_getElem? (i := 42) rfl))) (Or.inr (hw _ (List.mem_of_getElem? (i := 48) rfl))) (by decide) (t := (.array (.object "java/lang/String"))) (t' := (.array .long)) (by decide) (by decide)))
  have F_amounts_cu_20 : Fld Z h20 cu "com/example/earmark/earmark/ledger/HoldStates$Chunk" "amounts" "[J" (.ref q4) := F_amounts_cu_17.other W20 (Or.inr (slot_ne (Or.inr (hw _ (List.mem_of_getElem? (i := 44) rfl))) (Or.inr (hw _ (List.mem_of_getElem? (i := 48) rfl))) (by decide) (t := (.array .long)) (t' := (.array .long)) (by decide) (by decide)))
  have F_placedAt_cu_20 : Fld Z h20 cu "com/example/earmark/earmark/ledger/HoldStates$Chunk" "placedAt" "[J" (.ref q5) := F_placedAt_cu_17.other W20 (Or.inr (slot_ne (Or.inr (hw _ (List.mem_of_getElem? (i := 46) rfl))) (Or.inr (hw _ (List.mem_of_getElem? (i := 48) rfl))) (by decide) (t := (.array .long)) (t' := (.array .long)) (by decide) (by decide)))
  have Kp20 : Keep h0 h20 [cu] := Kp17.wr W20 (Or.inl (List.mem_of_getElem? (i := 0) rfl))
  have N20 := Fr.snoc X20 N17 g_cu
  have Z20 : n0 ≤ h20.size := Nat.le_trans Z17 (Keep.of_wr W20).1
  have F_expiresAt_cu_20 : Fld Z h20 cu "com/example/earmark/earmark/ledger/HoldStates$Chunk" "expiresAt" "[J" (.ref q6) := F_expiresAt_17.same W20
  have pre21 := fun τ (κ : Steps p.tables e below (T20.setTop (mkF m 37 #[.val (.ref cu), .val (.ref q1), .val (.ref q2), .val (.ref q3), .val (.ref q4), .val (.ref q5), .val (.ref q6), .val (.ref q7)] [])) τ) => pre19 τ (st20 _ κ)
  have pre22 := fun τ (κ : Steps p.tables e below (T20.setTop (mkF m 40 #[.val (.ref cu), .val (.ref q1), .val (.ref q2), .val (.ref q3), .val (.ref q4), .val (.ref q5), .val (.ref q6), .val (.ref q7)] [(.ref q7), (.ref cu)])) τ) => pre21 τ (by
    refine XS.aloadN X20.here hx rfl (hb hby d5_37) rfl rfl ?_
    refine XS.aload X20.here hx rfl (hb hby d5_38) rfl rfl ?_
    show Steps p.tables e below (T20.setTop (mkF m 40 #[.val (.ref cu), .val (.ref q1), .val (.ref q2), .val (.ref q3), .val (.ref q4), .val (.ref q5), .val (.ref q6), .val (.ref q7)] [(.ref q7), (.ref cu)])) _
    exact κ)
  obtain ⟨T23, h23, X23, e23, W23, st23⟩ := putF X20 hx hZ hown (host := "") (Or.inl (hw _ (List.mem_of_getElem? (i := 49) rfl))) Via.refl e20 F_states_20 E_c_20 (Or.inr ⟨(hw _ (List.mem_of_getElem? (i := 50) rfl)), rfl, hnm⟩) (hw _ (List.mem_of_getElem? (i := 23) rfl)) (ty := (.array (.object "java/lang/Object"))) (by decide) rfl rfl (g := (mkF m 40 #[.val (.ref cu), .val (.ref q1), .val (.ref q2), .val (.ref q3), .val (.ref q4), .val (.ref q5), .val (.ref q6), .val (.ref q7)] [(.ref q7), (.ref cu)])) rfl rfl (hb hby d5_40)
  have E_c_23 : Exa Z h23 cu "com/example/earmark/earmark/ledger/HoldStates$Chunk" := E_c_20.wr W23
  have F_highs_cu_23 : Fld Z h23 cu "com/example/earmark/earmark/ledger/HoldStates$Chunk" "highs" "[J" (.ref q1) := F_highs_cu_20.other W23 (Or.inr (slot_ne (Or.inr (hw _ (List.mem_of_getElem? (i := 38) rfl))) (Or.inr (hw _ (List.mem_of_getElem? (i := 50) rfl))) (by decide) (t := (.array .long)) (t' := (.array (.object "java/lang/Object"))) (by decide) (by decide)))
  have F_lows_cu_23 : Fld Z h23 cu "com/example/earmark/earmark/ledger/HoldStates$Chunk" "lows" "[J" (.ref q2) := F_lows_cu_20.other W23 (Or.inr (slot_ne (Or.inr (hw _ (List.mem_of_getElem? (i := 40) rfl))) (Or.inr (hw _ (List.mem_of_getElem? (i := 50) rfl))) (by decide) (t := (.array .long)) (t' := (.array (.object "java/lang/Object"))) (by decide) (by decide)))
  have F_accountIds_cu_23 : Fld Z h23 cu "com/example/earmark/earmark/ledger/HoldStates$Chunk" "accountIds" "[Ljava/lang/String;" (.ref q3) := F_accountIds_cu_20.other W23 (Or.inr (slot_ne (Or.inr (hw _ (List.mem_of_getElem? (i := 42) rfl))) (Or.inr (hw _ (List.mem_of_getElem? (i := 50) rfl))) (by decide) (t := (.array (.object "java/lang/String"))) (t' := (.array (.object "java/lang/Object"))) (by decide) (by decide)))
  have F_amounts_cu_23 : Fld Z h23 cu "com/example/earmark/earmark/ledger/HoldStates$Chunk" "amounts" "[J" (.ref q4) := F_amounts_cu_20.other W23 (Or.inr (slot_ne (Or.inr (hw _ (List.mem_of_getElem? (i := 44) rfl))) (Or.inr (hw _ (List.mem_of_getElem? (i := 50) rfl))) (by decide) (t := (.array .long)) (t' := (.array (.object "java/lang/Object"))) (by decide) (by decide)))
  have F_placedAt_cu_23 : Fld Z h23 cu "com/example/earmark/earmark/ledger/HoldStates$Chunk" "placedAt" "[J" (.ref q5) := F_placedAt_cu_20.other W23 (Or.inr (slot_ne (Or.inr (hw _ (List.mem_of_getElem? (i := 46) rfl))) (Or.inr (hw _ (List.mem_of_getElem? (i := 50) rfl))) (by decide) (t := (.array .long)) (t' := (.array (.object "java/lang/Object"))) (by decide) (by decide)))
  have F_expiresAt_cu_23 : Fld Z h23 cu "com/example/earmark/earmark/ledger/HoldStates$Chunk" "expiresAt" "[J" (.ref q6) := F_expiresAt_cu_20.other W23 (Or.inr (slot_ne (Or.inr (hw _ (List.mem_of_getElem? (i := 48) rfl))) (Or.inr (hw _ (List.mem_of_getElem? (i := 50) rfl))) (by decide) (t := (.array .long)) (t' := (.array (.object "java/lang/Object"))) (by decide) (by decide)))
  have Kp23 : Keep h0 h23 [cu] := Kp20.wr W23 (Or.inl (List.mem_of_getElem? (i := 0) rfl))
  have N23 := Fr.snoc X23 N20 g_cu
  have Z23 : n0 ≤ h23.size := Nat.le_trans Z20 (Keep.of_wr W23).1
  have F_states_cu_23 : Fld Z h23 cu "com/example/earmark/earmark/ledger/HoldStates$Chunk" "states" "[Ljava/lang/Object;" (.ref q7) := F_states_20.same W23
  have pre24 := fun τ (κ : Steps p.tables e below (T23.setTop (mkF m 43 #[.val (.ref cu), .val (.ref q1), .val (.ref q2), .val (.ref q3), .val (.ref q4), .val (.ref q5), .val (.ref q6), .val (.ref q7)] [])) τ) => pre22 τ (st23 _ κ)
  obtain ⟨fs, hr, hrun, hended, hW, hsame⟩ := X23.leave (v := none) (fun _ => rfl)
  refine ⟨_, _, pre24 _ ?_, hrun, hended, _, _, rfl, ?_, ⟨_, rfl⟩, hW, hsame.mono (by decide) (by decide)⟩
  · exact X23.returnOut hx Bd.returns (hb hby d5_43) hr
  · show Q5 Z cu q1 q2 q3 q4 q5 q6 q7 h0 n0 _ T23.heap _
    rw [e23]
    exact ⟨rfl, N23, Kp23⟩
theorem ef_4 (m : MethodId) (cu : Addr) : entryFrame m #[(.ref cu), (.int (16 : Int32))] 2 = mkF m 0 #[.val (.ref cu), .val (.int (16 : Int32))] [] := by first | (simp [entryFrame, mkF, argsToLocals, Value.category]; done) | rfl
def Q4 (Z : State) (cu : Addr) (h0 : Heap) (n0 : Nat) (v : Option Value) (h : Heap) (L : List Loc) : Prop := v = none ∧ Fr n0 L ∧ Keep h0 h [cu]
set_option maxRecDepth 65536 in
set_option maxHeartbeats 40000000 in
theorem rm4 (l : Launch) (Z : State) (a0 : Array Value) (hw : ∀ d ∈ tables_1, d.before a0 Z = true) (ws : List Jvm.Cond) (cu : Addr) (h0 : Heap) (n0 : Nat) (Z0 : n0 ≤ h0.size) (E_c : Exa Z h0 cu "com/example/earmark/earmark/ledger/HoldStates$Chunk") (g_cu : n0 ≤ cu) (F_highs : Fld Z h0 cu "com/example/earmark/earmark/ledger/HoldStates$Chunk" "highs" "[J" .null) (F_lows : Fld Z h0 cu "com/example/earmark/earmark/ledger/HoldStates$Chunk" "lows" "[J" .null) (F_accountIds : Fld Z h0 cu "com/example/earmark/earmark/ledger/HoldStates$Chunk" "accountIds" "[Ljava/lang/String;" .null) (F_amounts : Fld Z h0 cu "com/example/earmark/earmark/ledger/HoldStates$Chunk" "amounts" "[J" .null) (F_placedAt : Fld Z h0 cu "com/example/earmark/earmark/ledger/HoldStates$Chunk" "placedAt" "[J" .null) (F_expiresAt : Fld Z h0 cu "com/example/earmark/earmark/ledger/HoldStates$Chunk" "expiresAt" "[J" .null) (F_states : Fld Z h0 cu "com/example/earmark/earmark/ledger/HoldStates$Chunk" "states" "[Ljava/lang/Object;" .null) :
    MetFree l (⟨"com/example/earmark/earmark/ledger/HoldStates$Chunk", "<init>", "(I)V"⟩ : MethodName) (head1 (Jvm.Cond.code (⟨"com/example/earmark/earmark/ledger/HoldStates$Chunk", "<init>", "(I)V"⟩ : MethodName) prog_75_method_1_code 2 none :: ws) ({ frames := 2, cells := 7, slots := 112, locals := 31 } : Room)) (fun α υ => α = #[(.ref cu), (.int (16 : Int32))] ∧ Z.Warmed39 υ.vm ∧ υ.heap = h0) (fun _ _ _ _ _ => True) (fun _ υ ω υ' => ∃ v L, ω = .returned v ∧ Q4 Z cu h0 n0 v υ'.heap L ∧ FrameEnd υ ω υ' L ({ frames := 2, cells := 7, slots := 112, locals := 31 } : Room).cells ({ frames := 2, cells := 7, slots := 112, locals := 31 } : Room).slots) := by
  refine MetFree.of_bodySF (plainFor_of_name pn_com_example_earmark_earmark_ledger_HoldStates_Chunk) hisR ?_
  intro p e s m args below meth c s₁ Bd hml0 hP hK
  obtain ⟨rfl, hZ, hh⟩ := hP
  have hx := Bd.exec
  have hby := Bd.bytes
  have hml : c.maxLocals = 2 := hml0
  have hown : s.vm.findClass "com/example/earmark/earmark/ledger/HoldStates$Chunk" = some m.cls := findClass_of_methodNamed Bd.named
  have hnm := (name_of_methodNamed Bd.named Bd.method).1
  have X0 : Stand p l e ({ frames := 2, cells := 7, slots := 112, locals := 31 } : Room) s m #[(.ref cu), (.int (16 : Int32))] below meth c s₁ [] 0 0 := Stand.of_body Bd
  have e0 : s₁.heap = h0 := by rw [← hh, Bd.state]; rfl
  have N0 := Fr.nil n0
  have pre0 : ∀ τ, Steps p.tables e below (s₁.setTop (mkF m 0 #[.val (.ref cu), .val (.int (16 : Int32))] [])) τ → Steps p.tables e below (s₁.setTop (entryFrame m #[(.ref cu), (.int (16 : Int32))] 2)) τ := fun τ κ => castTop (ef_4 m cu) κ
  have Kp0 : Keep h0 h0 [cu] := Keep.refl _ _
  have pre1 := fun τ (κ : Steps p.tables e below (s₁.setTop (mkF m 2 #[.val (.ref cu), .val (.int (16 : Int32))] [(.int (16 : Int32)), (.ref cu)])) τ) => pre0 τ (by
    refine XS.aloadN X0.here hx rfl (hb hby d4_0) rfl rfl ?_
    refine XS.iloadN X0.here hx rfl (hb hby d4_1) rfl ?_
    show Steps p.tables e below (s₁.setTop (mkF m 2 #[.val (.ref cu), .val (.int (16 : Int32))] [(.int (16 : Int32)), (.ref cu)])) _
    exact κ)
  obtain ⟨T2, h2, k2, X2, e2, E2, A2, st2⟩ := newP X0 hx hZ (hw _ (List.mem_of_getElem? (i := 28) rfl)) e0 (g := (mkF m 2 #[.val (.ref cu), .val (.int (16 : Int32))] [(.int (16 : Int32)), (.ref cu)])) rfl (hb hby d4_2) rfl (by decide) (cap := 16) (by decide) (by decide) (by decide) (by decide)
  obtain ⟨x1, g2⟩ : ∃ z, z = h0.size := ⟨_, rfl⟩
  rw [← g2] at A2 st2
  have g_x1 : n0 ≤ x1 := Nat.le_trans Z0 (Nat.le_of_eq g2.symm)
  have ne_cu_x1 : cu ≠ x1 := Nat.ne_of_lt (Nat.lt_of_lt_of_le E_c.lt (Nat.le_of_eq g2.symm))
  have E_c_2 : Exa Z h2 cu "com/example/earmark/earmark/ledger/HoldStates$Chunk" := E_c.ext E2
  have F_highs_2 : Fld Z h2 cu "com/example/earmark/earmark/ledger/HoldStates$Chunk" "highs" "[J" .null := F_highs.ext E2
  have F_lows_2 : Fld Z h2 cu "com/example/earmark/earmark/ledger/HoldStates$Chunk" "lows" "[J" .null := F_lows.ext E2
  have F_accountIds_2 : Fld Z h2 cu "com/example/earmark/earmark/ledger/HoldStates$Chunk" "accountIds" "[Ljava/lang/String;" .null := F_accountIds.ext E2
  have F_amounts_2 : Fld Z h2 cu "com/example/earmark/earmark/ledger/HoldStates$Chunk" "amounts" "[J" .null := F_amounts.ext E2
  have F_placedAt_2 : Fld Z h2 cu "com/example/earmark/earmark/ledger/HoldStates$Chunk" "placedAt" "[J" .null := F_placedAt.ext E2
  have F_expiresAt_2 : Fld Z h2 cu "com/example/earmark/earmark/ledger/HoldStates$Chunk" "expiresAt" "[J" .null := F_expiresAt.ext E2
  have F_states_2 : Fld Z h2 cu "com/example/earmark/earmark/ledger/HoldStates$Chunk" "states" "[Ljava/lang/Object;" .null := F_states.ext E2
  have sz_x1 : h0.size ≤ x1 := Nat.le_trans Kp0.1 (Nat.le_of_eq g2.symm)
  have Kp2 : Keep h0 h2 [cu] := Kp0.ext E2
  have Z2 : n0 ≤ h2.size := Nat.le_trans Z0 E2.1
  have V_x1_2 : Arv Z h2 x1 k2 .long (16 : Int32) [] (.long (0 : Int64)) := Arv.new A2 (by decide)
  have pre3 := fun τ (κ : Steps p.tables e below (T2.setTop (mkF m 4 #[.val (.ref cu), .val (.int (16 : Int32))] [(.ref x1), (.ref cu)])) τ) => pre1 τ (st2 _ κ)
  have pre4 := fun τ (κ : Steps p.tables e below (T2.setTop (mkF m 5 #[.val (.ref cu), .val (.int (16 : Int32))] [(.int (16 : Int32)), (.ref x1), (.ref cu)])) τ) => pre3 τ (by
    refine XS.iloadN X2.here hx rfl (hb hby d4_4) rfl ?_
    show Steps p.tables e below (T2.setTop (mkF m 5 #[.val (.ref cu), .val (.int (16 : Int32))] [(.int (16 : Int32)), (.ref x1), (.ref cu)])) _
    exact κ)
  obtain ⟨T5, h5, k5, X5, e5, E5, A5, st5⟩ := newP X2 hx hZ (hw _ (List.mem_of_getElem? (i := 28) rfl)) e2 (g := (mkF m 5 #[.val (.ref cu), .val (.int (16 : Int32))] [(.int (16 : Int32)), (.ref x1), (.ref cu)])) rfl (hb hby d4_5) rfl (by decide) (cap := 16) (by decide) (by decide) (by decide) (by decide)
  obtain ⟨x2, g5⟩ : ∃ z, z = h2.size := ⟨_, rfl⟩
  rw [← g5] at A5 st5
  have g_x2 : n0 ≤ x2 := Nat.le_trans Z2 (Nat.le_of_eq g5.symm)
  have ne_cu_x2 : cu ≠ x2 := Nat.ne_of_lt (Nat.lt_of_lt_of_le E_c_2.lt (Nat.le_of_eq g5.symm))
  have E_c_5 : Exa Z h5 cu "com/example/earmark/earmark/ledger/HoldStates$Chunk" := E_c_2.ext E5
  have F_highs_5 : Fld Z h5 cu "com/example/earmark/earmark/ledger/HoldStates$Chunk" "highs" "[J" .null := F_highs_2.ext E5
  have F_lows_5 : Fld Z h5 cu "com/example/earmark/earmark/ledger/HoldStates$Chunk" "lows" "[J" .null := F_lows_2.ext E5
  have F_accountIds_5 : Fld Z h5 cu "com/example/earmark/earmark/ledger/HoldStates$Chunk" "accountIds" "[Ljava/lang/String;" .null := F_accountIds_2.ext E5
  have F_amounts_5 : Fld Z h5 cu "com/example/earmark/earmark/ledger/HoldStates$Chunk" "amounts" "[J" .null := F_amounts_2.ext E5
  have F_placedAt_5 : Fld Z h5 cu "com/example/earmark/earmark/ledger/HoldStates$Chunk" "placedAt" "[J" .null := F_placedAt_2.ext E5
  have F_expiresAt_5 : Fld Z h5 cu "com/example/earmark/earmark/ledger/HoldStates$Chunk" "expiresAt" "[J" .null := F_expiresAt_2.ext E5
  have F_states_5 : Fld Z h5 cu "com/example/earmark/earmark/ledger/HoldStates$Chunk" "states" "[Ljava/lang/Object;" .null := F_states_2.ext E5
  have sz_x2 : h0.size ≤ x2 := Nat.le_trans Kp2.1 (Nat.le_of_eq g5.symm)
  have Kp5 : Keep h0 h5 [cu] := Kp2.ext E5
  have Z5 : n0 ≤ h5.size := Nat.le_trans Z2 E5.1
  have V_x2_5 : Arv Z h5 x2 k5 .long (16 : Int32) [] (.long (0 : Int64)) := Arv.new A5 (by decide)
  have pre6 := fun τ (κ : Steps p.tables e below (T5.setTop (mkF m 7 #[.val (.ref cu), .val (.int (16 : Int32))] [(.ref x2), (.ref x1), (.ref cu)])) τ) => pre4 τ (st5 _ κ)
  have pre7 := fun τ (κ : Steps p.tables e below (T5.setTop (mkF m 8 #[.val (.ref cu), .val (.int (16 : Int32))] [(.int (16 : Int32)), (.ref x2), (.ref x1), (.ref cu)])) τ) => pre6 τ (by
    refine XS.iloadN X5.here hx rfl (hb hby d4_7) rfl ?_
    show Steps p.tables e below (T5.setTop (mkF m 8 #[.val (.ref cu), .val (.int (16 : Int32))] [(.int (16 : Int32)), (.ref x2), (.ref x1), (.ref cu)])) _
    exact κ)
  obtain ⟨T8, h8, k8, X8, e8, E8, A8, O8, st8⟩ := newR X5 hx hZ hown (hw _ (List.mem_of_getElem? (i := 29) rfl)) (hw _ (List.mem_of_getElem? (i := 30) rfl)) e5 (g := (mkF m 8 #[.val (.ref cu), .val (.int (16 : Int32))] [(.int (16 : Int32)), (.ref x2), (.ref x1), (.ref cu)])) rfl (hb hby d4_8) rfl (by decide) (cap := 16) (by decide) (by decide) (by decide) (by decide)
  obtain ⟨x3, g8⟩ : ∃ z, z = h5.size := ⟨_, rfl⟩
  rw [← g8] at A8 st8
  have g_x3 : n0 ≤ x3 := Nat.le_trans Z5 (Nat.le_of_eq g8.symm)
  have ne_cu_x3 : cu ≠ x3 := Nat.ne_of_lt (Nat.lt_of_lt_of_le E_c_5.lt (Nat.le_of_eq g8.symm))
  have E_c_8 : Exa Z h8 cu "com/example/earmark/earmark/ledger/HoldStates$Chunk" := E_c_5.ext E8
  have F_highs_8 : Fld Z h8 cu "com/example/earmark/earmark/ledger/HoldStates$Chunk" "highs" "[J" .null := F_highs_5.ext E8
  have F_lows_8 : Fld Z h8 cu "com/example/earmark/earmark/ledger/HoldStates$Chunk" "lows" "[J" .null := F_lows_5.ext E8
  have F_accountIds_8 : Fld Z h8 cu "com/example/earmark/earmark/ledger/HoldStates$Chunk" "accountIds" "[Ljava/lang/String;" .null := F_accountIds_5.ext E8
  have F_amounts_8 : Fld Z h8 cu "com/example/earmark/earmark/ledger/HoldStates$Chunk" "amounts" "[J" .null := F_amounts_5.ext E8
  have F_placedAt_8 : Fld Z h8 cu "com/example/earmark/earmark/ledger/HoldStates$Chunk" "placedAt" "[J" .null := F_placedAt_5.ext E8
  have F_expiresAt_8 : Fld Z h8 cu "com/example/earmark/earmark/ledger/HoldStates$Chunk" "expiresAt" "[J" .null := F_expiresAt_5.ext E8
  have F_states_8 : Fld Z h8 cu "com/example/earmark/earmark/ledger/HoldStates$Chunk" "states" "[Ljava/lang/Object;" .null := F_states_5.ext E8
  have sz_x3 : h0.size ≤ x3 := Nat.le_trans Kp5.1 (Nat.le_of_eq g8.symm)
  have Kp8 : Keep h0 h8 [cu] := Kp5.ext E8
  have Z8 : n0 ≤ h8.size := Nat.le_trans Z5 E8.1
  have V_x3_8 : Arv Z h8 x3 k8 (.object "java/lang/String") (16 : Int32) [] .null := (Arv.new A8 (by decide))
  have pre9 := fun τ (κ : Steps p.tables e below (T8.setTop (mkF m 11 #[.val (.ref cu), .val (.int (16 : Int32))] [(.ref x3), (.ref x2), (.ref x1), (.ref cu)])) τ) => pre7 τ (st8 _ κ)
  have pre10 := fun τ (κ : Steps p.tables e below (T8.setTop (mkF m 12 #[.val (.ref cu), .val (.int (16 : Int32))] [(.int (16 : Int32)), (.ref x3), (.ref x2), (.ref x1), (.ref cu)])) τ) => pre9 τ (by
    refine XS.iloadN X8.here hx rfl (hb hby d4_11) rfl ?_
    show Steps p.tables e below (T8.setTop (mkF m 12 #[.val (.ref cu), .val (.int (16 : Int32))] [(.int (16 : Int32)), (.ref x3), (.ref x2), (.ref x1), (.ref cu)])) _
    exact κ)
  obtain ⟨T11, h11, k11, X11, e11, E11, A11, st11⟩ := newP X8 hx hZ (hw _ (List.mem_of_getElem? (i := 28) rfl)) e8 (g := (mkF m 12 #[.val (.ref cu), .val (.int (16 : Int32))] [(.int (16 : Int32)), (.ref x3), (.ref x2), (.ref x1), (.ref cu)])) rfl (hb hby d4_12) rfl (by decide) (cap := 16) (by decide) (by decide) (by decide) (by decide)
  obtain ⟨x4, g11⟩ : ∃ z, z = h8.size := ⟨_, rfl⟩
  rw [← g11] at A11 st11
  have g_x4 : n0 ≤ x4 := Nat.le_trans Z8 (Nat.le_of_eq g11.symm)
  have ne_cu_x4 : cu ≠ x4 := Nat.ne_of_lt (Nat.lt_of_lt_of_le E_c_8.lt (Nat.le_of_eq g11.symm))
  have E_c_11 : Exa Z h11 cu "com/example/earmark/earmark/ledger/HoldStates$Chunk" := E_c_8.ext E11
  have F_highs_11 : Fld Z h11 cu "com/example/earmark/earmark/ledger/HoldStates$Chunk" "highs" "[J" .null := F_highs_8.ext E11
  have F_lows_11 : Fld Z h11 cu "com/example/earmark/earmark/ledger/HoldStates$Chunk" "lows" "[J" .null := F_lows_8.ext E11
  have F_accountIds_11 : Fld Z h11 cu "com/example/earmark/earmark/ledger/HoldStates$Chunk" "accountIds" "[Ljava/lang/String;" .null := F_accountIds_8.ext E11
  have F_amounts_11 : Fld Z h11 cu "com/example/earmark/earmark/ledger/HoldStates$Chunk" "amounts" "[J" .null := F_amounts_8.ext E11
  have F_placedAt_11 : Fld Z h11 cu "com/example/earmark/earmark/ledger/HoldStates$Chunk" "placedAt" "[J" .null := F_placedAt_8.ext E11
  have F_expiresAt_11 : Fld Z h11 cu "com/example/earmark/earmark/ledger/HoldStates$Chunk" "expiresAt" "[J" .null := F_expiresAt_8.ext E11
  have F_states_11 : Fld Z h11 cu "com/example/earmark/earmark/ledger/HoldStates$Chunk" "states" "[Ljava/lang/Object;" .null := F_states_8.ext E11
  have sz_x4 : h0.size ≤ x4 := Nat.le_trans Kp8.1 (Nat.le_of_eq g11.symm)
  have Kp11 : Keep h0 h11 [cu] := Kp8.ext E11
  have Z11 : n0 ≤ h11.size := Nat.le_trans Z8 E11.1
  have V_x4_11 : Arv Z h11 x4 k11 .long (16 : Int32) [] (.long (0 : Int64)) := Arv.new A11 (by decide)
  have pre12 := fun τ (κ : Steps p.tables e below (T11.setTop (mkF m 14 #[.val (.ref cu), .val (.int (16 : Int32))] [(.ref x4), (.ref x3), (.ref x2), (.ref x1), (.ref cu)])) τ) => pre10 τ (st11 _ κ)
  have pre13 := fun τ (κ : Steps p.tables e below (T11.setTop (mkF m 15 #[.val (.ref cu), .val (.int (16 : Int32))] [(.int (16 : Int32)), (.ref x4), (.ref x3), (.ref x2), (.ref x1), (.ref cu)])) τ) => pre12 τ (by
    refine XS.iloadN X11.here hx rfl (hb hby d4_14) rfl ?_
    show Steps p.tables e below (T11.setTop (mkF m 15 #[.val (.ref cu), .val (.int (16 : Int32))] [(.int (16 : Int32)), (.ref x4), (.ref x3), (.ref x2), (.ref x1), (.ref cu)])) _
    exact κ)
  obtain ⟨T14, h14, k14, X14, e14, E14, A14, st14⟩ := newP X11 hx hZ (hw _ (List.mem_of_getElem? (i := 28) rfl)) e11 (g := (mkF m 15 #[.val (.ref cu), .val (.int (16 : Int32))] [(.int (16 : Int32)), (.ref x4), (.ref x3), (.ref x2), (.ref x1), (.ref cu)])) rfl (hb hby d4_15) rfl (by decide) (cap := 16) (by decide) (by decide) (by decide) (by decide)
  obtain ⟨x5, g14⟩ : ∃ z, z = h11.size := ⟨_, rfl⟩
  rw [← g14] at A14 st14
  have g_x5 : n0 ≤ x5 := Nat.le_trans Z11 (Nat.le_of_eq g14.symm)
  have ne_cu_x5 : cu ≠ x5 := Nat.ne_of_lt (Nat.lt_of_lt_of_le E_c_11.lt (Nat.le_of_eq g14.symm))
  have E_c_14 : Exa Z h14 cu "com/example/earmark/earmark/ledger/HoldStates$Chunk" := E_c_11.ext E14
  have F_highs_14 : Fld Z h14 cu "com/example/earmark/earmark/ledger/HoldStates$Chunk" "highs" "[J" .null := F_highs_11.ext E14
  have F_lows_14 : Fld Z h14 cu "com/example/earmark/earmark/ledger/HoldStates$Chunk" "lows" "[J" .null := F_lows_11.ext E14
  have F_accountIds_14 : Fld Z h14 cu "com/example/earmark/earmark/ledger/HoldStates$Chunk" "accountIds" "[Ljava/lang/String;" .null := F_accountIds_11.ext E14
  have F_amounts_14 : Fld Z h14 cu "com/example/earmark/earmark/ledger/HoldStates$Chunk" "amounts" "[J" .null := F_amounts_11.ext E14
  have F_placedAt_14 : Fld Z h14 cu "com/example/earmark/earmark/ledger/HoldStates$Chunk" "placedAt" "[J" .null := F_placedAt_11.ext E14
  have F_expiresAt_14 : Fld Z h14 cu "com/example/earmark/earmark/ledger/HoldStates$Chunk" "expiresAt" "[J" .null := F_expiresAt_11.ext E14
  have F_states_14 : Fld Z h14 cu "com/example/earmark/earmark/ledger/HoldStates$Chunk" "states" "[Ljava/lang/Object;" .null := F_states_11.ext E14
  have sz_x5 : h0.size ≤ x5 := Nat.le_trans Kp11.1 (Nat.le_of_eq g14.symm)
  have Kp14 : Keep h0 h14 [cu] := Kp11.ext E14
  have Z14 : n0 ≤ h14.size := Nat.le_trans Z11 E14.1
  have V_x5_14 : Arv Z h14 x5 k14 .long (16 : Int32) [] (.long (0 : Int64)) := Arv.new A14 (by decide)
  have pre15 := fun τ (κ : Steps p.tables e below (T14.setTop (mkF m 17 #[.val (.ref cu), .val (.int (16 : Int32))] [(.ref x5), (.ref x4), (.ref x3), (.ref x2), (.ref x1), (.ref cu)])) τ) => pre13 τ (st14 _ κ)
  have pre16 := fun τ (κ : Steps p.tables e below (T14.setTop (mkF m 18 #[.val (.ref cu), .val (.int (16 : Int32))] [(.int (16 : Int32)), (.ref x5), (.ref x4), (.ref x3), (.ref x2), (.ref x1), (.ref cu)])) τ) => pre15 τ (by
    refine XS.iloadN X14.here hx rfl (hb hby d4_17) rfl ?_
    show Steps p.tables e below (T14.setTop (mkF m 18 #[.val (.ref cu), .val (.int (16 : Int32))] [(.int (16 : Int32)), (.ref x5), (.ref x4), (.ref x3), (.ref x2), (.ref x1), (.ref cu)])) _
    exact κ)
  obtain ⟨T17, h17, k17, X17, e17, E17, A17, st17⟩ := newP X14 hx hZ (hw _ (List.mem_of_getElem? (i := 28) rfl)) e14 (g := (mkF m 18 #[.val (.ref cu), .val (.int (16 : Int32))] [(.int (16 : Int32)), (.ref x5), (.ref x4), (.ref x3), (.ref x2), (.ref x1), (.ref cu)])) rfl (hb hby d4_18) rfl (by decide) (cap := 16) (by decide) (by decide) (by decide) (by decide)
  obtain ⟨x6, g17⟩ : ∃ z, z = h14.size := ⟨_, rfl⟩
  rw [← g17] at A17 st17
  have g_x6 : n0 ≤ x6 := Nat.le_trans Z14 (Nat.le_of_eq g17.symm)
  have ne_cu_x6 : cu ≠ x6 := Nat.ne_of_lt (Nat.lt_of_lt_of_le E_c_14.lt (Nat.le_of_eq g17.symm))
  have E_c_17 : Exa Z h17 cu "com/example/earmark/earmark/ledger/HoldStates$Chunk" := E_c_14.ext E17
  have F_highs_17 : Fld Z h17 cu "com/example/earmark/earmark/ledger/HoldStates$Chunk" "highs" "[J" .null := F_highs_14.ext E17
  have F_lows_17 : Fld Z h17 cu "com/example/earmark/earmark/ledger/HoldStates$Chunk" "lows" "[J" .null := F_lows_14.ext E17
  have F_accountIds_17 : Fld Z h17 cu "com/example/earmark/earmark/ledger/HoldStates$Chunk" "accountIds" "[Ljava/lang/String;" .null := F_accountIds_14.ext E17
  have F_amounts_17 : Fld Z h17 cu "com/example/earmark/earmark/ledger/HoldStates$Chunk" "amounts" "[J" .null := F_amounts_14.ext E17
  have F_placedAt_17 : Fld Z h17 cu "com/example/earmark/earmark/ledger/HoldStates$Chunk" "placedAt" "[J" .null := F_placedAt_14.ext E17
  have F_expiresAt_17 : Fld Z h17 cu "com/example/earmark/earmark/ledger/HoldStates$Chunk" "expiresAt" "[J" .null := F_expiresAt_14.ext E17
  have F_states_17 : Fld Z h17 cu "com/example/earmark/earmark/ledger/HoldStates$Chunk" "states" "[Ljava/lang/Object;" .null := F_states_14.ext E17
  have sz_x6 : h0.size ≤ x6 := Nat.le_trans Kp14.1 (Nat.le_of_eq g17.symm)
  have Kp17 : Keep h0 h17 [cu] := Kp14.ext E17
  have Z17 : n0 ≤ h17.size := Nat.le_trans Z14 E17.1
  have V_x6_17 : Arv Z h17 x6 k17 .long (16 : Int32) [] (.long (0 : Int64)) := Arv.new A17 (by decide)
  have pre18 := fun τ (κ : Steps p.tables e below (T17.setTop (mkF m 20 #[.val (.ref cu), .val (.int (16 : Int32))] [(.ref x6), (.ref x5), (.ref x4), (.ref x3), (.ref x2), (.ref x1), (.ref cu)])) τ) => pre16 τ (st17 _ κ)
  have pre19 := fun τ (κ : Steps p.tables e below (T17.setTop (mkF m 21 #[.val (.ref cu), .val (.int (16 : Int32))] [(.int (16 : Int32)), (.ref x6), (.ref x5), (.ref x4), (.ref x3), (.ref x2), (.ref x1), (.ref cu)])) τ) => pre18 τ (by
    refine XS.iloadN X17.here hx rfl (hb hby d4_20) rfl ?_
    show Steps p.tables e below (T17.setTop (mkF m 21 #[.val (.ref cu), .val (.int (16 : Int32))] [(.int (16 : Int32)), (.ref x6), (.ref x5), (.ref x4), (.ref x3), (.ref x2), (.ref x1), (.ref cu)])) _
    exact κ)
  obtain ⟨T20, h20, k20, X20, e20, E20, A20, O20, st20⟩ := newR X17 hx hZ hown (hw _ (List.mem_of_getElem? (i := 31) rfl)) (hw _ (List.mem_of_getElem? (i := 32) rfl)) e17 (g := (mkF m 21 #[.val (.ref cu), .val (.int (16 : Int32))] [(.int (16 : Int32)), (.ref x6), (.ref x5), (.ref x4), (.ref x3), (.ref x2), (.ref x1), (.ref cu)])) rfl (hb hby d4_21) rfl (by decide) (cap := 16) (by decide) (by decide) (by decide) (by decide)
  obtain ⟨x7, g20⟩ : ∃ z, z = h17.size := ⟨_, rfl⟩
  rw [← g20] at A20 st20
  have g_x7 : n0 ≤ x7 := Nat.le_trans Z17 (Nat.le_of_eq g20.symm)
  have ne_cu_x7 : cu ≠ x7 := Nat.ne_of_lt (Nat.lt_of_lt_of_le E_c_17.lt (Nat.le_of_eq g20.symm))
  have E_c_20 : Exa Z h20 cu "com/example/earmark/earmark/ledger/HoldStates$Chunk" := E_c_17.ext E20
  have F_highs_20 : Fld Z h20 cu "com/example/earmark/earmark/ledger/HoldStates$Chunk" "highs" "[J" .null := F_highs_17.ext E20
  have F_lows_20 : Fld Z h20 cu "com/example/earmark/earmark/ledger/HoldStates$Chunk" "lows" "[J" .null := F_lows_17.ext E20
  have F_accountIds_20 : Fld Z h20 cu "com/example/earmark/earmark/ledger/HoldStates$Chunk" "accountIds" "[Ljava/lang/String;" .null := F_accountIds_17.ext E20
  have F_amounts_20 : Fld Z h20 cu "com/example/earmark/earmark/ledger/HoldStates$Chunk" "amounts" "[J" .null := F_amounts_17.ext E20
  have F_placedAt_20 : Fld Z h20 cu "com/example/earmark/earmark/ledger/HoldStates$Chunk" "placedAt" "[J" .null := F_placedAt_17.ext E20
  have F_expiresAt_20 : Fld Z h20 cu "com/example/earmark/earmark/ledger/HoldStates$Chunk" "expiresAt" "[J" .null := F_expiresAt_17.ext E20
  have F_states_20 : Fld Z h20 cu "com/example/earmark/earmark/ledger/HoldStates$Chunk" "states" "[Ljava/lang/Object;" .null := F_states_17.ext E20
  have sz_x7 : h0.size ≤ x7 := Nat.le_trans Kp17.1 (Nat.le_of_eq g20.symm)
  have Kp20 : Keep h0 h20 [cu] := Kp17.ext E20
  have Z20 : n0 ≤ h20.size := Nat.le_trans Z17 E20.1
  have V_x7_20 : Arv Z h20 x7 k20 (.object "java/lang/Object") (16 : Int32) [] .null := (Arv.new A20 (by decide))
  have pre21 := fun τ (κ : Steps p.tables e below (T20.setTop (mkF m 24 #[.val (.ref cu), .val (.int (16 : Int32))] [(.ref x7), (.ref x6), (.ref x5), (.ref x4), (.ref x3), (.ref x2), (.ref x1), (.ref cu)])) τ) => pre19 τ (st20 _ κ)
  obtain ⟨_, _, ⟨T22, L22, k22, n22⟩, -, X22, ⟨Lc22, hQ22, l22, y22, z22⟩, st22⟩ := X20.specialBack hx (y := (⟨"com/example/earmark/earmark/ledger/HoldStates$Chunk", "<init>", "([J[J[Ljava/lang/String;[J[J[J[Ljava/lang/Object;)V"⟩ : MethodName)) rfl hown (mvT hZ (hw _ (List.mem_of_getElem? (i := 33) rfl))) (mvT hZ (hw _ (List.mem_of_getElem? (i := 34) rfl))) (mvT hZ (hw _ (List.mem_of_getElem? (i := 35) rfl))) (by decide) (backOf (W := 0) (rm5 l Z a0 hw [] cu x1 x2 x3 x4 x5 x6 x7 h20 n0 Z20 E_c_20 g_cu F_highs_20 F_lows_20 F_accountIds_20 F_amounts_20 F_placedAt_20 F_expiresAt_20 F_states_20) hZ (hw _ (List.mem_of_getElem? (i := 35) rfl)) (hw _ (List.mem_of_getElem? (i := 24) rfl)) (Nat.le_of_ble_eq_true rfl) (Nat.le_of_ble_eq_true rfl)) (g := (mkF m 24 #[.val (.ref cu), .val (.int (16 : Int32))] [(.ref x7), (.ref x6), (.ref x5), (.ref x4), (.ref x3), (.ref x2), (.ref x1), (.ref cu)])) rfl (by rw [hml]; rfl) (Steps.refl _) (a := cu) (argsL := [(.ref x1), (.ref x2), (.ref x3), (.ref x4), (.ref x5), (.ref x6), (.ref x7)]) (rest := []) (lenOf pd_0 rfl) rfl (by show 2 * 0 + _ ≤ _; exact Nat.le_of_eq rfl) (hb hby d4_24) (fun _ _ => ⟨rfl, e20, (by decide : 7 + 0 ≤ _), (by decide : 112 + 0 ≤ _)⟩)
  dsimp only [Pt.U, Pt.locs, Pt.cells, Pt.slots] at X22 l22 y22 z22 st22 hQ22
  subst l22 y22 z22
  obtain ⟨rfl, Nq22, K22⟩ := hQ22
  have E_c_22 : Exa Z T22.heap cu "com/example/earmark/earmark/ledger/HoldStates$Chunk" := E_c_20.keep K22
  have Z22 : n0 ≤ T22.heap.size := Nat.le_trans Z20 K22.1
  have Kp22 : Keep h0 T22.heap [cu] := Kp20.trans K22 (allS (Or.inl (List.mem_of_getElem? (i := 0) rfl)) all0)
  have N22 := Fr.app N0 Nq22
  have pre23 := fun τ (κ : Steps p.tables e below (T22.setTop (mkF m 27 #[.val (.ref cu), .val (.int (16 : Int32))] [])) τ) => pre21 τ (st22.trans κ)
  obtain ⟨fs, hr, hrun, hended, hW, hsame⟩ := X22.leave (v := none) (fun _ => rfl)
  refine ⟨_, _, pre23 _ ?_, hrun, hended, _, _, rfl, ?_, ⟨_, rfl⟩, hW, hsame.mono (by decide) (by decide)⟩
  · exact X22.returnOut hx Bd.returns (hb hby d4_27) hr
  · show Q4 Z cu h0 n0 _ T22.heap _
    exact ⟨rfl, N22, Kp22⟩
set_option maxRecDepth 65536 in
set_option maxHeartbeats 40000000 in
theorem loopF {p : Program} {l : Launch} {e : Env} {R : Room} {s : State} {m : MethodId} {args : Array Value} {below : List Frame} {meth : Method} {c : Code} {Z : State} {a0 : Array Value} (hx : p.tables.exec = Jvm.exec) (hZ : Z.Warmed39 s.vm) (hw : ∀ d ∈ tables_1, d.before a0 Z = true) (hby : c.code = jdk_65_method_117_code) (hml : c.maxLocals = 4) (hown : s.vm.findClass "java/util/Arrays" = some m.cls) {n0 cells slots : Nat} (pa nn : Addr) (ty : FieldType) (n : Nat) (hty : ty.isReference = true) (hn : n ≤ 256) (gp : n0 ≤ pa) :
    ∀ (fu i : Nat) (T0 : State) (h0 : Heap) (locs : List Loc), n ≤ i + fu → i ≤ n → Stand p l e R s m args below meth c T0 locs cells slots → T0.heap = h0 → Fr n0 locs → n0 ≤ h0.size → own_AR Z h0 pa ty n → Sto Z h0 pa (.ref nn) →
      ∃ (T' : State) (h' : Heap) (locs' : List Loc), Stand p l e R s m args below meth c T' locs' cells slots ∧ T'.heap = h' ∧ Fr n0 locs' ∧ Keep h0 h' [pa] ∧ ∃ z1 : Int32, ∀ t, Steps p.tables e below (T'.setTop (mkF m 20 #[.val (.ref pa), .val (.ref nn), .val (.int z1), .val (.int (Int32.ofNat n))] [])) t → Steps p.tables e below (T0.setTop (mkF m 5 #[.val (.ref pa), .val (.ref nn), .val (.int (Int32.ofNat i)), .val (.int (Int32.ofNat n))] [])) t := by
  intro fu
  induction fu with
  | zero =>
    intro i T0 h0 locs hfu hin X0 e0 N0 Z0 AR ST
    have hgt : ¬ i < n := by omega
    have pre0 := fun τ (κ : Steps p.tables e below (T0.setTop (mkF m 5 #[.val (.ref pa), .val (.ref nn), .val (.int (Int32.ofNat i)), .val (.int (Int32.ofNat n))] [])) τ) => κ
    have Kp0 : Keep h0 h0 [pa] := Keep.refl _ _
    have pre1 := fun τ (κ : Steps p.tables e below (T0.setTop (mkF m 20 #[.val (.ref pa), .val (.ref nn), .val (.int (Int32.ofNat i)), .val (.int (Int32.ofNat n))] [])) τ) => pre0 τ (by
      refine XS.iloadN X0.here hx rfl (hb hby d7_5) rfl ?_
      refine XS.iloadN X0.here hx rfl (hb hby d7_6) rfl ?_
      refine XS.icmpYes X0.here hx rfl (pc0 := 7) (pc' := 20) rfl (hb hby d7_7) rfl (flt (fun q => hgt ((own_ltN (by omega) (by omega)).mp q))).2.1 (by decide) (by decide) ?_
      show Steps p.tables e below (T0.setTop (mkF m 20 #[.val (.ref pa), .val (.ref nn), .val (.int (Int32.ofNat i)), .val (.int (Int32.ofNat n))] [])) _
      exact κ)
    exact ⟨T0, h0, locs, X0, e0, N0, Kp0, _, pre1⟩
  | succ fu ih =>
    intro i T0 h0 locs hfu hin X0 e0 N0 Z0 AR ST
    by_cases hgt : i < n
    · skip
      have pre0 := fun τ (κ : Steps p.tables e below (T0.setTop (mkF m 5 #[.val (.ref pa), .val (.ref nn), .val (.int (Int32.ofNat i)), .val (.int (Int32.ofNat n))] [])) τ) => κ
      have Kp0 : Keep h0 h0 [pa] := Keep.refl _ _
      have pre1 := fun τ (κ : Steps p.tables e below (T0.setTop (mkF m 13 #[.val (.ref pa), .val (.ref nn), .val (.int (Int32.ofNat i)), .val (.int (Int32.ofNat n))] [(.ref nn), (.int (Int32.ofNat i)), (.ref pa)])) τ) => pre0 τ (by
        refine XS.iloadN X0.here hx rfl (hb hby d7_5) rfl ?_
        refine XS.iloadN X0.here hx rfl (hb hby d7_6) rfl ?_
        refine XS.icmpNo X0.here hx rfl (hb hby d7_7) rfl (tlt ((own_ltN (by omega) (by omega)).mpr hgt)).2.1 ?_
        show Steps p.tables e below (T0.setTop (mkF m 10 #[.val (.ref pa), .val (.ref nn), .val (.int (Int32.ofNat i)), .val (.int (Int32.ofNat n))] [])) _
        refine XS.aloadN X0.here hx rfl (hb hby d7_10) rfl rfl ?_
        refine XS.iloadN X0.here hx rfl (hb hby d7_11) rfl ?_
        refine XS.aloadN X0.here hx rfl (hb hby d7_12) rfl rfl ?_
        show Steps p.tables e below (T0.setTop (mkF m 13 #[.val (.ref pa), .val (.ref nn), .val (.int (Int32.ofNat i)), .val (.int (Int32.ofNat n))] [(.ref nn), (.int (Int32.ofNat i)), (.ref pa)])) _
        exact κ)
      obtain ⟨cl, Ac, sz⟩ := AR
      have inb : ¬ (Int32.ofNat i < 0 ∨ cl.slots.size ≤ (Int32.ofNat i).toNatClampNeg) := by
        rw [own_clamp (by omega)]
        rintro (z | z)
        · exact own_nn (by omega) z
        · omega
      obtain ⟨T2, h2, X2, e2, W2, st2⟩ := stR X0 hx hZ e0 Ac (j := (Int32.ofNat i)) inb hty ST (g := (mkF m 13 #[.val (.ref pa), .val (.ref nn), .val (.int (Int32.ofNat i)), .val (.int (Int32.ofNat n))] [(.ref nn), (.int (Int32.ofNat i)), (.ref pa)])) rfl rfl (hb hby d7_13)
      have Kp2 : Keep h0 h2 [pa] := Kp0.wr W2 (Or.inl (List.mem_of_getElem? (i := 0) rfl))
      have N2 := Fr.snoc X2 N0 gp
      have Z2 : n0 ≤ h2.size := Nat.le_trans Z0 (Keep.of_wr W2).1
      have pre3 := fun τ (κ : Steps p.tables e below (T2.setTop (mkF m 14 #[.val (.ref pa), .val (.ref nn), .val (.int (Int32.ofNat i)), .val (.int (Int32.ofNat n))] [])) τ) => pre1 τ (st2 _ κ)
      have AR1 : own_AR Z h2 pa ty n := ⟨_, Ac.same W2, by simpa [Cell.setSlot] using sz⟩
      have ST1 := ST.wr W2
      have pre4 := fun τ (κ : Steps p.tables e below (T2.setTop (mkF m 5 #[.val (.ref pa), .val (.ref nn), .val (.int ((Int32.ofNat i) + (1 : Int32))), .val (.int (Int32.ofNat n))] [])) τ) => pre3 τ (by
        refine XS.iinc X2.here hx rfl (hb hby d7_14) rfl (l' := #[.val (.ref pa), .val (.ref nn), .val (.int ((Int32.ofNat i) + (1 : Int32))), .val (.int (Int32.ofNat n))]) rfl ?_
        show Steps p.tables e below (T2.setTop (mkF m 17 #[.val (.ref pa), .val (.ref nn), .val (.int ((Int32.ofNat i) + (1 : Int32))), .val (.int (Int32.ofNat n))] [])) _
        refine XS.goto X2.here hx rfl (pc0 := 17) (pc' := 5) rfl (hb hby d7_17) (by decide) (by decide) ?_
        show Steps p.tables e below (T2.setTop (mkF m 5 #[.val (.ref pa), .val (.ref nn), .val (.int ((Int32.ofNat i) + (1 : Int32))), .val (.int (Int32.ofNat n))] [])) _
        exact κ)
      rw [show ((Int32.ofNat i) + (1 : Int32)) = (Int32.ofNat (i + 1)) from (own_addN _ 1)] at pre4
      obtain ⟨T', h', lo', X', e', N', K', z1, st⟩ := ih (i + 1) _ _ _ (by omega) (by omega) X2 e2 N2 Z2 AR1 ST1
      exact ⟨T', h', lo', X', e', N', Kp2.trans K' (allS (Or.inl (List.mem_of_getElem? (i := 0) rfl)) all0), z1, fun τ κ => pre4 τ (st τ κ)⟩
    · skip
      have pre0 := fun τ (κ : Steps p.tables e below (T0.setTop (mkF m 5 #[.val (.ref pa), .val (.ref nn), .val (.int (Int32.ofNat i)), .val (.int (Int32.ofNat n))] [])) τ) => κ
      have Kp0 : Keep h0 h0 [pa] := Keep.refl _ _
      have pre1 := fun τ (κ : Steps p.tables e below (T0.setTop (mkF m 20 #[.val (.ref pa), .val (.ref nn), .val (.int (Int32.ofNat i)), .val (.int (Int32.ofNat n))] [])) τ) => pre0 τ (by
        refine XS.iloadN X0.here hx rfl (hb hby d7_5) rfl ?_
        refine XS.iloadN X0.here hx rfl (hb hby d7_6) rfl ?_
        refine XS.icmpYes X0.here hx rfl (pc0 := 7) (pc' := 20) rfl (hb hby d7_7) rfl (flt (fun q => hgt ((own_ltN (by omega) (by omega)).mp q))).2.1 (by decide) (by decide) ?_
        show Steps p.tables e below (T0.setTop (mkF m 20 #[.val (.ref pa), .val (.ref nn), .val (.int (Int32.ofNat i)), .val (.int (Int32.ofNat n))] [])) _
        exact κ)
      exact ⟨T0, h0, locs, X0, e0, N0, Kp0, _, pre1⟩

theorem ef_7 (m : MethodId) (pa : Addr) (nn : Addr) (n : Nat) : entryFrame m #[(.ref pa), (.ref nn)] 4 = mkF m 0 #[.val (.ref pa), .val (.ref nn), .unset, .unset] [] := by first | (simp [entryFrame, mkF, argsToLocals, Value.category]; done) | rfl
def Q7 (Z : State) (pa : Addr) (nn : Addr) (kp : ClassId) (ty : FieldType) (n : Nat) (vs : List Value) (h0 : Heap) (n0 : Nat) (v : Option Value) (h : Heap) (L : List Loc) : Prop := v = none ∧ Fr n0 L ∧ Keep h0 h [pa]
set_option maxRecDepth 65536 in
set_option maxHeartbeats 40000000 in
theorem rm7 (l : Launch) (Z : State) (a0 : Array Value) (hw : ∀ d ∈ tables_1, d.before a0 Z = true) (ws : List Jvm.Cond) (pa : Addr) (nn : Addr) (kp : ClassId) (ty : FieldType) (n : Nat) (vs : List Value) (h0 : Heap) (n0 : Nat) (Z0 : n0 ≤ h0.size) (Va : Arv Z h0 pa kp ty (Int32.ofNat n) vs .null) (ST : Sto Z h0 pa (.ref nn)) (hty : ty.isReference = true) (hn : n ≤ 256) (gp : n0 ≤ pa) :
    MetFree l (⟨"java/util/Arrays", "fill", "([Ljava/lang/Object;Ljava/lang/Object;)V"⟩ : MethodName) (head1 (Jvm.Cond.code (⟨"java/util/Arrays", "fill", "([Ljava/lang/Object;Ljava/lang/Object;)V"⟩ : MethodName) jdk_65_method_117_code 4 none :: ws) ({ frames := 0, cells := 0, slots := 0, locals := 0 } : Room)) (fun α υ => α = #[(.ref pa), (.ref nn)] ∧ Z.Warmed39 υ.vm ∧ υ.heap = h0) (fun _ _ _ _ _ => True) (fun _ υ ω υ' => ∃ v L, ω = .returned v ∧ Q7 Z pa nn kp ty n vs h0 n0 v υ'.heap L ∧ FrameEnd υ ω υ' L ({ frames := 0, cells := 0, slots := 0, locals := 0 } : Room).cells ({ frames := 0, cells := 0, slots := 0, locals := 0 } : Room).slots) := by
  refine MetFree.of_bodySF (plainFor_of_name pn_java_util_Arrays) hisR ?_
  intro p e s m args below meth c s₁ Bd hml0 hP hK
  obtain ⟨rfl, hZ, hh⟩ := hP
  have hx := Bd.exec
  have hby := Bd.bytes
  have hml : c.maxLocals = 4 := hml0
  have hown : s.vm.findClass "java/util/Arrays" = some m.cls := findClass_of_methodNamed Bd.named
  have hnm := (name_of_methodNamed Bd.named Bd.method).1
  have X0 : Stand p l e ({ frames := 0, cells := 0, slots := 0, locals := 0 } : Room) s m #[(.ref pa), (.ref nn)] below meth c s₁ [] 0 0 := Stand.of_body Bd
  have e0 : s₁.heap = h0 := by rw [← hh, Bd.state]; rfl
  have N0 := Fr.nil n0
  have pre0 : ∀ τ, Steps p.tables e below (s₁.setTop (mkF m 0 #[.val (.ref pa), .val (.ref nn), .unset, .unset] [])) τ → Steps p.tables e below (s₁.setTop (entryFrame m #[(.ref pa), (.ref nn)] 4)) τ := fun τ κ => castTop (ef_7 m pa nn n) κ
  have pre1 := fun τ (κ : Steps p.tables e below (s₁.setTop (mkF m 3 #[.val (.ref pa), .val (.ref nn), .val (.int (0 : Int32)), .unset] [(.ref pa)])) τ) => pre0 τ (by
    refine XS.iconst X0.here hx rfl (hb hby d7_0) ?_
    refine XS.istoreN X0.here hx rfl (hb hby d7_1) rfl (l' := #[.val (.ref pa), .val (.ref nn), .val (.int (0 : Int32)), .unset]) rfl ?_
    show Steps p.tables e below (s₁.setTop (mkF m 2 #[.val (.ref pa), .val (.ref nn), .val (.int (0 : Int32)), .unset] [])) _
    refine XS.aloadN X0.here hx rfl (hb hby d7_2) rfl rfl ?_
    show Steps p.tables e below (s₁.setTop (mkF m 3 #[.val (.ref pa), .val (.ref nn), .val (.int (0 : Int32)), .unset] [(.ref pa)])) _
    exact κ)
  obtain ⟨cl2, Ar2, -, S2, M2, -, -⟩ := id Va
  have pre3 := fun τ (κ : Steps p.tables e below (s₁.setTop (mkF m 5 #[.val (.ref pa), .val (.ref nn), .val (.int (0 : Int32)), .val (.int (Int32.ofNat n))] [])) τ) => pre1 τ (by
    refine X0.arraylength hx (by rw [e0]; exact Ar2.1) (State.isArrayOf_alike hZ.alike Ar2.2.1) (g := (mkF m 3 #[.val (.ref pa), .val (.ref nn), .val (.int (0 : Int32)), .unset] [(.ref pa)])) rfl rfl (hb hby d7_3) _ ?_
    rw [len_of S2 M2]
    show Steps p.tables e below (s₁.setTop (mkF m 4 #[.val (.ref pa), .val (.ref nn), .val (.int (0 : Int32)), .unset] [(.int (Int32.ofNat n))])) _
    refine XS.istoreN X0.here hx rfl (hb hby d7_4) rfl (l' := #[.val (.ref pa), .val (.ref nn), .val (.int (0 : Int32)), .val (.int (Int32.ofNat n))]) rfl ?_
    show Steps p.tables e below (s₁.setTop (mkF m 5 #[.val (.ref pa), .val (.ref nn), .val (.int (0 : Int32)), .val (.int (Int32.ofNat n))] [])) _
    exact κ)
  have AR : own_AR Z h0 pa ty n := by
    obtain ⟨cl, Ac, -, S, -, -, -⟩ := Va
    exact ⟨cl, Ac, by rw [S, own_clamp (by omega)]⟩
  obtain ⟨T9, h9, lo9, X9, e9, N9, K9, z1, st9⟩ := loopF hx hZ hw hby hml hown pa nn ty n hty hn gp n 0 _ _ _ (by omega) (by omega) X0 e0 N0 Z0 AR ST
  have pre99 := fun τ (κ : Steps p.tables e below (T9.setTop (mkF m 20 #[.val (.ref pa), .val (.ref nn), .val (.int z1), .val (.int (Int32.ofNat n))] [])) τ) => pre3 τ (st9 τ κ)
  obtain ⟨fs, hr, hrun, hended, hW, hsame⟩ := X9.leave (v := none) (fun _ => rfl)
  refine ⟨_, _, pre99 _ ?_, hrun, hended, _, _, rfl, ?_, ⟨_, rfl⟩, hW, hsame.mono (by decide) (by decide)⟩
  · exact X9.returnOut hx Bd.returns (hb hby d7_20) hr
  · show Q7 Z pa nn kp ty n vs h0 n0 _ T9.heap _
    rw [e9]
    exact ⟨rfl, N9, K9⟩
theorem ef_6 (m : MethodId) (ri : Addr) (lm : Addr) (nn : Addr) : entryFrame m #[(.ref ri), (.int (8 : Int32)), (.ref lm)] 3 = mkF m 0 #[.val (.ref ri), .val (.int (8 : Int32)), .val (.ref lm)] [] := by first | (simp [entryFrame, mkF, argsToLocals, Value.category]; done) | rfl
def Q6 (Z : State) (ri : Addr) (lm : Addr) (nn : Addr) (h0 : Heap) (n0 : Nat) (v : Option Value) (h : Heap) (L : List Loc) : Prop := v = none ∧ Fr n0 L ∧ Keep h0 h [ri]
set_option maxRecDepth 65536 in
set_option maxHeartbeats 40000000 in
theorem rm6 (l : Launch) (Z : State) (a0 : Array Value) (hw : ∀ d ∈ tables_1, d.before a0 Z = true) (ws : List Jvm.Cond) (ri : Addr) (lm : Addr) (nn : Addr) (h0 : Heap) (n0 : Nat) (Z0 : n0 ≤ h0.size) (O0 : Old Z n0 h0) (E_r : Exa Z h0 ri "com/example/earmark/earmark/ledger/RowIndex") (g_ri : n0 ≤ ri) (Sn : Sta Z Z.heap "com/example/earmark/earmark/ledger/RowIndex" "NONE" "[I" (.ref nn)) (En : Exa Z Z.heap nn "[I") (F_partBits : Fld Z h0 ri "com/example/earmark/earmark/ledger/RowIndex" "partBits" "I" (.int (0 : Int32))) (F_hashes : Fld Z h0 ri "com/example/earmark/earmark/ledger/RowIndex" "hashes" "Lcom/example/earmark/earmark/ledger/RowIndex$Hashes;" .null) (F_parts : Fld Z h0 ri "com/example/earmark/earmark/ledger/RowIndex" "parts" "[[I" .null) (F_sizes : Fld Z h0 ri "com/example/earmark/earmark/ledger/RowIndex" "sizes" "[I" .null) :
    MetFree l (⟨"com/example/earmark/earmark/ledger/RowIndex", "<init>", "(ILcom/example/earmark/earmark/ledger/RowIndex$Hashes;)V"⟩ : MethodName) (head1 (Jvm.Cond.code (⟨"com/example/earmark/earmark/ledger/RowIndex", "<init>", "(ILcom/example/earmark/earmark/ledger/RowIndex$Hashes;)V"⟩ : MethodName) prog_113_method_1_code 3 none :: ws) ({ frames := 1, cells := 2, slots := 512, locals := 15 } : Room)) (fun α υ => α = #[(.ref ri), (.int (8 : Int32)), (.ref lm)] ∧ Z.Warmed39 υ.vm ∧ υ.heap = h0) (fun _ _ _ _ _ => True) (fun _ υ ω υ' => ∃ v L, ω = .returned v ∧ Q6 Z ri lm nn h0 n0 v υ'.heap L ∧ FrameEnd υ ω υ' L ({ frames := 1, cells := 2, slots := 512, locals := 15 } : Room).cells ({ frames := 1, cells := 2, slots := 512, locals := 15 } : Room).slots) := by
  refine MetFree.of_bodySF (plainFor_of_name pn_com_example_earmark_earmark_ledger_RowIndex) hisR ?_
  intro p e s m args below meth c s₁ Bd hml0 hP hK
  obtain ⟨rfl, hZ, hh⟩ := hP
  have hx := Bd.exec
  have hby := Bd.bytes
  have hml : c.maxLocals = 3 := hml0
  have hown : s.vm.findClass "com/example/earmark/earmark/ledger/RowIndex" = some m.cls := findClass_of_methodNamed Bd.named
  have hnm := (name_of_methodNamed Bd.named Bd.method).1
  have X0 : Stand p l e ({ frames := 1, cells := 2, slots := 512, locals := 15 } : Room) s m #[(.ref ri), (.int (8 : Int32)), (.ref lm)] below meth c s₁ [] 0 0 := Stand.of_body Bd
  have e0 : s₁.heap = h0 := by rw [← hh, Bd.state]; rfl
  have N0 := Fr.nil n0
  have pre0 : ∀ τ, Steps p.tables e below (s₁.setTop (mkF m 0 #[.val (.ref ri), .val (.int (8 : Int32)), .val (.ref lm)] [])) τ → Steps p.tables e below (s₁.setTop (entryFrame m #[(.ref ri), (.int (8 : Int32)), (.ref lm)] 3)) τ := fun τ κ => castTop (ef_6 m ri lm nn) κ
  have Kp0 : Keep h0 h0 [ri] := Keep.refl _ _
  have pre1 := fun τ (κ : Steps p.tables e below (s₁.setTop (mkF m 1 #[.val (.ref ri), .val (.int (8 : Int32)), .val (.ref lm)] [(.ref ri)])) τ) => pre0 τ (by
    refine XS.aloadN X0.here hx rfl (hb hby d6_0) rfl rfl ?_
    show Steps p.tables e below (s₁.setTop (mkF m 1 #[.val (.ref ri), .val (.int (8 : Int32)), .val (.ref lm)] [(.ref ri)])) _
    exact κ)
  obtain ⟨T2, X2, e2, st2⟩ := initO X0 hx hZ hown (hw _ (List.mem_of_getElem? (i := 64) rfl)) (hw _ (List.mem_of_getElem? (i := 19) rfl)) (hw _ (List.mem_of_getElem? (i := 20) rfl)) e0 (g := (mkF m 1 #[.val (.ref ri), .val (.int (8 : Int32)), .val (.ref lm)] [(.ref ri)])) rfl (by rw [hml]; rfl) rfl (hb hby d6_1) (by decide) (W := 0) (by show 2 * 0 + _ ≤ _; exact Nat.le_of_eq rfl) (by decide)
  have pre3 := fun τ (κ : Steps p.tables e below (T2.setTop (mkF m 4 #[.val (.ref ri), .val (.int (8 : Int32)), .val (.ref lm)] [])) τ) => pre1 τ (st2 _ κ)
  have pre4 := fun τ (κ : Steps p.tables e below (T2.setTop (mkF m 6 #[.val (.ref ri), .val (.int (8 : Int32)), .val (.ref lm)] [(.int (8 : Int32)), (.ref ri)])) τ) => pre3 τ (by
    refine XS.aloadN X2.here hx rfl (hb hby d6_4) rfl rfl ?_
    refine XS.iloadN X2.here hx rfl (hb hby d6_5) rfl ?_
    show Steps p.tables e below (T2.setTop (mkF m 6 #[.val (.ref ri), .val (.int (8 : Int32)), .val (.ref lm)] [(.int (8 : Int32)), (.ref ri)])) _
    exact κ)
  obtain ⟨T5, h5, X5, e5, W5, st5⟩ := putF X2 hx hZ hown (host := "") (Or.inl (hw _ (List.mem_of_getElem? (i := 65) rfl))) Via.refl e2 F_partBits E_r (Or.inr ⟨(hw _ (List.mem_of_getElem? (i := 66) rfl)), rfl, hnm⟩) (hw _ (List.mem_of_getElem? (i := 55) rfl)) (ty := .int) (by decide) rfl rfl (g := (mkF m 6 #[.val (.ref ri), .val (.int (8 : Int32)), .val (.ref lm)] [(.int (8 : Int32)), (.ref ri)])) rfl rfl (hb hby d6_6)
  have O0_5 : Old Z n0 h5 := O0.wr W5 g_ri
  have E_r_5 : Exa Z h5 ri "com/example/earmark/earmark/ledger/RowIndex" := E_r.wr W5
  have F_hashes_5 : Fld Z h5 ri "com/example/earmark/earmark/ledger/RowIndex" "hashes" "Lcom/example/earmark/earmark/ledger/RowIndex$Hashes;" .null := F_hashes.other W5 (Or.inr (slot_ne (Or.inr (hw _ (List.mem_of_getElem? (i := 68) rfl))) (Or.inr (hw _ (List.mem_of_getElem? (i := 66) rfl))) (by decide) (t := (.object "com/example/earmark/earmark/ledger/RowIndex$Hashes")) (t' := .int) (by decide) (by decide)))
  have F_parts_5 : Fld Z h5 ri "com/example/earmark/earmark/ledger/RowIndex" "parts" "[[I" .null := F_parts.other W5 (Or.inr (slot_ne (Or.inr (hw _ (List.mem_of_getElem? (i := 72) rfl))) (Or.inr (hw _ (List.mem_of_getElem? (i := 66) rfl))) (by decide) (t := (.array (.array .int))) (t' := .int) (by decide) (by decide)))
  have F_sizes_5 : Fld Z h5 ri "com/example/earmark/earmark/ledger/RowIndex" "sizes" "[I" .null := F_sizes.other W5 (Or.inr (slot_ne (Or.inr (hw _ (List.mem_of_getElem? (i := 82) rfl))) (Or.inr (hw _ (List.mem_of_getElem? (i := 66) rfl))) (by decide) (t := (.array .int)) (t' := .int) (by decide) (by decide)))
  have Kp5 : Keep h0 h5 [ri] := Kp0.wr W5 (Or.inl (List.mem_of_getElem? (i := 0) rfl))
  have N5 := Fr.snoc X5 N0 g_ri
  have Z5 : n0 ≤ h5.size := Nat.le_trans Z0 (Keep.of_wr W5).1
  have F_partBits_ri_5 : Fld Z h5 ri "com/example/earmark/earmark/ledger/RowIndex" "partBits" "I" (.int (8 : Int32)) := F_partBits.same W5
  have pre6 := fun τ (κ : Steps p.tables e below (T5.setTop (mkF m 9 #[.val (.ref ri), .val (.int (8 : Int32)), .val (.ref lm)] [])) τ) => pre4 τ (st5 _ κ)
  have pre7 := fun τ (κ : Steps p.tables e below (T5.setTop (mkF m 11 #[.val (.ref ri), .val (.int (8 : Int32)), .val (.ref lm)] [(.ref lm), (.ref ri)])) τ) => pre6 τ (by
    refine XS.aloadN X5.here hx rfl (hb hby d6_9) rfl rfl ?_
    refine XS.aloadN X5.here hx rfl (hb hby d6_10) rfl rfl ?_
    show Steps p.tables e below (T5.setTop (mkF m 11 #[.val (.ref ri), .val (.int (8 : Int32)), .val (.ref lm)] [(.ref lm), (.ref ri)])) _
    exact κ)
  obtain ⟨T8, h8, X8, e8, W8, st8⟩ := putF X5 hx hZ hown (host := "") (Or.inl (hw _ (List.mem_of_getElem? (i := 67) rfl))) Via.refl e5 F_hashes_5 E_r_5 (Or.inr ⟨(hw _ (List.mem_of_getElem? (i := 68) rfl)), rfl, hnm⟩) (hw _ (List.mem_of_getElem? (i := 55) rfl)) (ty := (.object "com/example/earmark/earmark/ledger/RowIndex$Hashes")) (by decide) rfl rfl (g := (mkF m 11 #[.val (.ref ri), .val (.int (8 : Int32)), .val (.ref lm)] [(.ref lm), (.ref ri)])) rfl rfl (hb hby d6_11)
  have O0_8 : Old Z n0 h8 := O0_5.wr W8 g_ri
  have E_r_8 : Exa Z h8 ri "com/example/earmark/earmark/ledger/RowIndex" := E_r_5.wr W8
  have F_parts_8 : Fld Z h8 ri "com/example/earmark/earmark/ledger/RowIndex" "parts" "[[I" .null := F_parts_5.other W8 (Or.inr (slot_ne (Or.inr (hw _ (List.mem_of_getElem? (i := 72) rfl))) (Or.inr (hw _ (List.mem_of_getElem? (i := 68) rfl))) (by decide) (t := (.array (.array .int))) (t' := (.object "com/example/earmark/earmark/ledger/RowIndex$Hashes")) (by decide) (by decide)))
  have F_sizes_8 : Fld Z h8 ri "com/example/earmark/earmark/ledger/RowIndex" "sizes" "[I" .null := F_sizes_5.other W8 (Or.inr (slot_ne (Or.inr (hw _ (List.mem_of_getElem? (i := 82) rfl))) (Or.inr (hw _ (List.mem_of_getElem? (i := 68) rfl))) (by decide) (t := (.array .int)) (t' := (.object "com/example/earmark/earmark/ledger/RowIndex$Hashes")) (by decide) (by decide)))
  have F_partBits_ri_8 : Fld Z h8 ri "com/example/earmark/earmark/ledger/RowIndex" "partBits" "I" (.int (8 : Int32)) := F_partBits_ri_5.other W8 (Or.inr (slot_ne (Or.inr (hw _ (List.mem_of_getElem? (i := 66) rfl))) (Or.inr (hw _ (List.mem_of_getElem? (i := 68) rfl))) (by decide) (t := .int) (t' := (.object "com/example/earmark/earmark/ledger/RowIndex$Hashes")) (by decide) (by decide)))
  have Kp8 : Keep h0 h8 [ri] := Kp5.wr W8 (Or.inl (List.mem_of_getElem? (i := 0) rfl))
  have N8 := Fr.snoc X8 N5 g_ri
  have Z8 : n0 ≤ h8.size := Nat.le_trans Z5 (Keep.of_wr W8).1
  have F_hashes_ri_8 : Fld Z h8 ri "com/example/earmark/earmark/ledger/RowIndex" "hashes" "Lcom/example/earmark/earmark/ledger/RowIndex$Hashes;" (.ref lm) := F_hashes_5.same W8
  have pre9 := fun τ (κ : Steps p.tables e below (T8.setTop (mkF m 14 #[.val (.ref ri), .val (.int (8 : Int32)), .val (.ref lm)] [])) τ) => pre7 τ (st8 _ κ)
  have pre10 := fun τ (κ : Steps p.tables e below (T8.setTop (mkF m 18 #[.val (.ref ri), .val (.int (8 : Int32)), .val (.ref lm)] [(.int ((1 : Int32) <<< ((8 : Int32) &&& 31))), (.ref ri)])) τ) => pre9 τ (by
    refine XS.aloadN X8.here hx rfl (hb hby d6_14) rfl rfl ?_
    refine XS.iconst X8.here hx rfl (hb hby d6_15) ?_
    refine XS.iloadN X8.here hx rfl (hb hby d6_16) rfl ?_
    refine XS.ishl X8.here hx rfl (hb hby d6_17) rfl ?_
    show Steps p.tables e below (T8.setTop (mkF m 18 #[.val (.ref ri), .val (.int (8 : Int32)), .val (.ref lm)] [(.int ((1 : Int32) <<< ((8 : Int32) &&& 31))), (.ref ri)])) _
    exact κ)
  rw [show ((1 : Int32) <<< ((8 : Int32) &&& 31)) = (Int32.ofNat 256) from (by decide)] at pre10
  obtain ⟨T11, h11, k11, X11, e11, E11, A11, B11, O11, st11⟩ := newRA X8 hx hZ (ty := .int) hown (by decide) (hw _ (List.mem_of_getElem? (i := 69) rfl)) (hw _ (List.mem_of_getElem? (i := 70) rfl)) e8 (g := (mkF m 18 #[.val (.ref ri), .val (.int (8 : Int32)), .val (.ref lm)] [(.int (Int32.ofNat 256)), (.ref ri)])) rfl (hb hby d6_18) rfl (by decide) (cap := 256) (by decide) (by decide) (by decide) (by decide) (ad := "[[I") (by decide)
  obtain ⟨pt, g11⟩ : ∃ z, z = h8.size := ⟨_, rfl⟩
  rw [← g11] at A11 st11 B11
  have g_pt : n0 ≤ pt := Nat.le_trans Z8 (Nat.le_of_eq g11.symm)
  have ne_ri_pt : ri ≠ pt := Nat.ne_of_lt (Nat.lt_of_lt_of_le E_r_8.lt (Nat.le_of_eq g11.symm))
  have O0_11 : Old Z n0 h11 := O0_8.ext E11
  have E_r_11 : Exa Z h11 ri "com/example/earmark/earmark/ledger/RowIndex" := E_r_8.ext E11
  have F_parts_11 : Fld Z h11 ri "com/example/earmark/earmark/ledger/RowIndex" "parts" "[[I" .null := F_parts_8.ext E11
  have F_sizes_11 : Fld Z h11 ri "com/example/earmark/earmark/ledger/RowIndex" "sizes" "[I" .null := F_sizes_8.ext E11
  have F_partBits_ri_11 : Fld Z h11 ri "com/example/earmark/earmark/ledger/RowIndex" "partBits" "I" (.int (8 : Int32)) := F_partBits_ri_8.ext E11
  have F_hashes_ri_11 : Fld Z h11 ri "com/example/earmark/earmark/ledger/RowIndex" "hashes" "Lcom/example/earmark/earmark/ledger/RowIndex$Hashes;" (.ref lm) := F_hashes_ri_8.ext E11
  have sz_pt : h0.size ≤ pt := Nat.le_trans Kp8.1 (Nat.le_of_eq g11.symm)
  have Kp11 : Keep h0 h11 [ri] := Kp8.ext E11
  have Z11 : n0 ≤ h11.size := Nat.le_trans Z8 E11.1
  have V_pt_11 : Arv Z h11 pt k11 (.array .int) (Int32.ofNat 256) [] .null := Arv.new A11 (by decide)
  have pre12 := fun τ (κ : Steps p.tables e below (T11.setTop (mkF m 21 #[.val (.ref ri), .val (.int (8 : Int32)), .val (.ref lm)] [(.ref pt), (.ref ri)])) τ) => pre10 τ (st11 _ κ)
  obtain ⟨T13, h13, X13, e13, W13, st13⟩ := putF X11 hx hZ hown (host := "") (Or.inl (hw _ (List.mem_of_getElem? (i := 71) rfl))) Via.refl e11 F_parts_11 E_r_11 (Or.inr ⟨(hw _ (List.mem_of_getElem? (i := 72) rfl)), rfl, hnm⟩) (hw _ (List.mem_of_getElem? (i := 55) rfl)) (ty := (.array (.array .int))) (by decide) rfl rfl (g := (mkF m 21 #[.val (.ref ri), .val (.int (8 : Int32)), .val (.ref lm)] [(.ref pt), (.ref ri)])) rfl rfl (hb hby d6_21)
  have O0_13 : Old Z n0 h13 := O0_11.wr W13 g_ri
  have E_r_13 : Exa Z h13 ri "com/example/earmark/earmark/ledger/RowIndex" := E_r_11.wr W13
  have F_sizes_13 : Fld Z h13 ri "com/example/earmark/earmark/ledger/RowIndex" "sizes" "[I" .null := F_sizes_11.other W13 (Or.inr (slot_ne (Or.inr (hw _ (List.mem_of_getElem? (i := 82) rfl))) (Or.inr (hw _ (List.mem_of_getElem? (i := 72) rfl))) (by decide) (t := (.array .int)) (t' := (.array (.array .int))) (by decide) (by decide)))
  have F_partBits_ri_13 : Fld Z h13 ri "com/example/earmark/earmark/ledger/RowIndex" "partBits" "I" (.int (8 : Int32)) := F_partBits_ri_11.other W13 (Or.inr (slot_ne (Or.inr (hw _ (List.mem_of_getElem? (i := 66) rfl))) (Or.inr (hw _ (List.mem_of_getElem? (i := 72) rfl))) (by decide) (t := .int) (t' := (.array (.array .int))) (by decide) (by decide)))
  have F_hashes_ri_13 : Fld Z h13 ri "com/example/earmark/earmark/ledger/RowIndex" "hashes" "Lcom/example/earmark/earmark/ledger/RowIndex$Hashes;" (.ref lm) := F_hashes_ri_11.other W13 (Or.inr (slot_ne (Or.inr (hw _ (List.mem_of_getElem? (i := 68) rfl))) (Or.inr (hw _ (List.mem_of_getElem? (i := 72) rfl))) (by decide) (t := (.object "com/example/earmark/earmark/ledger/RowIndex$Hashes")) (t' := (.array (.array .int))) (by decide) (by decide)))
  have V_pt_13 : Arv Z h13 pt k11 (.array .int) (Int32.ofNat 256) [] .null := V_pt_11.other W13 (Ne.symm ne_ri_pt)
  have Kp13 : Keep h0 h13 [ri] := Kp11.wr W13 (Or.inl (List.mem_of_getElem? (i := 0) rfl))
  have N13 := Fr.snoc X13 N8 g_ri
  have Z13 : n0 ≤ h13.size := Nat.le_trans Z11 (Keep.of_wr W13).1
  have F_parts_ri_13 : Fld Z h13 ri "com/example/earmark/earmark/ledger/RowIndex" "parts" "[[I" (.ref pt) := F_parts_11.same W13
  have pre14 := fun τ (κ : Steps p.tables e below (T13.setTop (mkF m 24 #[.val (.ref ri), .val (.int (8 : Int32)), .val (.ref lm)] [])) τ) => pre12 τ (st13 _ κ)
  have pre15 := fun τ (κ : Steps p.tables e below (T13.setTop (mkF m 25 #[.val (.ref ri), .val (.int (8 : Int32)), .val (.ref lm)] [(.ref ri)])) τ) => pre14 τ (by
    refine XS.aloadN X13.here hx rfl (hb hby d6_24) rfl rfl ?_
    show Steps p.tables e below (T13.setTop (mkF m 25 #[.val (.ref ri), .val (.int (8 : Int32)), .val (.ref lm)] [(.ref ri)])) _
    exact κ)
  obtain ⟨T16, X16, e16, st16⟩ := getF X13 hx hZ hown (host := "") (Or.inl (hw _ (List.mem_of_getElem? (i := 71) rfl))) Via.refl e13 F_parts_ri_13 (g := (mkF m 25 #[.val (.ref ri), .val (.int (8 : Int32)), .val (.ref lm)] [(.ref ri)])) rfl rfl (hb hby d6_25)
  have pre17 := fun τ (κ : Steps p.tables e below (T16.setTop (mkF m 28 #[.val (.ref ri), .val (.int (8 : Int32)), .val (.ref lm)] [(.ref pt)])) τ) => pre15 τ (st16 _ κ)
  obtain ⟨T18, X18, e18, st18⟩ := getS2 X16 hx hZ hown (host := "") (Or.inl (hw _ (List.mem_of_getElem? (i := 73) rfl))) Via.refl e16 (Sn.ext O0_13.2) (g := (mkF m 28 #[.val (.ref ri), .val (.int (8 : Int32)), .val (.ref lm)] [(.ref pt)])) rfl (hb hby d6_28)
  have pre19 := fun τ (κ : Steps p.tables e below (T18.setTop (mkF m 31 #[.val (.ref ri), .val (.int (8 : Int32)), .val (.ref lm)] [(.ref nn), (.ref pt)])) τ) => pre17 τ (st18 _ κ)
  obtain ⟨clq, Aq, qq, -⟩ := id V_pt_13
  obtain ⟨_, _, ⟨T20, L20, k20, n20⟩, -, X20, ⟨Lc20, hQ20, l20, y20, z20⟩, st20⟩ := Jvm.LawKit.callS X18 hx (y := (⟨"java/util/Arrays", "fill", "([Ljava/lang/Object;Ljava/lang/Object;)V"⟩ : MethodName)) hown (mvT hZ (hw _ (List.mem_of_getElem? (i := 75) rfl))) (mvT hZ (hw _ (List.mem_of_getElem? (i := 76) rfl))) (mvT hZ (hw _ (List.mem_of_getElem? (i := 77) rfl))) (mvT hZ (hw _ (List.mem_of_getElem? (i := 78) rfl))) (by decide) (backOf (W := 0) (rm7 l Z a0 hw [] pt nn k11 (.array .int) 256 [] h13 n0 Z13 V_pt_13 (Sto.ofVA Aq qq O11 (Ins.self (En.ext O0_13.2))) rfl (by omega) g_pt) hZ (hw _ (List.mem_of_getElem? (i := 78) rfl)) (hw _ (List.mem_of_getElem? (i := 77) rfl)) (Nat.le_of_ble_eq_true rfl) (Nat.le_of_ble_eq_true rfl)) (g := (mkF m 31 #[.val (.ref ri), .val (.int (8 : Int32)), .val (.ref lm)] [(.ref nn), (.ref pt)])) rfl (by rw [hml]; rfl) (argsL := [(.ref pt), (.ref nn)]) (rest := []) (lenOf pd_1 rfl) rfl (by show 2 * 0 + _ ≤ _; exact Nat.le_of_eq rfl) (hb hby d6_31) (fun _ _ => ⟨rfl, e18, (by decide : 1 + 0 ≤ _), (by decide : 256 + 0 ≤ _)⟩)
  dsimp only [Pt.U, Pt.locs, Pt.cells, Pt.slots] at X20 l20 y20 z20 st20 hQ20
  subst l20 y20 z20
  obtain ⟨rfl, Nq20, K20⟩ := hQ20
  have O0_20 : Old Z n0 T20.heap := O0_13.keep K20 (allS g_pt all0)
  have E_r_20 : Exa Z T20.heap ri "com/example/earmark/earmark/ledger/RowIndex" := E_r_13.keep K20
  have F_sizes_20 : Fld Z T20.heap ri "com/example/earmark/earmark/ledger/RowIndex" "sizes" "[I" .null := F_sizes_13.keep K20 (ninS ne_ri_pt nin0)
  have F_partBits_ri_20 : Fld Z T20.heap ri "com/example/earmark/earmark/ledger/RowIndex" "partBits" "I" (.int (8 : Int32)) := F_partBits_ri_13.keep K20 (ninS ne_ri_pt nin0)
  have F_hashes_ri_20 : Fld Z T20.heap ri "com/example/earmark/earmark/ledger/RowIndex" "hashes" "Lcom/example/earmark/earmark/ledger/RowIndex$Hashes;" (.ref lm) := F_hashes_ri_13.keep K20 (ninS ne_ri_pt nin0)
  have F_parts_ri_20 : Fld Z T20.heap ri "com/example/earmark/earmark/ledger/RowIndex" "parts" "[[I" (.ref pt) := F_parts_ri_13.keep K20 (ninS ne_ri_pt nin0)
  have Z20 : n0 ≤ T20.heap.size := Nat.le_trans Z13 K20.1
  have Kp20 : Keep h0 T20.heap [ri] := Kp13.trans K20 (allS (Or.inr sz_pt) all0)
  have N20 := Fr.app N13 Nq20
  have pre21 := fun τ (κ : Steps p.tables e below (T20.setTop (mkF m 34 #[.val (.ref ri), .val (.int (8 : Int32)), .val (.ref lm)] [])) τ) => pre19 τ (st20 _ κ)
  have pre22 := fun τ (κ : Steps p.tables e below (T20.setTop (mkF m 38 #[.val (.ref ri), .val (.int (8 : Int32)), .val (.ref lm)] [(.int ((1 : Int32) <<< ((8 : Int32) &&& 31))), (.ref ri)])) τ) => pre21 τ (by
    refine XS.aloadN X20.here hx rfl (hb hby d6_34) rfl rfl ?_
    refine XS.iconst X20.here hx rfl (hb hby d6_35) ?_
    refine XS.iloadN X20.here hx rfl (hb hby d6_36) rfl ?_
    refine XS.ishl X20.here hx rfl (hb hby d6_37) rfl ?_
    show Steps p.tables e below (T20.setTop (mkF m 38 #[.val (.ref ri), .val (.int (8 : Int32)), .val (.ref lm)] [(.int ((1 : Int32) <<< ((8 : Int32) &&& 31))), (.ref ri)])) _
    exact κ)
  rw [show ((1 : Int32) <<< ((8 : Int32) &&& 31)) = (256 : Int32) from (by decide)] at pre22
  obtain ⟨T23, h23, k23, X23, e23, E23, A23, st23⟩ := newP X20 hx hZ (hw _ (List.mem_of_getElem? (i := 80) rfl)) rfl (g := (mkF m 38 #[.val (.ref ri), .val (.int (8 : Int32)), .val (.ref lm)] [(.int (256 : Int32)), (.ref ri)])) rfl (hb hby d6_38) rfl (by decide) (cap := 256) (by decide) (by decide) (by decide) (by decide)
  obtain ⟨sz, g23⟩ : ∃ z, z = T20.heap.size := ⟨_, rfl⟩
  rw [← g23] at A23 st23
  have g_sz : n0 ≤ sz := Nat.le_trans Z20 (Nat.le_of_eq g23.symm)
  have ne_ri_sz : ri ≠ sz := Nat.ne_of_lt (Nat.lt_of_lt_of_le E_r_20.lt (Nat.le_of_eq g23.symm))
  have O0_23 : Old Z n0 h23 := O0_20.ext E23
  have E_r_23 : Exa Z h23 ri "com/example/earmark/earmark/ledger/RowIndex" := E_r_20.ext E23
  have F_sizes_23 : Fld Z h23 ri "com/example/earmark/earmark/ledger/RowIndex" "sizes" "[I" .null := F_sizes_20.ext E23
  have F_partBits_ri_23 : Fld Z h23 ri "com/example/earmark/earmark/ledger/RowIndex" "partBits" "I" (.int (8 : Int32)) := F_partBits_ri_20.ext E23
  have F_hashes_ri_23 : Fld Z h23 ri "com/example/earmark/earmark/ledger/RowIndex" "hashes" "Lcom/example/earmark/earmark/ledger/RowIndex$Hashes;" (.ref lm) := F_hashes_ri_20.ext E23
  have F_parts_ri_23 : Fld Z h23 ri "com/example/earmark/earmark/ledger/RowIndex" "parts" "[[I" (.ref pt) := F_parts_ri_20.ext E23
  have sz_sz : h0.size ≤ sz := Nat.le_trans Kp20.1 (Nat.le_of_eq g23.symm)
  have Kp23 : Keep h0 h23 [ri] := Kp20.ext E23
  have Z23 : n0 ≤ h23.size := Nat.le_trans Z20 E23.1
  have V_sz_23 : Arv Z h23 sz k23 .int (256 : Int32) [] (.int (0 : Int32)) := Arv.new A23 (by decide)
  have pre24 := fun τ (κ : Steps p.tables e below (T23.setTop (mkF m 40 #[.val (.ref ri), .val (.int (8 : Int32)), .val (.ref lm)] [(.ref sz), (.ref ri)])) τ) => pre22 τ (st23 _ κ)
  obtain ⟨T25, h25, X25, e25, W25, st25⟩ := putF X23 hx hZ hown (host := "") (Or.inl (hw _ (List.mem_of_getElem? (i := 81) rfl))) Via.refl e23 F_sizes_23 E_r_23 (Or.inr ⟨(hw _ (List.mem_of_getElem? (i := 82) rfl)), rfl, hnm⟩) (hw _ (List.mem_of_getElem? (i := 55) rfl)) (ty := (.array .int)) (by decide) rfl rfl (g := (mkF m 40 #[.val (.ref ri), .val (.int (8 : Int32)), .val (.ref lm)] [(.ref sz), (.ref ri)])) rfl rfl (hb hby d6_40)
  have O0_25 : Old Z n0 h25 := O0_23.wr W25 g_ri
  have E_r_25 : Exa Z h25 ri "com/example/earmark/earmark/ledger/RowIndex" := E_r_23.wr W25
  have F_partBits_ri_25 : Fld Z h25 ri "com/example/earmark/earmark/ledger/RowIndex" "partBits" "I" (.int (8 : Int32)) := F_partBits_ri_23.other W25 (Or.inr (slot_ne (Or.inr (hw _ (List.mem_of_getElem? (i := 66) rfl))) (Or.inr (hw _ (List.mem_of_getElem? (i := 82) rfl))) (by decide) (t := .int) (t' := (.array .int)) (by decide) (by decide)))
  have F_hashes_ri_25 : Fld Z h25 ri "com/example/earmark/earmark/ledger/RowIndex" "hashes" "Lcom/example/earmark/earmark/ledger/RowIndex$Hashes;" (.ref lm) := F_hashes_ri_23.other W25 (Or.inr (slot_ne (Or.inr (hw _ (List.mem_of_getElem? (i := 68) rfl))) (Or.inr (hw _ (List.mem_of_getElem? (i := 82) rfl))) (by decide) (t := (.object "com/example/earmark/earmark/ledger/RowIndex$Hashes")) (t' := (.array .int)) (by decide) (by decide)))
  have F_parts_ri_25 : Fld Z h25 ri "com/example/earmark/earmark/ledger/RowIndex" "parts" "[[I" (.ref pt) := F_parts_ri_23.other W25 (Or.inr (slot_ne (Or.inr (hw _ (List.mem_of_getElem? (i := 72) rfl))) (Or.inr (hw _ (List.mem_of_getElem? (i := 82) rfl))) (by decide) (t := (.array (.array .int))) (t' := (.array .int)) (by decide) (by decide)))
  have V_sz_25 : Arv Z h25 sz k23 .int (256 : Int32) [] (.int (0 : Int32)) := V_sz_23.other W25 (Ne.symm ne_ri_sz)
  have Kp25 : Keep h0 h25 [ri] := Kp23.wr W25 (Or.inl (List.mem_of_getElem? (i := 0) rfl))
  have N25 := Fr.snoc X25 N20 g_ri
  have Z25 : n0 ≤ h25.size := Nat.le_trans Z23 (Keep.of_wr W25).1
  have F_sizes_ri_25 : Fld Z h25 ri "com/example/earmark/earmark/ledger/RowIndex" "sizes" "[I" (.ref sz) := F_sizes_23.same W25
  have pre26 := fun τ (κ : Steps p.tables e below (T25.setTop (mkF m 43 #[.val (.ref ri), .val (.int (8 : Int32)), .val (.ref lm)] [])) τ) => pre24 τ (st25 _ κ)
  obtain ⟨fs, hr, hrun, hended, hW, hsame⟩ := X25.leave (v := none) (fun _ => rfl)
  refine ⟨_, _, pre26 _ ?_, hrun, hended, _, _, rfl, ?_, ⟨_, rfl⟩, hW, hsame.mono (by decide) (by decide)⟩
  · exact X25.returnOut hx Bd.returns (hb hby d6_43) hr
  · show Q6 Z ri lm nn h0 n0 _ T25.heap _
    rw [e25]
    exact ⟨rfl, N25, Kp25⟩
theorem ef_9 (m : MethodId) (hm : Addr) : entryFrame m #[(.ref hm)] 1 = mkF m 0 #[.val (.ref hm)] [] := by first | (simp [entryFrame, mkF, argsToLocals, Value.category]; done) | rfl
def Q9 (Z : State) (hm : Addr) (h0 : Heap) (n0 : Nat) (v : Option Value) (h : Heap) (L : List Loc) : Prop := v = none ∧ Fr n0 L ∧ h = h0
set_option maxRecDepth 65536 in
set_option maxHeartbeats 40000000 in
theorem rm9 (l : Launch) (Z : State) (a0 : Array Value) (hw : ∀ d ∈ tables_1, d.before a0 Z = true) (ws : List Jvm.Cond) (hm : Addr) (h0 : Heap) (n0 : Nat) (Z0 : n0 ≤ h0.size) :
    MetFree l (⟨"java/util/AbstractMap", "<init>", "()V"⟩ : MethodName) (head1 (Jvm.Cond.code (⟨"java/util/AbstractMap", "<init>", "()V"⟩ : MethodName) jdk_71_method_1_code 1 none :: ws) ({ frames := 1, cells := 0, slots := 0, locals := 12 } : Room)) (fun α υ => α = #[(.ref hm)] ∧ Z.Warmed39 υ.vm ∧ υ.heap = h0) (fun _ _ _ _ _ => True) (fun _ υ ω υ' => ∃ v L, ω = .returned v ∧ Q9 Z hm h0 n0 v υ'.heap L ∧ FrameEnd υ ω υ' L ({ frames := 1, cells := 0, slots := 0, locals := 12 } : Room).cells ({ frames := 1, cells := 0, slots := 0, locals := 12 } : Room).slots) := by
  refine MetFree.of_bodySF (plainFor_of_name pn_java_util_AbstractMap) hisR ?_
  intro p e s m args below meth c s₁ Bd hml0 hP hK
  obtain ⟨rfl, hZ, hh⟩ := hP
  have hx := Bd.exec
  have hby := Bd.bytes
  have hml : c.maxLocals = 1 := hml0
  have hown : s.vm.findClass "java/util/AbstractMap" = some m.cls := findClass_of_methodNamed Bd.named
  have hnm := (name_of_methodNamed Bd.named Bd.method).1
  have X0 : Stand p l e ({ frames := 1, cells := 0, slots := 0, locals := 12 } : Room) s m #[(.ref hm)] below meth c s₁ [] 0 0 := Stand.of_body Bd
  have e0 : s₁.heap = h0 := by rw [← hh, Bd.state]; rfl
  have N0 := Fr.nil n0
  have pre0 : ∀ τ, Steps p.tables e below (s₁.setTop (mkF m 0 #[.val (.ref hm)] [])) τ → Steps p.tables e below (s₁.setTop (entryFrame m #[(.ref hm)] 1)) τ := fun τ κ => castTop (ef_9 m hm) κ
  have pre1 := fun τ (κ : Steps p.tables e below (s₁.setTop (mkF m 1 #[.val (.ref hm)] [(.ref hm)])) τ) => pre0 τ (by
    refine XS.aloadN X0.here hx rfl (hb hby d9_0) rfl rfl ?_
    show Steps p.tables e below (s₁.setTop (mkF m 1 #[.val (.ref hm)] [(.ref hm)])) _
    exact κ)
  obtain ⟨T2, X2, e2, st2⟩ := initO X0 hx hZ hown (hw _ (List.mem_of_getElem? (i := 97) rfl)) (hw _ (List.mem_of_getElem? (i := 19) rfl)) (hw _ (List.mem_of_getElem? (i := 20) rfl)) e0 (g := (mkF m 1 #[.val (.ref hm)] [(.ref hm)])) rfl (by rw [hml]; rfl) rfl (hb hby d9_1) (by decide) (W := 0) (by show 2 * 0 + _ ≤ _; exact Nat.le_of_eq rfl) (by decide)
  have pre3 := fun τ (κ : Steps p.tables e below (T2.setTop (mkF m 4 #[.val (.ref hm)] [])) τ) => pre1 τ (st2 _ κ)
  obtain ⟨fs, hr, hrun, hended, hW, hsame⟩ := X2.leave (v := none) (fun _ => rfl)
  refine ⟨_, _, pre3 _ ?_, hrun, hended, _, _, rfl, ?_, ⟨_, rfl⟩, hW, hsame.mono (by decide) (by decide)⟩
  · exact X2.returnOut hx Bd.returns (hb hby d9_4) hr
  · show Q9 Z hm h0 n0 _ T2.heap _
    rw [e2]
    exact ⟨rfl, N0, rfl⟩
theorem ef_8 (m : MethodId) (hm : Addr) : entryFrame m #[(.ref hm)] 1 = mkF m 0 #[.val (.ref hm)] [] := by first | (simp [entryFrame, mkF, argsToLocals, Value.category]; done) | rfl
def Q8 (Z : State) (hm : Addr) (h0 : Heap) (n0 : Nat) (v : Option Value) (h : Heap) (L : List Loc) : Prop := v = none ∧ Fr n0 L ∧ Keep h0 h [hm]
set_option maxRecDepth 65536 in
set_option maxHeartbeats 40000000 in
theorem rm8 (l : Launch) (Z : State) (a0 : Array Value) (hw : ∀ d ∈ tables_1, d.before a0 Z = true) (ws : List Jvm.Cond) (hm : Addr) (h0 : Heap) (n0 : Nat) (Z0 : n0 ≤ h0.size) (E_m : Exa Z h0 hm "java/util/HashMap") (g_hm : n0 ≤ hm) (F_lf : Fld Z h0 hm "java/util/HashMap" "loadFactor" "F" (.float (0 : UInt32))) :
    MetFree l (⟨"java/util/HashMap", "<init>", "()V"⟩ : MethodName) (head1 (Jvm.Cond.code (⟨"java/util/HashMap", "<init>", "()V"⟩ : MethodName) jdk_69_method_7_code 1 none :: ws) ({ frames := 2, cells := 0, slots := 0, locals := 24 } : Room)) (fun α υ => α = #[(.ref hm)] ∧ Z.Warmed39 υ.vm ∧ υ.heap = h0) (fun _ _ _ _ _ => True) (fun _ υ ω υ' => ∃ v L, ω = .returned v ∧ Q8 Z hm h0 n0 v υ'.heap L ∧ FrameEnd υ ω υ' L ({ frames := 2, cells := 0, slots := 0, locals := 24 } : Room).cells ({ frames := 2, cells := 0, slots := 0, locals := 24 } : Room).slots) := by
  refine MetFree.of_bodySF (plainFor_of_name pn_java_util_HashMap) hisR ?_
  intro p e s m args below meth c s₁ Bd hml0 hP hK
  obtain ⟨rfl, hZ, hh⟩ := hP
  have hx := Bd.exec
  have hby := Bd.bytes
  have hml : c.maxLocals = 1 := hml0
  have hown : s.vm.findClass "java/util/HashMap" = some m.cls := findClass_of_methodNamed Bd.named
  have hnm := (name_of_methodNamed Bd.named Bd.method).1
  have X0 : Stand p l e ({ frames := 2, cells := 0, slots := 0, locals := 24 } : Room) s m #[(.ref hm)] below meth c s₁ [] 0 0 := Stand.of_body Bd
  have e0 : s₁.heap = h0 := by rw [← hh, Bd.state]; rfl
  have N0 := Fr.nil n0
  have pre0 : ∀ τ, Steps p.tables e below (s₁.setTop (mkF m 0 #[.val (.ref hm)] [])) τ → Steps p.tables e below (s₁.setTop (entryFrame m #[(.ref hm)] 1)) τ := fun τ κ => castTop (ef_8 m hm) κ
  have Kp0 : Keep h0 h0 [hm] := Keep.refl _ _
  have pre1 := fun τ (κ : Steps p.tables e below (s₁.setTop (mkF m 1 #[.val (.ref hm)] [(.ref hm)])) τ) => pre0 τ (by
    refine XS.aloadN X0.here hx rfl (hb hby d8_0) rfl rfl ?_
    show Steps p.tables e below (s₁.setTop (mkF m 1 #[.val (.ref hm)] [(.ref hm)])) _
    exact κ)
  obtain ⟨_, _, ⟨T2, L2, k2, n2⟩, -, X2, ⟨Lc2, hQ2, l2, y2, z2⟩, st2⟩ := X0.specialBack hx (y := (⟨"java/util/AbstractMap", "<init>", "()V"⟩ : MethodName)) rfl hown (mvT hZ (hw _ (List.mem_of_getElem? (i := 91) rfl))) (mvT hZ (hw _ (List.mem_of_getElem? (i := 92) rfl))) (mvT hZ (hw _ (List.mem_of_getElem? (i := 96) rfl))) (by decide) (backOf (W := 0) (rm9 l Z a0 hw [] hm h0 n0 Z0) hZ (hw _ (List.mem_of_getElem? (i := 96) rfl)) (hw _ (List.mem_of_getElem? (i := 95) rfl)) (Nat.le_of_ble_eq_true rfl) (Nat.le_of_ble_eq_true rfl)) (g := (mkF m 1 #[.val (.ref hm)] [(.ref hm)])) rfl (by rw [hml]; rfl) (Steps.refl _) (a := hm) (argsL := []) (rest := []) (lenOf pd_2 rfl) rfl (by show 2 * 0 + _ ≤ _; exact Nat.le_of_eq rfl) (hb hby d8_1) (fun _ _ => ⟨rfl, e0, (by decide : 0 + 0 ≤ _), (by decide : 0 + 0 ≤ _)⟩)
  dsimp only [Pt.U, Pt.locs, Pt.cells, Pt.slots] at X2 l2 y2 z2 st2 hQ2
  subst l2 y2 z2
  obtain ⟨rfl, Nq2, hh2⟩ := hQ2
  have E_m_2 : Exa Z T2.heap hm "java/util/HashMap" := by rw [hh2]; exact E_m
  have F_lf_2 : Fld Z T2.heap hm "java/util/HashMap" "loadFactor" "F" (.float (0 : UInt32)) := by rw [hh2]; exact F_lf
  have Z2 : n0 ≤ T2.heap.size := by rw [hh2]; exact Z0
  have Kp2 : Keep h0 T2.heap [hm] := by rw [hh2]; exact Kp0
  have N2 := Fr.app N0 Nq2
  have pre3 := fun τ (κ : Steps p.tables e below (T2.setTop (mkF m 4 #[.val (.ref hm)] [])) τ) => pre1 τ (st2.trans κ)
  have pre4 := fun τ (κ : Steps p.tables e below (T2.setTop (mkF m 7 #[.val (.ref hm)] [(.float (1061158912 : UInt32)), (.ref hm)])) τ) => pre3 τ (by
    refine XS.aloadN X2.here hx rfl (hb hby d8_4) rfl rfl ?_
    refine X2.ldcFloatC hx hown (mvT hZ (hw _ (List.mem_of_getElem? (i := 98) rfl))) (g := (mkF m 5 #[.val (.ref hm)] [(.ref hm)])) rfl (hb hby d8_5) _ ?_
    show Steps p.tables e below (T2.setTop (mkF m 7 #[.val (.ref hm)] [(.float (1061158912 : UInt32)), (.ref hm)])) _
    exact κ)
  obtain ⟨T5, h5, X5, e5, W5, st5⟩ := putF X2 hx hZ hown (host := "") (Or.inl (hw _ (List.mem_of_getElem? (i := 99) rfl))) Via.refl rfl F_lf_2 E_m_2 (Or.inr ⟨(hw _ (List.mem_of_getElem? (i := 100) rfl)), rfl, hnm⟩) (hw _ (List.mem_of_getElem? (i := 86) rfl)) (ty := .float) (by decide) rfl rfl (g := (mkF m 7 #[.val (.ref hm)] [(.float (1061158912 : UInt32)), (.ref hm)])) rfl rfl (hb hby d8_7)
  have E_m_5 : Exa Z h5 hm "java/util/HashMap" := E_m_2.wr W5
  have Kp5 : Keep h0 h5 [hm] := Kp2.wr W5 (Or.inl (List.mem_of_getElem? (i := 0) rfl))
  have N5 := Fr.snoc X5 N2 g_hm
  have Z5 : n0 ≤ h5.size := Nat.le_trans Z2 (Keep.of_wr W5).1
  have F_loadFactor_hm_5 : Fld Z h5 hm "java/util/HashMap" "loadFactor" "F" (.float (1061158912 : UInt32)) := F_lf_2.same W5
  have pre6 := fun τ (κ : Steps p.tables e below (T5.setTop (mkF m 10 #[.val (.ref hm)] [])) τ) => pre4 τ (st5 _ κ)
  obtain ⟨fs, hr, hrun, hended, hW, hsame⟩ := X5.leave (v := none) (fun _ => rfl)
  refine ⟨_, _, pre6 _ ?_, hrun, hended, _, _, rfl, ?_, ⟨_, rfl⟩, hW, hsame.mono (by decide) (by decide)⟩
  · exact X5.returnOut hx Bd.returns (hb hby d8_10) hr
  · show Q8 Z hm h0 n0 _ T5.heap _
    rw [e5]
    exact ⟨rfl, N5, Kp5⟩
theorem ef_14 (m : MethodId) (eb : Addr) : entryFrame m #[(.int (0 : Int32)), (.ref eb), (.int (1 : Int32))] 10 = mkF m 0 #[.val (.int (0 : Int32)), .val (.ref eb), .val (.int (1 : Int32)), .unset, .unset, .unset, .unset, .unset, .unset, .unset] [] := by first | (simp [entryFrame, mkF, argsToLocals, Value.category]; done) | rfl
def Q14 (Z : State) (eb : Addr) (kb : ClassId) (h0 : Heap) (n0 : Nat) (v : Option Value) (h : Heap) (L : List Loc) : Prop := ∃ bb : Addr, v = some (.ref bb) ∧ Fr n0 L ∧ Keep h0 h []
set_option maxRecDepth 65536 in
set_option maxHeartbeats 40000000 in
theorem rm14 (l : Launch) (Z : State) (a0 : Array Value) (hw : ∀ d ∈ tables_1, d.before a0 Z = true) (ws : List Jvm.Cond) (eb : Addr) (kb : ClassId) (h0 : Heap) (n0 : Nat) (Z0 : n0 ≤ h0.size) (Vb : Arv Z h0 eb kb .byte (1 : Int32) [(.int (104 : Int32))] (.int (0 : Int32))) (E_b : Exa Z h0 eb "[B") :
    MetFree l (⟨"java/lang/String", "encode8859_1", "(B[BZ)[B"⟩ : MethodName) (head1 (Jvm.Cond.code (⟨"java/lang/String", "encode8859_1", "(B[BZ)[B"⟩ : MethodName) jdk_42_method_27_code 10 (some (.array .byte)) :: ws) ({ frames := 1, cells := 1, slots := 1, locals := 14 } : Room)) (fun α υ => α = #[(.int (0 : Int32)), (.ref eb), (.int (1 : Int32))] ∧ Z.Warmed39 υ.vm ∧ υ.heap = h0) (fun _ _ _ _ _ => True) (fun _ υ ω υ' => ∃ v L, ω = .returned v ∧ Q14 Z eb kb h0 n0 v υ'.heap L ∧ FrameEnd υ ω υ' L ({ frames := 1, cells := 1, slots := 1, locals := 14 } : Room).cells ({ frames := 1, cells := 1, slots := 1, locals := 14 } : Room).slots) := by
  refine MetFree.of_bodySF (plainFor_of_name pn_java_lang_String) hisR ?_
  intro p e s m args below meth c s₁ Bd hml0 hP hK
  obtain ⟨rfl, hZ, hh⟩ := hP
  have hx := Bd.exec
  have hby := Bd.bytes
  have hml : c.maxLocals = 10 := hml0
  have hown : s.vm.findClass "java/lang/String" = some m.cls := findClass_of_methodNamed Bd.named
  have hnm := (name_of_methodNamed Bd.named Bd.method).1
  have X0 : Stand p l e ({ frames := 1, cells := 1, slots := 1, locals := 14 } : Room) s m #[(.int (0 : Int32)), (.ref eb), (.int (1 : Int32))] below meth c s₁ [] 0 0 := Stand.of_body Bd
  have e0 : s₁.heap = h0 := by rw [← hh, Bd.state]; rfl
  have N0 := Fr.nil n0
  have pre0 : ∀ τ, Steps p.tables e below (s₁.setTop (mkF m 0 #[.val (.int (0 : Int32)), .val (.ref eb), .val (.int (1 : Int32)), .unset, .unset, .unset, .unset, .unset, .unset, .unset] [])) τ → Steps p.tables e below (s₁.setTop (entryFrame m #[(.int (0 : Int32)), (.ref eb), (.int (1 : Int32))] 10)) τ := fun τ κ => castTop (ef_14 m eb) κ
  have Kp0 : Keep h0 h0 [] := Keep.refl _ _
  have pre1 := fun τ (κ : Steps p.tables e below (s₁.setTop (mkF m 5 #[.val (.int (0 : Int32)), .val (.ref eb), .val (.int (1 : Int32)), .unset, .unset, .unset, .unset, .unset, .unset, .unset] [(.ref eb)])) τ) => pre0 τ (by
    refine XS.iloadN X0.here hx rfl (hb hby d14_0) rfl ?_
    refine XS.ifNo X0.here hx rfl (hb hby d14_1) rfl ((if0 _ _).trans (teq rfl).2) ?_
    show Steps p.tables e below (s₁.setTop (mkF m 4 #[.val (.int (0 : Int32)), .val (.ref eb), .val (.int (1 : Int32)), .unset, .unset, .unset, .unset, .unset, .unset, .unset] [])) _
    refine XS.aloadN X0.here hx rfl (hb hby d14_4) rfl rfl ?_
    show Steps p.tables e below (s₁.setTop (mkF m 5 #[.val (.int (0 : Int32)), .val (.ref eb), .val (.int (1 : Int32)), .unset, .unset, .unset, .unset, .unset, .unset, .unset] [(.ref eb)])) _
    exact κ)
  obtain ⟨T2, h2, X2, e2, E2, A2, B2, st2⟩ := cloneH X0 hx hZ hown (hw _ (List.mem_of_getElem? (i := 141) rfl)) (hw _ (List.mem_of_getElem? (i := 142) rfl)) (hw _ (List.mem_of_getElem? (i := 146) rfl)) (hw _ (List.mem_of_getElem? (i := 144) rfl)) (hw _ (List.mem_of_getElem? (i := 145) rfl)) (hw _ (List.mem_of_getElem? (i := 147) rfl)) e0 Vb.arh E_b (g := (mkF m 5 #[.val (.int (0 : Int32)), .val (.ref eb), .val (.int (1 : Int32)), .unset, .unset, .unset, .unset, .unset, .unset, .unset] [(.ref eb)])) rfl (by rw [hml]; rfl) rfl (hb hby d14_5) (by decide) (W := 0) (cap := 1) (by show 2 * 0 + _ ≤ _; exact Nat.le_of_eq rfl) (by decide) (by decide) (by decide) (by decide)
  obtain ⟨bb, g2⟩ : ∃ z, z = h0.size := ⟨_, rfl⟩
  rw [← g2] at A2 B2 st2
  have g_bb : n0 ≤ bb := Nat.le_trans Z0 (Nat.le_of_eq g2.symm)
  have ne_eb_bb : eb ≠ bb := Nat.ne_of_lt (Nat.lt_of_lt_of_le E_b.lt (Nat.le_of_eq g2.symm))
  have E_b_2 : Exa Z h2 eb "[B" := E_b.ext E2
  have Vb_2 : Arv Z h2 eb kb .byte (1 : Int32) [(.int (104 : Int32))] (.int (0 : Int32)) := Vb.ext E2
  have sz_bb : h0.size ≤ bb := Nat.le_trans Kp0.1 (Nat.le_of_eq g2.symm)
  have Kp2 : Keep h0 h2 [] := Kp0.ext E2
  have Z2 : n0 ≤ h2.size := Nat.le_trans Z0 E2.1
  have V_bb_2 : Arv Z h2 bb kb .byte (1 : Int32) [(.int (104 : Int32))] (.int (0 : Int32)) := A2
  have pre3 := fun τ (κ : Steps p.tables e below (T2.setTop (mkF m 8 #[.val (.int (0 : Int32)), .val (.ref eb), .val (.int (1 : Int32)), .unset, .unset, .unset, .unset, .unset, .unset, .unset] [(.ref bb)])) τ) => pre1 τ (st2 _ κ)
  obtain ⟨T4, X4, e4, st4⟩ := castY X2 hx hZ hown (hw _ (List.mem_of_getElem? (i := 148) rfl)) e2 (Ins.self B2) (g := (mkF m 8 #[.val (.int (0 : Int32)), .val (.ref eb), .val (.int (1 : Int32)), .unset, .unset, .unset, .unset, .unset, .unset, .unset] [(.ref bb)])) rfl rfl (hb hby d14_8)
  have pre5 := fun τ (κ : Steps p.tables e below (T4.setTop (mkF m 11 #[.val (.int (0 : Int32)), .val (.ref eb), .val (.int (1 : Int32)), .unset, .unset, .unset, .unset, .unset, .unset, .unset] [(.ref bb)])) τ) => pre3 τ (st4 _ κ)
  obtain ⟨fs, hr, hrun, hended, hW, hsame⟩ := X4.leave (v := some (.ref bb)) (fun h => by rw [Bd.returns] at h; cases h)
  refine ⟨_, _, pre5 _ ?_, hrun, hended, _, _, rfl, ?_, ⟨_, rfl⟩, hW, hsame.mono (by decide) (by decide)⟩
  · jvm_step X4.here [X4.here.top, hx, (hb hby d14_11), X4.method', Bd.returns, Value.isRef, FieldType.isReference]
    first | (intro acts; rw [hr _ acts rfl rfl rfl]) | rw [hr _ _ rfl rfl rfl]
    exact Steps.refl _
  · show Q14 Z eb kb h0 n0 _ T4.heap _
    rw [e4]
    exact ⟨bb, rfl, N0, Kp2⟩
theorem ef_13 (m : MethodId) (eb : Addr) : entryFrame m #[(.int (0 : Int32)), (.ref eb)] 2 = mkF m 0 #[.val (.int (0 : Int32)), .val (.ref eb)] [] := by first | (simp [entryFrame, mkF, argsToLocals, Value.category]; done) | rfl
def Q13 (Z : State) (eb : Addr) (kb : ClassId) (h0 : Heap) (n0 : Nat) (v : Option Value) (h : Heap) (L : List Loc) : Prop := ∃ bb : Addr, v = some (.ref bb) ∧ Fr n0 L ∧ Keep h0 h []
set_option maxRecDepth 65536 in
set_option maxHeartbeats 40000000 in
theorem rm13 (l : Launch) (Z : State) (a0 : Array Value) (hw : ∀ d ∈ tables_1, d.before a0 Z = true) (ws : List Jvm.Cond) (eb : Addr) (kb : ClassId) (h0 : Heap) (n0 : Nat) (Z0 : n0 ≤ h0.size) (Vb : Arv Z h0 eb kb .byte (1 : Int32) [(.int (104 : Int32))] (.int (0 : Int32))) (E_b : Exa Z h0 eb "[B") :
    MetFree l (⟨"java/lang/String", "encode8859_1", "(B[B)[B"⟩ : MethodName) (head1 (Jvm.Cond.code (⟨"java/lang/String", "encode8859_1", "(B[B)[B"⟩ : MethodName) jdk_42_method_26_code 2 (some (.array .byte)) :: ws) ({ frames := 2, cells := 1, slots := 1, locals := 35 } : Room)) (fun α υ => α = #[(.int (0 : Int32)), (.ref eb)] ∧ Z.Warmed39 υ.vm ∧ υ.heap = h0) (fun _ _ _ _ _ => True) (fun _ υ ω υ' => ∃ v L, ω = .returned v ∧ Q13 Z eb kb h0 n0 v υ'.heap L ∧ FrameEnd υ ω υ' L ({ frames := 2, cells := 1, slots := 1, locals := 35 } : Room).cells ({ frames := 2, cells := 1, slots := 1, locals := 35 } : Room).slots) := by
  refine MetFree.of_bodySF (plainFor_of_name pn_java_lang_String) hisR ?_
  intro p e s m args below meth c s₁ Bd hml0 hP hK
  obtain ⟨rfl, hZ, hh⟩ := hP
  have hx := Bd.exec
  have hby := Bd.bytes
  have hml : c.maxLocals = 2 := hml0
  have hown : s.vm.findClass "java/lang/String" = some m.cls := findClass_of_methodNamed Bd.named
  have hnm := (name_of_methodNamed Bd.named Bd.method).1
  have X0 : Stand p l e ({ frames := 2, cells := 1, slots := 1, locals := 35 } : Room) s m #[(.int (0 : Int32)), (.ref eb)] below meth c s₁ [] 0 0 := Stand.of_body Bd
  have e0 : s₁.heap = h0 := by rw [← hh, Bd.state]; rfl
  have N0 := Fr.nil n0
  have pre0 : ∀ τ, Steps p.tables e below (s₁.setTop (mkF m 0 #[.val (.int (0 : Int32)), .val (.ref eb)] [])) τ → Steps p.tables e below (s₁.setTop (entryFrame m #[(.int (0 : Int32)), (.ref eb)] 2)) τ := fun τ κ => castTop (ef_13 m eb) κ
  have Kp0 : Keep h0 h0 [] := Keep.refl _ _
  have pre1 := fun τ (κ : Steps p.tables e below (s₁.setTop (mkF m 3 #[.val (.int (0 : Int32)), .val (.ref eb)] [(.int (1 : Int32)), (.ref eb), (.int (0 : Int32))])) τ) => pre0 τ (by
    refine XS.iloadN X0.here hx rfl (hb hby d13_0) rfl ?_
    refine XS.aloadN X0.here hx rfl (hb hby d13_1) rfl rfl ?_
    refine XS.iconst X0.here hx rfl (hb hby d13_2) ?_
    show Steps p.tables e below (s₁.setTop (mkF m 3 #[.val (.int (0 : Int32)), .val (.ref eb)] [(.int (1 : Int32)), (.ref eb), (.int (0 : Int32))])) _
    exact κ)
  obtain ⟨_, _, ⟨T2, L2, k2, n2⟩, -, X2, ⟨Lc2, hQ2, l2, y2, z2⟩, st2⟩ := Jvm.LawKit.callS X0 hx (y := (⟨"java/lang/String", "encode8859_1", "(B[BZ)[B"⟩ : MethodName)) hown (mvT hZ (hw _ (List.mem_of_getElem? (i := 138) rfl))) (mvT hZ (hw _ (List.mem_of_getElem? (i := 139) rfl))) (mvT hZ (hw _ (List.mem_of_getElem? (i := 8) rfl))) (mvT hZ (hw _ (List.mem_of_getElem? (i := 140) rfl))) (by decide) (backOf (W := 0) (rm14 l Z a0 hw [] eb kb h0 n0 Z0 Vb E_b) hZ (hw _ (List.mem_of_getElem? (i := 140) rfl)) (hw _ (List.mem_of_getElem? (i := 8) rfl)) (Nat.le_of_ble_eq_true rfl) (Nat.le_of_ble_eq_true rfl)) (g := (mkF m 3 #[.val (.int (0 : Int32)), .val (.ref eb)] [(.int (1 : Int32)), (.ref eb), (.int (0 : Int32))])) rfl (by rw [hml]; rfl) (argsL := [(.int (0 : Int32)), (.ref eb), (.int (1 : Int32))]) (rest := []) (lenOf pd_3 rfl) rfl (by show 2 * 0 + _ ≤ _; exact Nat.le_of_eq rfl) (hb hby d13_3) (fun _ _ => ⟨rfl, e0, (by decide : 0 + 1 ≤ _), (by decide : 0 + 1 ≤ _)⟩)
  dsimp only [Pt.U, Pt.locs, Pt.cells, Pt.slots] at X2 l2 y2 z2 st2 hQ2
  subst l2 y2 z2
  obtain ⟨bb, rfl, Nq2, K2⟩ := hQ2
  have E_b_2 : Exa Z T2.heap eb "[B" := E_b.keep K2
  have Vb_2 : Arv Z T2.heap eb kb .byte (1 : Int32) [(.int (104 : Int32))] (.int (0 : Int32)) := Vb.keep K2 nin0
  have Z2 : n0 ≤ T2.heap.size := Nat.le_trans Z0 K2.1
  have Kp2 : Keep h0 T2.heap [] := Kp0.trans K2 all0
  have N2 := Fr.app N0 Nq2
  have pre3 := fun τ (κ : Steps p.tables e below (T2.setTop (mkF m 6 #[.val (.int (0 : Int32)), .val (.ref eb)] [(.ref bb)])) τ) => pre1 τ (st2 _ κ)
  obtain ⟨fs, hr, hrun, hended, hW, hsame⟩ := X2.leave (v := some (.ref bb)) (fun h => by rw [Bd.returns] at h; cases h)
  refine ⟨_, _, pre3 _ ?_, hrun, hended, _, _, rfl, ?_, ⟨_, rfl⟩, hW, hsame.mono (by decide) (by decide)⟩
  · jvm_step X2.here [X2.here.top, hx, (hb hby d13_6), X2.method', Bd.returns, Value.isRef, FieldType.isReference]
    first | (intro acts; rw [hr _ acts rfl rfl rfl]) | rw [hr _ _ rfl rfl rfl]
    exact Steps.refl _
  · show Q13 Z eb kb h0 n0 _ T2.heap _
    exact ⟨bb, rfl, N2, Kp2⟩
theorem ef_12 (m : MethodId) (eb : Addr) (zc : Int32) (cs : Addr) (u8 : Addr) : entryFrame m #[(.ref cs), (.int (0 : Int32)), (.ref eb)] 3 = mkF m 0 #[.val (.ref cs), .val (.int (0 : Int32)), .val (.ref eb)] [] := by first | (simp [entryFrame, mkF, argsToLocals, Value.category]; done) | rfl
def Q12 (Z : State) (eb : Addr) (kb : ClassId) (zc : Int32) (cs : Addr) (u8 : Addr) (h0 : Heap) (n0 : Nat) (v : Option Value) (h : Heap) (L : List Loc) : Prop := ∃ bb : Addr, v = some (.ref bb) ∧ Fr n0 L ∧ Keep h0 h []
set_option maxRecDepth 65536 in
set_option maxHeartbeats 40000000 in
theorem rm12 (l : Launch) (Z : State) (a0 : Array Value) (hw : ∀ d ∈ tables_1, d.before a0 Z = true) (ws : List Jvm.Cond) (eb : Addr) (kb : ClassId) (zc : Int32) (cs : Addr) (u8 : Addr) (h0 : Heap) (n0 : Nat) (Z0 : n0 ≤ h0.size) (O0 : Old Z n0 h0) (S8 : Sta Z Z.heap "java/lang/String" "COMPACT_STRINGS" "Z" (.int zc)) (c9 : ¬ zc = 0) (S1 : Sta Z Z.heap "sun/nio/cs/UTF_8" "INSTANCE" "Lsun/nio/cs/UTF_8;" (.ref u8)) (S2 : Sta Z Z.heap "sun/nio/cs/ISO_8859_1" "INSTANCE" "Lsun/nio/cs/ISO_8859_1;" (.ref cs)) (hcu : cs ≠ u8) (Vb : Arv Z h0 eb kb .byte (1 : Int32) [(.int (104 : Int32))] (.int (0 : Int32))) (E_b : Exa Z h0 eb "[B") :
    MetFree l (⟨"java/lang/String", "encode", "(Ljava/nio/charset/Charset;B[B)[B"⟩ : MethodName) (head1 (Jvm.Cond.code (⟨"java/lang/String", "encode", "(Ljava/nio/charset/Charset;B[B)[B"⟩ : MethodName) jdk_42_method_18_code 3 (some (.array .byte)) :: ws) ({ frames := 3, cells := 1, slots := 1, locals := 48 } : Room)) (fun α υ => α = #[(.ref cs), (.int (0 : Int32)), (.ref eb)] ∧ Z.Warmed39 υ.vm ∧ υ.heap = h0) (fun _ _ _ _ _ => True) (fun _ υ ω υ' => ∃ v L, ω = .returned v ∧ Q12 Z eb kb zc cs u8 h0 n0 v υ'.heap L ∧ FrameEnd υ ω υ' L ({ frames := 3, cells := 1, slots := 1, locals := 48 } : Room).cells ({ frames := 3, cells := 1, slots := 1, locals := 48 } : Room).slots) := by
  refine MetFree.of_bodySF (plainFor_of_name pn_java_lang_String) hisR ?_
  intro p e s m args below meth c s₁ Bd hml0 hP hK
  obtain ⟨rfl, hZ, hh⟩ := hP
  have hx := Bd.exec
  have hby := Bd.bytes
  have hml : c.maxLocals = 3 := hml0
  have hown : s.vm.findClass "java/lang/String" = some m.cls := findClass_of_methodNamed Bd.named
  have hnm := (name_of_methodNamed Bd.named Bd.method).1
  have X0 : Stand p l e ({ frames := 3, cells := 1, slots := 1, locals := 48 } : Room) s m #[(.ref cs), (.int (0 : Int32)), (.ref eb)] below meth c s₁ [] 0 0 := Stand.of_body Bd
  have e0 : s₁.heap = h0 := by rw [← hh, Bd.state]; rfl
  have N0 := Fr.nil n0
  have pre0 : ∀ τ, Steps p.tables e below (s₁.setTop (mkF m 0 #[.val (.ref cs), .val (.int (0 : Int32)), .val (.ref eb)] [])) τ → Steps p.tables e below (s₁.setTop (entryFrame m #[(.ref cs), (.int (0 : Int32)), (.ref eb)] 3)) τ := fun τ κ => castTop (ef_12 m eb zc cs u8) κ
  have Kp0 : Keep h0 h0 [] := Keep.refl _ _
  have pre1 := fun τ (κ : Steps p.tables e below (s₁.setTop (mkF m 1 #[.val (.ref cs), .val (.int (0 : Int32)), .val (.ref eb)] [(.ref cs)])) τ) => pre0 τ (by
    refine XS.aloadN X0.here hx rfl (hb hby d12_0) rfl rfl ?_
    show Steps p.tables e below (s₁.setTop (mkF m 1 #[.val (.ref cs), .val (.int (0 : Int32)), .val (.ref eb)] [(.ref cs)])) _
    exact κ)
  obtain ⟨T2, X2, e2, st2⟩ := getS2 X0 hx hZ hown (host := "") (Or.inl (hw _ (List.mem_of_getElem? (i := 131) rfl))) Via.refl e0 (S1.ext O0.2) (g := (mkF m 1 #[.val (.ref cs), .val (.int (0 : Int32)), .val (.ref eb)] [(.ref cs)])) rfl (hb hby d12_1)
  have pre3 := fun τ (κ : Steps p.tables e below (T2.setTop (mkF m 4 #[.val (.ref cs), .val (.int (0 : Int32)), .val (.ref eb)] [(.ref u8), (.ref cs)])) τ) => pre1 τ (st2 _ κ)
  have pre4 := fun τ (κ : Steps p.tables e below (T2.setTop (mkF m 15 #[.val (.ref cs), .val (.int (0 : Int32)), .val (.ref eb)] [(.ref cs)])) τ) => pre3 τ (by
    refine Jvm.RoadKit.acmp (g := (mkF m 4 #[.val (.ref cs), .val (.int (0 : Int32)), .val (.ref eb)] [(.ref u8), (.ref cs)])) X2 hx rfl rfl rfl (pc0 := 4) (pc' := 14) (same := false) rfl (hb hby d12_4) rfl (decide_eq_false fun q => hcu (Value.ref.inj q)) (by decide) (by decide) ?_
    show Steps p.tables e below (T2.setTop (mkF m 14 #[.val (.ref cs), .val (.int (0 : Int32)), .val (.ref eb)] [])) _
    refine XS.aloadN X2.here hx rfl (hb hby d12_14) rfl rfl ?_
    show Steps p.tables e below (T2.setTop (mkF m 15 #[.val (.ref cs), .val (.int (0 : Int32)), .val (.ref eb)] [(.ref cs)])) _
    exact κ)
  obtain ⟨T5, X5, e5, st5⟩ := getS2 X2 hx hZ hown (host := "") (Or.inl (hw _ (List.mem_of_getElem? (i := 133) rfl))) Via.refl e2 (S2.ext O0.2) (g := (mkF m 15 #[.val (.ref cs), .val (.int (0 : Int32)), .val (.ref eb)] [(.ref cs)])) rfl (hb hby d12_15)
  have pre6 := fun τ (κ : Steps p.tables e below (T5.setTop (mkF m 18 #[.val (.ref cs), .val (.int (0 : Int32)), .val (.ref eb)] [(.ref cs), (.ref cs)])) τ) => pre4 τ (st5 _ κ)
  have pre7 := fun τ (κ : Steps p.tables e below (T5.setTop (mkF m 23 #[.val (.ref cs), .val (.int (0 : Int32)), .val (.ref eb)] [(.ref eb), (.int (0 : Int32))])) τ) => pre6 τ (by
    refine Jvm.RoadKit.acmp (g := (mkF m 18 #[.val (.ref cs), .val (.int (0 : Int32)), .val (.ref eb)] [(.ref cs), (.ref cs)])) X5 hx rfl rfl rfl (pc0 := 18) (pc' := 21) (same := true) rfl (hb hby d12_18) rfl (decide_eq_true (congrArg Value.ref rfl)) (by decide) (by decide) ?_
    show Steps p.tables e below (T5.setTop (mkF m 21 #[.val (.ref cs), .val (.int (0 : Int32)), .val (.ref eb)] [])) _
    refine XS.iloadN X5.here hx rfl (hb hby d12_21) rfl ?_
    refine XS.aloadN X5.here hx rfl (hb hby d12_22) rfl rfl ?_
    show Steps p.tables e below (T5.setTop (mkF m 23 #[.val (.ref cs), .val (.int (0 : Int32)), .val (.ref eb)] [(.ref eb), (.int (0 : Int32))])) _
    exact κ)
  obtain ⟨_, _, ⟨T8, L8, k8, n8⟩, -, X8, ⟨Lc8, hQ8, l8, y8, z8⟩, st8⟩ := Jvm.LawKit.callS X5 hx (y := (⟨"java/lang/String", "encode8859_1", "(B[B)[B"⟩ : MethodName)) hown (mvT hZ (hw _ (List.mem_of_getElem? (i := 135) rfl))) (mvT hZ (hw _ (List.mem_of_getElem? (i := 136) rfl))) (mvT hZ (hw _ (List.mem_of_getElem? (i := 8) rfl))) (mvT hZ (hw _ (List.mem_of_getElem? (i := 137) rfl))) (by decide) (backOf (W := 0) (rm13 l Z a0 hw [] eb kb h0 n0 Z0 Vb E_b) hZ (hw _ (List.mem_of_getElem? (i := 137) rfl)) (hw _ (List.mem_of_getElem? (i := 8) rfl)) (Nat.le_of_ble_eq_true rfl) (Nat.le_of_ble_eq_true rfl)) (g := (mkF m 23 #[.val (.ref cs), .val (.int (0 : Int32)), .val (.ref eb)] [(.ref eb), (.int (0 : Int32))])) rfl (by rw [hml]; rfl) (argsL := [(.int (0 : Int32)), (.ref eb)]) (rest := []) (lenOf pd_4 rfl) rfl (by show 2 * 0 + _ ≤ _; exact Nat.le_of_eq rfl) (hb hby d12_23) (fun _ _ => ⟨rfl, e5, (by decide : 0 + 1 ≤ _), (by decide : 0 + 1 ≤ _)⟩)
  dsimp only [Pt.U, Pt.locs, Pt.cells, Pt.slots] at X8 l8 y8 z8 st8 hQ8
  subst l8 y8 z8
  obtain ⟨bb, rfl, Nq8, K8⟩ := hQ8
  have O0_8 : Old Z n0 T8.heap := O0.keep K8 all0
  have E_b_8 : Exa Z T8.heap eb "[B" := E_b.keep K8
  have Vb_8 : Arv Z T8.heap eb kb .byte (1 : Int32) [(.int (104 : Int32))] (.int (0 : Int32)) := Vb.keep K8 nin0
  have Z8 : n0 ≤ T8.heap.size := Nat.le_trans Z0 K8.1
  have Kp8 : Keep h0 T8.heap [] := Kp0.trans K8 all0
  have N8 := Fr.app N0 Nq8
  have pre9 := fun τ (κ : Steps p.tables e below (T8.setTop (mkF m 26 #[.val (.ref cs), .val (.int (0 : Int32)), .val (.ref eb)] [(.ref bb)])) τ) => pre7 τ (st8 _ κ)
  obtain ⟨fs, hr, hrun, hended, hW, hsame⟩ := X8.leave (v := some (.ref bb)) (fun h => by rw [Bd.returns] at h; cases h)
  refine ⟨_, _, pre9 _ ?_, hrun, hended, _, _, rfl, ?_, ⟨_, rfl⟩, hW, hsame.mono (by decide) (by decide)⟩
  · jvm_step X8.here [X8.here.top, hx, (hb hby d12_26), X8.method', Bd.returns, Value.isRef, FieldType.isReference]
    first | (intro acts; rw [hr _ acts rfl rfl rfl]) | rw [hr _ _ rfl rfl rfl]
    exact Steps.refl _
  · show Q12 Z eb kb zc cs u8 h0 n0 _ T8.heap _
    exact ⟨bb, rfl, N8, Kp8⟩
theorem ef_11 (m : MethodId) (li : Addr) (zc : Int32) : entryFrame m #[(.ref li)] 1 = mkF m 0 #[.val (.ref li)] [] := by first | (simp [entryFrame, mkF, argsToLocals, Value.category]; done) | rfl
def Q11 (Z : State) (li : Addr) (zc : Int32) (h0 : Heap) (n0 : Nat) (v : Option Value) (h : Heap) (L : List Loc) : Prop := v = some (.int (0 : Int32)) ∧ Fr n0 L ∧ h = h0
set_option maxRecDepth 65536 in
set_option maxHeartbeats 40000000 in
theorem rm11 (l : Launch) (Z : State) (a0 : Array Value) (hw : ∀ d ∈ tables_1, d.before a0 Z = true) (ws : List Jvm.Cond) (li : Addr) (zc : Int32) (h0 : Heap) (n0 : Nat) (Z0 : n0 ≤ h0.size) (O0 : Old Z n0 h0) (S8 : Sta Z Z.heap "java/lang/String" "COMPACT_STRINGS" "Z" (.int zc)) (c9 : ¬ zc = 0) (Fc : Fld Z h0 li "java/lang/String" "coder" "B" (.int (0 : Int32))) :
    MetFree l (⟨"java/lang/String", "coder", "()B"⟩ : MethodName) (head1 (Jvm.Cond.code (⟨"java/lang/String", "coder", "()B"⟩ : MethodName) jdk_42_method_152_code 1 (some .byte) :: ws) ({ frames := 0, cells := 0, slots := 0, locals := 0 } : Room)) (fun α υ => α = #[(.ref li)] ∧ Z.Warmed39 υ.vm ∧ υ.heap = h0) (fun _ _ _ _ _ => True) (fun _ υ ω υ' => ∃ v L, ω = .returned v ∧ Q11 Z li zc h0 n0 v υ'.heap L ∧ FrameEnd υ ω υ' L ({ frames := 0, cells := 0, slots := 0, locals := 0 } : Room).cells ({ frames := 0, cells := 0, slots := 0, locals := 0 } : Room).slots) := by
  refine MetFree.of_bodySF (plainFor_of_name pn_java_lang_String) hisR ?_
  intro p e s m args below meth c s₁ Bd hml0 hP hK
  obtain ⟨rfl, hZ, hh⟩ := hP
  have hx := Bd.exec
  have hby := Bd.bytes
  have hml : c.maxLocals = 1 := hml0
  have hown : s.vm.findClass "java/lang/String" = some m.cls := findClass_of_methodNamed Bd.named
  have hnm := (name_of_methodNamed Bd.named Bd.method).1
  have X0 : Stand p l e ({ frames := 0, cells := 0, slots := 0, locals := 0 } : Room) s m #[(.ref li)] below meth c s₁ [] 0 0 := Stand.of_body Bd
  have e0 : s₁.heap = h0 := by rw [← hh, Bd.state]; rfl
  have N0 := Fr.nil n0
  have pre0 : ∀ τ, Steps p.tables e below (s₁.setTop (mkF m 0 #[.val (.ref li)] [])) τ → Steps p.tables e below (s₁.setTop (entryFrame m #[(.ref li)] 1)) τ := fun τ κ => castTop (ef_11 m li zc) κ
  obtain ⟨T1, X1, e1, st1⟩ := getS2 X0 hx hZ hown (host := "") (Or.inl (hw _ (List.mem_of_getElem? (i := 125) rfl))) Via.refl e0 (S8.ext O0.2) (g := (mkF m 0 #[.val (.ref li)] [])) rfl (hb hby d11_0)
  have pre2 := fun τ (κ : Steps p.tables e below (T1.setTop (mkF m 3 #[.val (.ref li)] [(.int zc)])) τ) => pre0 τ (st1 _ κ)
  have pre3 := fun τ (κ : Steps p.tables e below (T1.setTop (mkF m 7 #[.val (.ref li)] [(.ref li)])) τ) => pre2 τ (by
    refine XS.ifNo X1.here hx rfl (hb hby d11_3) rfl ((if0 _ _).trans (feq c9).1) ?_
    show Steps p.tables e below (T1.setTop (mkF m 6 #[.val (.ref li)] [])) _
    refine XS.aloadN X1.here hx rfl (hb hby d11_6) rfl rfl ?_
    show Steps p.tables e below (T1.setTop (mkF m 7 #[.val (.ref li)] [(.ref li)])) _
    exact κ)
  obtain ⟨T4, X4, e4, st4⟩ := getF X1 hx hZ hown (host := "") (Or.inl (hw _ (List.mem_of_getElem? (i := 126) rfl))) Via.refl e1 Fc (g := (mkF m 7 #[.val (.ref li)] [(.ref li)])) rfl rfl (hb hby d11_7)
  have pre5 := fun τ (κ : Steps p.tables e below (T4.setTop (mkF m 10 #[.val (.ref li)] [(.int (0 : Int32))])) τ) => pre3 τ (st4 _ κ)
  have pre6 := fun τ (κ : Steps p.tables e below (T4.setTop (mkF m 14 #[.val (.ref li)] [(.int (0 : Int32))])) τ) => pre5 τ (by
    refine XS.goto X4.here hx rfl (pc0 := 10) (pc' := 14) rfl (hb hby d11_10) (by decide) (by decide) ?_
    show Steps p.tables e below (T4.setTop (mkF m 14 #[.val (.ref li)] [(.int (0 : Int32))])) _
    exact κ)
  obtain ⟨fs, hr, hrun, hended, hW, hsame⟩ := X4.leave (v := some (.int (0 : Int32))) (fun h => by rw [Bd.returns] at h; cases h)
  refine ⟨_, _, pre6 _ ?_, hrun, hended, _, _, rfl, ?_, ⟨_, rfl⟩, hW, hsame.mono (by decide) (by decide)⟩
  · exact retN X4 hx (t := .byte) Bd.returns (by simp) (hb hby d11_14) hr
  · show Q11 Z li zc h0 n0 _ T4.heap _
    rw [e4]
    exact ⟨rfl, N0, rfl⟩
theorem ef_10 (m : MethodId) (li : Addr) (eb : Addr) (zc : Int32) (cs : Addr) (u8 : Addr) : entryFrame m #[(.ref li), (.ref cs)] 2 = mkF m 0 #[.val (.ref li), .val (.ref cs)] [] := by first | (simp [entryFrame, mkF, argsToLocals, Value.category]; done) | rfl
def Q10 (Z : State) (li : Addr) (eb : Addr) (kb : ClassId) (zc : Int32) (cs : Addr) (u8 : Addr) (h0 : Heap) (n0 : Nat) (v : Option Value) (h : Heap) (L : List Loc) : Prop := ∃ bb : Addr, v = some (.ref bb) ∧ Fr n0 L ∧ Keep h0 h []
set_option maxRecDepth 65536 in
set_option maxHeartbeats 40000000 in
theorem rm10 (l : Launch) (Z : State) (a0 : Array Value) (hw : ∀ d ∈ tables_1, d.before a0 Z = true) (ws : List Jvm.Cond) (li : Addr) (eb : Addr) (kb : ClassId) (zc : Int32) (cs : Addr) (u8 : Addr) (h0 : Heap) (n0 : Nat) (Z0 : n0 ≤ h0.size) (O0 : Old Z n0 h0) (S8 : Sta Z Z.heap "java/lang/String" "COMPACT_STRINGS" "Z" (.int zc)) (c9 : ¬ zc = 0) (S1 : Sta Z Z.heap "sun/nio/cs/UTF_8" "INSTANCE" "Lsun/nio/cs/UTF_8;" (.ref u8)) (S2 : Sta Z Z.heap "sun/nio/cs/ISO_8859_1" "INSTANCE" "Lsun/nio/cs/ISO_8859_1;" (.ref cs)) (hcu : cs ≠ u8) (Vb : Arv Z h0 eb kb .byte (1 : Int32) [(.int (104 : Int32))] (.int (0 : Int32))) (E_b : Exa Z h0 eb "[B") (E_l : Exa Z h0 li "java/lang/String") (Fc : Fld Z h0 li "java/lang/String" "coder" "B" (.int (0 : Int32))) (Fv : Fld Z h0 li "java/lang/String" "value" "[B" (.ref eb)) :
    MetFree l (⟨"java/lang/String", "getBytes", "(Ljava/nio/charset/Charset;)[B"⟩ : MethodName) (head1 (Jvm.Cond.code (⟨"java/lang/String", "getBytes", "(Ljava/nio/charset/Charset;)[B"⟩ : MethodName) jdk_42_method_64_code 2 (some (.array .byte)) :: ws) ({ frames := 4, cells := 1, slots := 1, locals := 62 } : Room)) (fun α υ => α = #[(.ref li), (.ref cs)] ∧ Z.Warmed39 υ.vm ∧ υ.heap = h0) (fun _ _ _ _ _ => True) (fun _ υ ω υ' => ∃ v L, ω = .returned v ∧ Q10 Z li eb kb zc cs u8 h0 n0 v υ'.heap L ∧ FrameEnd υ ω υ' L ({ frames := 4, cells := 1, slots := 1, locals := 62 } : Room).cells ({ frames := 4, cells := 1, slots := 1, locals := 62 } : Room).slots) := by
  refine MetFree.of_bodySF (plainFor_of_name pn_java_lang_String) hisR ?_
  intro p e s m args below meth c s₁ Bd hml0 hP hK
  obtain ⟨rfl, hZ, hh⟩ := hP
  have hx := Bd.exec
  have hby := Bd.bytes
  have hml : c.maxLocals = 2 := hml0
  have hown : s.vm.findClass "java/lang/String" = some m.cls := findClass_of_methodNamed Bd.named
  have hnm := (name_of_methodNamed Bd.named Bd.method).1
  have X0 : Stand p l e ({ frames := 4, cells := 1, slots := 1, locals := 62 } : Room) s m #[(.ref li), (.ref cs)] below meth c s₁ [] 0 0 := Stand.of_body Bd
  have e0 : s₁.heap = h0 := by rw [← hh, Bd.state]; rfl
  have N0 := Fr.nil n0
  have pre0 : ∀ τ, Steps p.tables e below (s₁.setTop (mkF m 0 #[.val (.ref li), .val (.ref cs)] [])) τ → Steps p.tables e below (s₁.setTop (entryFrame m #[(.ref li), (.ref cs)] 2)) τ := fun τ κ => castTop (ef_10 m li eb zc cs u8) κ
  have Kp0 : Keep h0 h0 [] := Keep.refl _ _
  have pre1 := fun τ (κ : Steps p.tables e below (s₁.setTop (mkF m 14 #[.val (.ref li), .val (.ref cs)] [(.ref li), (.ref cs)])) τ) => pre0 τ (by
    refine XS.aloadN X0.here hx rfl (hb hby d10_0) rfl rfl ?_
    refine XS.ifnonnullYes X0.here hx rfl (pc0 := 1) (pc' := 12) rfl (hb hby d10_1) rfl (by decide) (by decide) ?_
    show Steps p.tables e below (s₁.setTop (mkF m 12 #[.val (.ref li), .val (.ref cs)] [])) _
    refine XS.aloadN X0.here hx rfl (hb hby d10_12) rfl rfl ?_
    refine XS.aloadN X0.here hx rfl (hb hby d10_13) rfl rfl ?_
    show Steps p.tables e below (s₁.setTop (mkF m 14 #[.val (.ref li), .val (.ref cs)] [(.ref li), (.ref cs)])) _
    exact κ)
  obtain ⟨cq2, kq2, q2a, q2b, q2c⟩ := isOf hZ e0 E_l
  obtain ⟨_, _, ⟨T2, L2, k2, n2⟩, -, X2, ⟨Lc2, hQ2, l2, y2, z2⟩, st2⟩ := X0.virtualBack hx (y := (⟨"java/lang/String", "coder", "()B"⟩ : MethodName)) (z := (⟨"java/lang/String", "coder", "()B"⟩ : MethodName)) hown (mvT hZ (hw _ (List.mem_of_getElem? (i := 120) rfl))) (mvT hZ (hw _ (List.mem_of_getElem? (i := 121) rfl))) (notFace_of_selects (args := #[]) (mvT hZ (hw _ (List.mem_of_getElem? (i := 123) rfl)))) (mvT hZ (hw _ (List.mem_of_getElem? (i := 123) rfl))) (mvT hZ (hw _ (List.mem_of_getElem? (i := 122) rfl))) (by decide) (backOf (W := 1) (rm11 l Z a0 hw [] li zc h0 n0 Z0 O0 S8 c9 Fc) hZ (hw _ (List.mem_of_getElem? (i := 124) rfl)) (hw _ (List.mem_of_getElem? (i := 8) rfl)) (Nat.le_of_ble_eq_true rfl) (Nat.le_of_ble_eq_true rfl)) q2a q2c (g := (mkF m 14 #[.val (.ref li), .val (.ref cs)] [(.ref li), (.ref cs)])) rfl (by rw [hml]; rfl) (Steps.refl _) (argsL := []) (rest := [(.ref cs)]) (lenOf pd_5 rfl) rfl (by show 2 * 0 + _ ≤ _; exact Nat.le_of_eq rfl) (hb hby d10_14) (fun _ _ => ⟨rfl, e0, (by decide : 0 + 0 ≤ _), (by decide : 0 + 0 ≤ _)⟩)
  dsimp only [Pt.U, Pt.locs, Pt.cells, Pt.slots] at X2 l2 y2 z2 st2 hQ2
  subst l2 y2 z2
  obtain ⟨rfl, Nq2, hh2⟩ := hQ2
  have O0_2 : Old Z n0 T2.heap := by rw [hh2]; exact O0
  have E_b_2 : Exa Z T2.heap eb "[B" := by rw [hh2]; exact E_b
  have Vb_2 : Arv Z T2.heap eb kb .byte (1 : Int32) [(.int (104 : Int32))] (.int (0 : Int32)) := by rw [hh2]; exact Vb
  have E_l_2 : Exa Z T2.heap li "java/lang/String" := by rw [hh2]; exact E_l
  have Fc_2 : Fld Z T2.heap li "java/lang/String" "coder" "B" (.int (0 : Int32)) := by rw [hh2]; exact Fc
  have Fv_2 : Fld Z T2.heap li "java/lang/String" "value" "[B" (.ref eb) := by rw [hh2]; exact Fv
  have Z2 : n0 ≤ T2.heap.size := by rw [hh2]; exact Z0
  have Kp2 : Keep h0 T2.heap [] := by rw [hh2]; exact Kp0
  have N2 := Fr.app N0 Nq2
  have pre3 := fun τ (κ : Steps p.tables e below (T2.setTop (mkF m 17 #[.val (.ref li), .val (.ref cs)] [(.int (0 : Int32)), (.ref cs)])) τ) => pre1 τ (st2.trans κ)
  have pre4 := fun τ (κ : Steps p.tables e below (T2.setTop (mkF m 18 #[.val (.ref li), .val (.ref cs)] [(.ref li), (.int (0 : Int32)), (.ref cs)])) τ) => pre3 τ (by
    refine XS.aloadN X2.here hx rfl (hb hby d10_17) rfl rfl ?_
    show Steps p.tables e below (T2.setTop (mkF m 18 #[.val (.ref li), .val (.ref cs)] [(.ref li), (.int (0 : Int32)), (.ref cs)])) _
    exact κ)
  obtain ⟨T5, X5, e5, st5⟩ := getF X2 hx hZ hown (host := "") (Or.inl (hw _ (List.mem_of_getElem? (i := 127) rfl))) Via.refl rfl Fv_2 (g := (mkF m 18 #[.val (.ref li), .val (.ref cs)] [(.ref li), (.int (0 : Int32)), (.ref cs)])) rfl rfl (hb hby d10_18)
  have pre6 := fun τ (κ : Steps p.tables e below (T5.setTop (mkF m 21 #[.val (.ref li), .val (.ref cs)] [(.ref eb), (.int (0 : Int32)), (.ref cs)])) τ) => pre4 τ (st5 _ κ)
  obtain ⟨_, _, ⟨T7, L7, k7, n7⟩, -, X7, ⟨Lc7, hQ7, l7, y7, z7⟩, st7⟩ := Jvm.LawKit.callS X5 hx (y := (⟨"java/lang/String", "encode", "(Ljava/nio/charset/Charset;B[B)[B"⟩ : MethodName)) hown (mvT hZ (hw _ (List.mem_of_getElem? (i := 128) rfl))) (mvT hZ (hw _ (List.mem_of_getElem? (i := 129) rfl))) (mvT hZ (hw _ (List.mem_of_getElem? (i := 8) rfl))) (mvT hZ (hw _ (List.mem_of_getElem? (i := 130) rfl))) (by decide) (backOf (W := 0) (rm12 l Z a0 hw [] eb kb zc cs u8 T2.heap n0 Z2 O0_2 S8 c9 S1 S2 hcu Vb_2 E_b_2) hZ (hw _ (List.mem_of_getElem? (i := 130) rfl)) (hw _ (List.mem_of_getElem? (i := 8) rfl)) (Nat.le_of_ble_eq_true rfl) (Nat.le_of_ble_eq_true rfl)) (g := (mkF m 21 #[.val (.ref li), .val (.ref cs)] [(.ref eb), (.int (0 : Int32)), (.ref cs)])) rfl (by rw [hml]; rfl) (argsL := [(.ref cs), (.int (0 : Int32)), (.ref eb)]) (rest := []) (lenOf pd_6 rfl) rfl (by show 2 * 0 + _ ≤ _; exact Nat.le_of_eq rfl) (hb hby d10_21) (fun _ _ => ⟨rfl, e5, (by decide : 0 + 1 ≤ _), (by decide : 0 + 1 ≤ _)⟩)
  dsimp only [Pt.U, Pt.locs, Pt.cells, Pt.slots] at X7 l7 y7 z7 st7 hQ7
  subst l7 y7 z7
  obtain ⟨bb, rfl, Nq7, K7⟩ := hQ7
  have O0_7 : Old Z n0 T7.heap := O0_2.keep K7 all0
  have E_b_7 : Exa Z T7.heap eb "[B" := E_b_2.keep K7
  have Vb_7 : Arv Z T7.heap eb kb .byte (1 : Int32) [(.int (104 : Int32))] (.int (0 : Int32)) := Vb_2.keep K7 nin0
  have E_l_7 : Exa Z T7.heap li "java/lang/String" := E_l_2.keep K7
  have Fc_7 : Fld Z T7.heap li "java/lang/String" "coder" "B" (.int (0 : Int32)) := Fc_2.keep K7 nin0
  have Fv_7 : Fld Z T7.heap li "java/lang/String" "value" "[B" (.ref eb) := Fv_2.keep K7 nin0
  have Z7 : n0 ≤ T7.heap.size := Nat.le_trans Z2 K7.1
  have Kp7 : Keep h0 T7.heap [] := Kp2.trans K7 all0
  have N7 := Fr.app N2 Nq7
  have pre8 := fun τ (κ : Steps p.tables e below (T7.setTop (mkF m 24 #[.val (.ref li), .val (.ref cs)] [(.ref bb)])) τ) => pre6 τ (st7 _ κ)
  obtain ⟨fs, hr, hrun, hended, hW, hsame⟩ := X7.leave (v := some (.ref bb)) (fun h => by rw [Bd.returns] at h; cases h)
  refine ⟨_, _, pre8 _ ?_, hrun, hended, _, _, rfl, ?_, ⟨_, rfl⟩, hW, hsame.mono (by decide) (by decide)⟩
  · jvm_step X7.here [X7.here.top, hx, (hb hby d10_24), X7.method', Bd.returns, Value.isRef, FieldType.isReference]
    first | (intro acts; rw [hr _ acts rfl rfl rfl]) | rw [hr _ _ rfl rfl rfl]
    exact Steps.refl _
  · show Q10 Z li eb kb zc cs u8 h0 n0 _ T7.heap _
    exact ⟨bb, rfl, N7, Kp7⟩
theorem ef_2 (m : MethodId) (so : Addr) (li : Addr) (eb : Addr) (zc : Int32) (cs : Addr) (u8 : Addr) (nn : Addr) : entryFrame m #[(.ref so), (.ref li)] 2 = mkF m 0 #[.val (.ref so), .val (.ref li)] [] := by first | (simp [entryFrame, mkF, argsToLocals, Value.category]; done) | rfl
def Q2 (Z : State) (so : Addr) (li : Addr) (eb : Addr) (kb : ClassId) (zc : Int32) (cs : Addr) (u8 : Addr) (nn : Addr) (h0 : Heap) (n0 : Nat) (v : Option Value) (h : Heap) (L : List Loc) : Prop := v = none ∧ Fr n0 L ∧ Keep h0 h [so] ∧ own_PB Z h n0 so 0 1 (fun _ => 0)
set_option maxRecDepth 65536 in
set_option maxHeartbeats 40000000 in
theorem rm2 (l : Launch) (Z : State) (a0 : Array Value) (hw : ∀ d ∈ tables_1, d.before a0 Z = true) (ws : List Jvm.Cond) (so : Addr) (li : Addr) (eb : Addr) (kb : ClassId) (zc : Int32) (cs : Addr) (u8 : Addr) (nn : Addr) (h0 : Heap) (n0 : Nat) (Z0 : n0 ≤ h0.size) (O0 : Old Z n0 h0) (S8 : Sta Z Z.heap "java/lang/String" "COMPACT_STRINGS" "Z" (.int zc)) (c9 : ¬ zc = 0) (S1 : Sta Z Z.heap "sun/nio/cs/UTF_8" "INSTANCE" "Lsun/nio/cs/UTF_8;" (.ref u8)) (S2 : Sta Z Z.heap "sun/nio/cs/ISO_8859_1" "INSTANCE" "Lsun/nio/cs/ISO_8859_1;" (.ref cs)) (hcu : cs ≠ u8) (S0 : Sta Z Z.heap "java/nio/charset/StandardCharsets" "ISO_8859_1" "Ljava/nio/charset/Charset;" (.ref cs)) (Sn : Sta Z Z.heap "com/example/earmark/earmark/ledger/RowIndex" "NONE" "[I" (.ref nn)) (En : Exa Z Z.heap nn "[I") (Vb : Arv Z h0 eb kb .byte (1 : Int32) [(.int (104 : Int32))] (.int (0 : Int32))) (E_b : Exa Z h0 eb "[B") (E_l : Exa Z h0 li "java/lang/String") (Fc : Fld Z h0 li "java/lang/String" "coder" "B" (.int (0 : Int32))) (Fv : Fld Z h0 li "java/lang/String" "value" "[B" (.ref eb)) (E_s : Exa Z h0 so "com/example/earmark/earmark/ledger/HoldStates") (g_so : n0 ≤ so) (hls : li ≠ so) (hes : eb ≠ so) (F_chunks : Fld Z h0 so "com/example/earmark/earmark/ledger/HoldStates" "chunks" "[Lcom/example/earmark/earmark/ledger/HoldStates$Chunk;" .null) (F_index : Fld Z h0 so "com/example/earmark/earmark/ledger/HoldStates" "index" "Lcom/example/earmark/earmark/ledger/RowIndex;" .null) (F_otherNumbers : Fld Z h0 so "com/example/earmark/earmark/ledger/HoldStates" "otherNumbers" "Ljava/util/Map;" .null) (F_otherIds : Fld Z h0 so "com/example/earmark/earmark/ledger/HoldStates" "otherIds" "Ljava/util/Map;" .null) (F_batched : Fld Z h0 so "com/example/earmark/earmark/ledger/HoldStates" "batched" "[[J" .null) (F_passed : Fld Z h0 so "com/example/earmark/earmark/ledger/HoldStates" "passed" "[J" .null) (F_prefix : Fld Z h0 so "com/example/earmark/earmark/ledger/HoldStates" "prefix" "Ljava/lang/String;" .null) (F_prefixText : Fld Z h0 so "com/example/earmark/earmark/ledger/HoldStates" "prefixText" "[B" .null) (F_passedCount : Fld Z h0 so "com/example/earmark/earmark/ledger/HoldStates" "passedCount" "I" (.int (0 : Int32))) :
    MetFree l (⟨"com/example/earmark/earmark/ledger/HoldStates", "<init>", "(Ljava/lang/String;)V"⟩ : MethodName) (head1 (Jvm.Cond.code (⟨"com/example/earmark/earmark/ledger/HoldStates", "<init>", "(Ljava/lang/String;)V"⟩ : MethodName) prog_73_method_1_code 2 none :: ws) ({ frames := 5, cells := 20, slots := 700, locals := 3077 } : Room)) (fun α υ => α = #[(.ref so), (.ref li)] ∧ Z.Warmed39 υ.vm ∧ υ.heap = h0) (fun _ _ _ _ _ => True) (fun _ υ ω υ' => ∃ v L, ω = .returned v ∧ Q2 Z so li eb kb zc cs u8 nn h0 n0 v υ'.heap L ∧ FrameEnd υ ω υ' L ({ frames := 5, cells := 20, slots := 700, locals := 3077 } : Room).cells ({ frames := 5, cells := 20, slots := 700, locals := 3077 } : Room).slots) := by
  refine MetFree.of_bodySF (plainFor_of_name pn_com_example_earmark_earmark_ledger_HoldStates) hisR ?_
  intro p e s m args below meth c s₁ Bd hml0 hP hK
  obtain ⟨rfl, hZ, hh⟩ := hP
  have hx := Bd.exec
  have hby := Bd.bytes
  have hml : c.maxLocals = 2 := hml0
  have hown : s.vm.findClass "com/example/earmark/earmark/ledger/HoldStates" = some m.cls := findClass_of_methodNamed Bd.named
  have hnm := (name_of_methodNamed Bd.named Bd.method).1
  have X0 : Stand p l e ({ frames := 5, cells := 20, slots := 700, locals := 3077 } : Room) s m #[(.ref so), (.ref li)] below meth c s₁ [] 0 0 := Stand.of_body Bd
  have e0 : s₁.heap = h0 := by rw [← hh, Bd.state]; rfl
  have N0 := Fr.nil n0
  have pre0 : ∀ τ, Steps p.tables e below (s₁.setTop (mkF m 0 #[.val (.ref so), .val (.ref li)] [])) τ → Steps p.tables e below (s₁.setTop (entryFrame m #[(.ref so), (.ref li)] 2)) τ := fun τ κ => castTop (ef_2 m so li eb zc cs u8 nn) κ
  have Kp0 : Keep h0 h0 [so] := Keep.refl _ _
  have pre1 := fun τ (κ : Steps p.tables e below (s₁.setTop (mkF m 1 #[.val (.ref so), .val (.ref li)] [(.ref so)])) τ) => pre0 τ (by
    refine XS.aloadN X0.here hx rfl (hb hby d2_0) rfl rfl ?_
    show Steps p.tables e below (s₁.setTop (mkF m 1 #[.val (.ref so), .val (.ref li)] [(.ref so)])) _
    exact κ)
  obtain ⟨T2, X2, e2, st2⟩ := initO X0 hx hZ hown (hw _ (List.mem_of_getElem? (i := 18) rfl)) (hw _ (List.mem_of_getElem? (i := 19) rfl)) (hw _ (List.mem_of_getElem? (i := 20) rfl)) e0 (g := (mkF m 1 #[.val (.ref so), .val (.ref li)] [(.ref so)])) rfl (by rw [hml]; rfl) rfl (hb hby d2_1) (by decide) (W := 0) (by show 2 * 0 + _ ≤ _; exact Nat.le_of_eq rfl) (by decide)
  have pre3 := fun τ (κ : Steps p.tables e below (T2.setTop (mkF m 4 #[.val (.ref so), .val (.ref li)] [])) τ) => pre1 τ (st2 _ κ)
  have pre4 := fun τ (κ : Steps p.tables e below (T2.setTop (mkF m 6 #[.val (.ref so), .val (.ref li)] [(.int (1 : Int32)), (.ref so)])) τ) => pre3 τ (by
    refine XS.aloadN X2.here hx rfl (hb hby d2_4) rfl rfl ?_
    refine XS.iconst X2.here hx rfl (hb hby d2_5) ?_
    show Steps p.tables e below (T2.setTop (mkF m 6 #[.val (.ref so), .val (.ref li)] [(.int (1 : Int32)), (.ref so)])) _
    exact κ)
  obtain ⟨T5, h5, k5, X5, e5, E5, A5, O5, st5⟩ := newR X2 hx hZ hown (hw _ (List.mem_of_getElem? (i := 21) rfl)) (hw _ (List.mem_of_getElem? (i := 22) rfl)) e2 (g := (mkF m 6 #[.val (.ref so), .val (.ref li)] [(.int (1 : Int32)), (.ref so)])) rfl (hb hby d2_6) rfl (by decide) (cap := 1) (by decide) (by decide) (by decide) (by decide)
  obtain ⟨ca, g5⟩ : ∃ z, z = h0.size := ⟨_, rfl⟩
  rw [← g5] at A5 st5
  have g_ca : n0 ≤ ca := Nat.le_trans Z0 (Nat.le_of_eq g5.symm)
  have ne_eb_ca : eb ≠ ca := Nat.ne_of_lt (Nat.lt_of_lt_of_le E_b.lt (Nat.le_of_eq g5.symm))
  have ne_li_ca : li ≠ ca := Nat.ne_of_lt (Nat.lt_of_lt_of_le E_l.lt (Nat.le_of_eq g5.symm))
  have ne_so_ca : so ≠ ca := Nat.ne_of_lt (Nat.lt_of_lt_of_le E_s.lt (Nat.le_of_eq g5.symm))
  have O0_5 : Old Z n0 h5 := O0.ext E5
  have E_b_5 : Exa Z h5 eb "[B" := E_b.ext E5
  have Vb_5 : Arv Z h5 eb kb .byte (1 : Int32) [(.int (104 : Int32))] (.int (0 : Int32)) := Vb.ext E5
  have E_l_5 : Exa Z h5 li "java/lang/String" := E_l.ext E5
  have Fc_5 : Fld Z h5 li "java/lang/String" "coder" "B" (.int (0 : Int32)) := Fc.ext E5
  have Fv_5 : Fld Z h5 li "java/lang/String" "value" "[B" (.ref eb) := Fv.ext E5
  have E_s_5 : Exa Z h5 so "com/example/earmark/earmark/ledger/HoldStates" := E_s.ext E5
  have F_chunks_5 : Fld Z h5 so "com/example/earmark/earmark/ledger/HoldStates" "chunks" "[Lcom/example/earmark/earmark/ledger/HoldStates$Chunk;" .null := F_chunks.ext E5
  have F_index_5 : Fld Z h5 so "com/example/earmark/earmark/ledger/HoldStates" "index" "Lcom/example/earmark/earmark/ledger/RowIndex;" .null := F_index.ext E5
  have F_otherNumbers_5 : Fld Z h5 so "com/example/earmark/earmark/ledger/HoldStates" "otherNumbers" "Ljava/util/Map;" .null := F_otherNumbers.ext E5
  have F_otherIds_5 : Fld Z h5 so "com/example/earmark/earmark/ledger/HoldStates" "otherIds" "Ljava/util/Map;" .null := F_otherIds.ext E5
  have F_batched_5 : Fld Z h5 so "com/example/earmark/earmark/ledger/HoldStates" "batched" "[[J" .null := F_batched.ext E5
  have F_passed_5 : Fld Z h5 so "com/example/earmark/earmark/ledger/HoldStates" "passed" "[J" .null := F_passed.ext E5
  have F_prefix_5 : Fld Z h5 so "com/example/earmark/earmark/ledger/HoldStates" "prefix" "Ljava/lang/String;" .null := F_prefix.ext E5
  have F_prefixText_5 : Fld Z h5 so "com/example/earmark/earmark/ledger/HoldStates" "prefixText" "[B" .null := F_prefixText.ext E5
  have F_passedCount_5 : Fld Z h5 so "com/example/earmark/earmark/ledger/HoldStates" "passedCount" "I" (.int (0 : Int32)) := F_passedCount.ext E5
  have sz_ca : h0.size ≤ ca := Nat.le_trans Kp0.1 (Nat.le_of_eq g5.symm)
  have Kp5 : Keep h0 h5 [so] := Kp0.ext E5
  have Z5 : n0 ≤ h5.size := Nat.le_trans Z0 E5.1
  have V_ca_5 : Arv Z h5 ca k5 (.object "com/example/earmark/earmark/ledger/HoldStates$Chunk") (1 : Int32) [.null] .null := (Arv.new A5 (by decide)).pad (pad_rep [] .null 1)
  have pre6 := fun τ (κ : Steps p.tables e below (T5.setTop (mkF m 9 #[.val (.ref so), .val (.ref li)] [(.ref ca), (.ref so)])) τ) => pre4 τ (st5 _ κ)
  have pre7 := fun τ (κ : Steps p.tables e below (T5.setTop (mkF m 11 #[.val (.ref so), .val (.ref li)] [(.int (0 : Int32)), (.ref ca), (.ref ca), (.ref so)])) τ) => pre6 τ (by
    refine XS.dup X5.here hx rfl (hb hby d2_9) rfl rfl ?_
    show Steps p.tables e below (T5.setTop (mkF m 10 #[.val (.ref so), .val (.ref li)] [(.ref ca), (.ref ca), (.ref so)])) _
    refine XS.iconst X5.here hx rfl (hb hby d2_10) ?_
    show Steps p.tables e below (T5.setTop (mkF m 11 #[.val (.ref so), .val (.ref li)] [(.int (0 : Int32)), (.ref ca), (.ref ca), (.ref so)])) _
    exact κ)
  obtain ⟨T8, h8, X8, e8, E8, A8, D8, -, st8⟩ := newO X5 hx hZ hown (hw _ (List.mem_of_getElem? (i := 21) rfl)) (hw _ (List.mem_of_getElem? (i := 23) rfl)) (hw _ (List.mem_of_getElem? (i := 24) rfl)) e5 (g := (mkF m 11 #[.val (.ref so), .val (.ref li)] [(.int (0 : Int32)), (.ref ca), (.ref ca), (.ref so)])) rfl (hb hby d2_11) (by decide) (by decide)
  obtain ⟨cu, g8⟩ : ∃ z, z = h5.size := ⟨_, rfl⟩
  rw [← g8] at A8 D8 st8
  have g_cu : n0 ≤ cu := Nat.le_trans Z5 (Nat.le_of_eq g8.symm)
  have ne_eb_cu : eb ≠ cu := Nat.ne_of_lt (Nat.lt_of_lt_of_le E_b_5.lt (Nat.le_of_eq g8.symm))
  have ne_li_cu : li ≠ cu := Nat.ne_of_lt (Nat.lt_of_lt_of_le E_l_5.lt (Nat.le_of_eq g8.symm))
  have ne_so_cu : so ≠ cu := Nat.ne_of_lt (Nat.lt_of_lt_of_le E_s_5.lt (Nat.le_of_eq g8.symm))
  have ne_ca_cu : ca ≠ cu := Nat.ne_of_lt (Nat.lt_of_lt_of_le V_ca_5.lt (Nat.le_of_eq g8.symm))
  have O0_8 : Old Z n0 h8 := O0_5.ext E8
  have E_b_8 : Exa Z h8 eb "[B" := E_b_5.ext E8
  have Vb_8 : Arv Z h8 eb kb .byte (1 : Int32) [(.int (104 : Int32))] (.int (0 : Int32)) := Vb_5.ext E8
  have E_l_8 : Exa Z h8 li "java/lang/String" := E_l_5.ext E8
  have Fc_8 : Fld Z h8 li "java/lang/String" "coder" "B" (.int (0 : Int32)) := Fc_5.ext E8
  have Fv_8 : Fld Z h8 li "java/lang/String" "value" "[B" (.ref eb) := Fv_5.ext E8
  have E_s_8 : Exa Z h8 so "com/example/earmark/earmark/ledger/HoldStates" := E_s_5.ext E8
  have F_chunks_8 : Fld Z h8 so "com/example/earmark/earmark/ledger/HoldStates" "chunks" "[Lcom/example/earmark/earmark/ledger/HoldStates$Chunk;" .null := F_chunks_5.ext E8
  have F_index_8 : Fld Z h8 so "com/example/earmark/earmark/ledger/HoldStates" "index" "Lcom/example/earmark/earmark/ledger/RowIndex;" .null := F_index_5.ext E8
  have F_otherNumbers_8 : Fld Z h8 so "com/example/earmark/earmark/ledger/HoldStates" "otherNumbers" "Ljava/util/Map;" .null := F_otherNumbers_5.ext E8
  have F_otherIds_8 : Fld Z h8 so "com/example/earmark/earmark/ledger/HoldStates" "otherIds" "Ljava/util/Map;" .null := F_otherIds_5.ext E8
  have F_batched_8 : Fld Z h8 so "com/example/earmark/earmark/ledger/HoldStates" "batched" "[[J" .null := F_batched_5.ext E8
  have F_passed_8 : Fld Z h8 so "com/example/earmark/earmark/ledger/HoldStates" "passed" "[J" .null := F_passed_5.ext E8
  have F_prefix_8 : Fld Z h8 so "com/example/earmark/earmark/ledger/HoldStates" "prefix" "Ljava/lang/String;" .null := F_prefix_5.ext E8
  have F_prefixText_8 : Fld Z h8 so "com/example/earmark/earmark/ledger/HoldStates" "prefixText" "[B" .null := F_prefixText_5.ext E8
  have F_passedCount_8 : Fld Z h8 so "com/example/earmark/earmark/ledger/HoldStates" "passedCount" "I" (.int (0 : Int32)) := F_passedCount_5.ext E8
  have V_ca_8 : Arv Z h8 ca k5 (.object "com/example/earmark/earmark/ledger/HoldStates$Chunk") (1 : Int32) [.null] .null := V_ca_5.ext E8
  have sz_cu : h0.size ≤ cu := Nat.le_trans Kp5.1 (Nat.le_of_eq g8.symm)
  have Kp8 : Keep h0 h8 [so] := Kp5.ext E8
  have Z8 : n0 ≤ h8.size := Nat.le_trans Z5 E8.1
  have F_highs_cu_8 : Fld Z h8 cu "com/example/earmark/earmark/ledger/HoldStates$Chunk" "highs" "[J" .null := D8 (Or.inr (hw _ (List.mem_of_getElem? (i := 38) rfl))) (ty := (.array .long)) (by decide)
  have F_lows_cu_8 : Fld Z h8 cu "com/example/earmark/earmark/ledger/HoldStates$Chunk" "lows" "[J" .null := D8 (Or.inr (hw _ (List.mem_of_getElem? (i := 40) rfl))) (ty := (.array .long)) (by decide)
  have F_accountIds_cu_8 : Fld Z h8 cu "com/example/earmark/earmark/ledger/HoldStates$Chunk" "accountIds" "[Ljava/lang/String;" .null := D8 (Or.inr (hw _ (List.mem_of_getElem? (i := 42) rfl))) (ty := (.array (.object "java/lang/String"))) (by decide)
  have F_amounts_cu_8 : Fld Z h8 cu "com/example/earmark/earmark/ledger/HoldStates$Chunk" "amounts" "[J" .null := D8 (Or.inr (hw _ (List.mem_of_getElem? (i := 44) rfl))) (ty := (.array .long)) (by decide)
  have F_placedAt_cu_8 : Fld Z h8 cu "com/example/earmark/earmark/ledger/HoldStates$Chunk" "placedAt" "[J" .null := D8 (Or.inr (hw _ (List.mem_of_getElem? (i := 46) rfl))) (ty := (.array .long)) (by decide)
  have F_expiresAt_cu_8 : Fld Z h8 cu "com/example/earmark/earmark/ledger/HoldStates$Chunk" "expiresAt" "[J" .null := D8 (Or.inr (hw _ (List.mem_of_getElem? (i := 48) rfl))) (ty := (.array .long)) (by decide)
  have F_states_cu_8 : Fld Z h8 cu "com/example/earmark/earmark/ledger/HoldStates$Chunk" "states" "[Ljava/lang/Object;" .null := D8 (Or.inr (hw _ (List.mem_of_getElem? (i := 50) rfl))) (ty := (.array (.object "java/lang/Object"))) (by decide)
  have pre9 := fun τ (κ : Steps p.tables e below (T8.setTop (mkF m 14 #[.val (.ref so), .val (.ref li)] [(.ref cu), (.int (0 : Int32)), (.ref ca), (.ref ca), (.ref so)])) τ) => pre7 τ (st8 _ κ)
  have pre10 := fun τ (κ : Steps p.tables e below (T8.setTop (mkF m 17 #[.val (.ref so), .val (.ref li)] [(.int (16 : Int32)), (.ref cu), (.ref cu), (.int (0 : Int32)), (.ref ca), (.ref ca), (.ref so)])) τ) => pre9 τ (by
    refine XS.dup X8.here hx rfl (hb hby d2_14) rfl rfl ?_
    show Steps p.tables e below (T8.setTop (mkF m 15 #[.val (.ref so), .val (.ref li)] [(.ref cu), (.ref cu), (.int (0 : Int32)), (.ref ca), (.ref ca), (.ref so)])) _
    refine XS.bipush X8.here hx rfl (hb hby d2_15) ?_
    show Steps p.tables e below (T8.setTop (mkF m 17 #[.val (.ref so), .val (.ref li)] [(.int (16 : Int32)), (.ref cu), (.ref cu), (.int (0 : Int32)), (.ref ca), (.ref ca), (.ref so)])) _
    exact κ)
  obtain ⟨_, _, ⟨T11, L11, k11, n11⟩, -, X11, ⟨Lc11, hQ11, l11, y11, z11⟩, st11⟩ := own_specialRef X8 hx (y := (⟨"com/example/earmark/earmark/ledger/HoldStates$Chunk", "<init>", "(I)V"⟩ : MethodName)) rfl hown (own_mvRef hZ (hw _ (List.mem_of_getElem? (i := 26) rfl)) (hw _ (List.mem_of_getElem? (i := 25) rfl)) (by decide)) (mvT hZ (hw _ (List.mem_of_getElem? (i := 26) rfl))) (mvT hZ (hw _ (List.mem_of_getElem? (i := 27) rfl))) (by decide) (backOf (W := 5) (rm4 l Z a0 hw [] cu h8 n0 Z8 A8 g_cu F_highs_cu_8 F_lows_cu_8 F_accountIds_cu_8 F_amounts_cu_8 F_placedAt_cu_8 F_expiresAt_cu_8 F_states_cu_8) hZ (hw _ (List.mem_of_getElem? (i := 27) rfl)) (hw _ (List.mem_of_getElem? (i := 24) rfl)) (Nat.le_of_ble_eq_true rfl) (Nat.le_of_ble_eq_true rfl)) (g := (mkF m 17 #[.val (.ref so), .val (.ref li)] [(.int (16 : Int32)), (.ref cu), (.ref cu), (.int (0 : Int32)), (.ref ca), (.ref ca), (.ref so)])) rfl (by rw [hml]; rfl) (Steps.refl _) (a := cu) (argsL := [(.int (16 : Int32))]) (rest := [(.ref cu), (.int (0 : Int32)), (.ref ca), (.ref ca), (.ref so)]) (lenOf pd_7 rfl) rfl (by show 2 * 0 + _ ≤ _; exact Nat.le_of_eq rfl) (hb hby d2_17) (fun _ _ => ⟨rfl, e8, (by decide : 2 + 7 ≤ _), (by decide : 8 + 112 ≤ _)⟩)
  dsimp only [Pt.U, Pt.locs, Pt.cells, Pt.slots] at X11 l11 y11 z11 st11 hQ11
  subst l11 y11 z11
  obtain ⟨rfl, Nq11, K11⟩ := hQ11
  have O0_11 : Old Z n0 T11.heap := O0_8.keep K11 (allS g_cu all0)
  have E_b_11 : Exa Z T11.heap eb "[B" := E_b_8.keep K11
  have Vb_11 : Arv Z T11.heap eb kb .byte (1 : Int32) [(.int (104 : Int32))] (.int (0 : Int32)) := Vb_8.keep K11 (ninS ne_eb_cu nin0)
  have E_l_11 : Exa Z T11.heap li "java/lang/String" := E_l_8.keep K11
  have Fc_11 : Fld Z T11.heap li "java/lang/String" "coder" "B" (.int (0 : Int32)) := Fc_8.keep K11 (ninS ne_li_cu nin0)
  have Fv_11 : Fld Z T11.heap li "java/lang/String" "value" "[B" (.ref eb) := Fv_8.keep K11 (ninS ne_li_cu nin0)
  have E_s_11 : Exa Z T11.heap so "com/example/earmark/earmark/ledger/HoldStates" := E_s_8.keep K11
  have F_chunks_11 : Fld Z T11.heap so "com/example/earmark/earmark/ledger/HoldStates" "chunks" "[Lcom/example/earmark/earmark/ledger/HoldStates$Chunk;" .null := F_chunks_8.keep K11 (ninS ne_so_cu nin0)
  have F_index_11 : Fld Z T11.heap so "com/example/earmark/earmark/ledger/HoldStates" "index" "Lcom/example/earmark/earmark/ledger/RowIndex;" .null := F_index_8.keep K11 (ninS ne_so_cu nin0)
  have F_otherNumbers_11 : Fld Z T11.heap so "com/example/earmark/earmark/ledger/HoldStates" "otherNumbers" "Ljava/util/Map;" .null := F_otherNumbers_8.keep K11 (ninS ne_so_cu nin0)
  have F_otherIds_11 : Fld Z T11.heap so "com/example/earmark/earmark/ledger/HoldStates" "otherIds" "Ljava/util/Map;" .null := F_otherIds_8.keep K11 (ninS ne_so_cu nin0)
  have F_batched_11 : Fld Z T11.heap so "com/example/earmark/earmark/ledger/HoldStates" "batched" "[[J" .null := F_batched_8.keep K11 (ninS ne_so_cu nin0)
  have F_passed_11 : Fld Z T11.heap so "com/example/earmark/earmark/ledger/HoldStates" "passed" "[J" .null := F_passed_8.keep K11 (ninS ne_so_cu nin0)
  have F_prefix_11 : Fld Z T11.heap so "com/example/earmark/earmark/ledger/HoldStates" "prefix" "Ljava/lang/String;" .null := F_prefix_8.keep K11 (ninS ne_so_cu nin0)
  have F_prefixText_11 : Fld Z T11.heap so "com/example/earmark/earmark/ledger/HoldStates" "prefixText" "[B" .null := F_prefixText_8.keep K11 (ninS ne_so_cu nin0)
  have F_passedCount_11 : Fld Z T11.heap so "com/example/earmark/earmark/ledger/HoldStates" "passedCount" "I" (.int (0 : Int32)) := F_passedCount_8.keep K11 (ninS ne_so_cu nin0)
  have V_ca_11 : Arv Z T11.heap ca k5 (.object "com/example/earmark/earmark/ledger/HoldStates$Chunk") (1 : Int32) [.null] .null := V_ca_8.keep K11 (ninS ne_ca_cu nin0)
  have A8_11 : Exa Z T11.heap cu "com/example/earmark/earmark/ledger/HoldStates$Chunk" := A8.keep K11
  have Z11 : n0 ≤ T11.heap.size := Nat.le_trans Z8 K11.1
  have Kp11 : Keep h0 T11.heap [so] := Kp8.trans K11 (allS (Or.inr sz_cu) all0)
  have N11 := Fr.app N0 Nq11
  have pre12 := fun τ (κ : Steps p.tables e below (T11.setTop (mkF m 20 #[.val (.ref so), .val (.ref li)] [(.ref cu), (.int (0 : Int32)), (.ref ca), (.ref ca), (.ref so)])) τ) => pre10 τ (st11.trans κ)
  obtain ⟨cl13, Ar13, q13, S13, M13, H13, G13⟩ := id V_ca_11
  have in13 : ¬ ((0 : Int32) < 0 ∨ cl13.slots.size ≤ ((0 : Int32)).toNatClampNeg) := inb_of S13 ⟨by decide, by decide⟩
  obtain ⟨T14, h14, X14, e14, W14, st14⟩ := stR X11 hx hZ rfl Ar13 (j := (0 : Int32)) in13 rfl (Sto.ofV Ar13 q13 O5 (Ins.self A8_11)) (g := (mkF m 20 #[.val (.ref so), .val (.ref li)] [(.ref cu), (.int (0 : Int32)), (.ref ca), (.ref ca), (.ref so)])) rfl rfl (hb hby d2_20)
  have O0_14 : Old Z n0 h14 := O0_11.wr W14 g_ca
  have E_b_14 : Exa Z h14 eb "[B" := E_b_11.wr W14
  have Vb_14 : Arv Z h14 eb kb .byte (1 : Int32) [(.int (104 : Int32))] (.int (0 : Int32)) := Vb_11.other W14 ne_eb_ca
  have E_l_14 : Exa Z h14 li "java/lang/String" := E_l_11.wr W14
  have Fc_14 : Fld Z h14 li "java/lang/String" "coder" "B" (.int (0 : Int32)) := Fc_11.other W14 (Or.inl ne_li_ca)
  have Fv_14 : Fld Z h14 li "java/lang/String" "value" "[B" (.ref eb) := Fv_11.other W14 (Or.inl ne_li_ca)
  have E_s_14 : Exa Z h14 so "com/example/earmark/earmark/ledger/HoldStates" := E_s_11.wr W14
  have F_chunks_14 : Fld Z h14 so "com/example/earmark/earmark/ledger/HoldStates" "chunks" "[Lcom/example/earmark/earmark/ledger/HoldStates$Chunk;" .null := F_chunks_11.other W14 (Or.inl ne_so_ca)
  have F_index_14 : Fld Z h14 so "com/example/earmark/earmark/ledger/HoldStates" "index" "Lcom/example/earmark/earmark/ledger/RowIndex;" .null := F_index_11.other W14 (Or.inl ne_so_ca)
  have F_otherNumbers_14 : Fld Z h14 so "com/example/earmark/earmark/ledger/HoldStates" "otherNumbers" "Ljava/util/Map;" .null := F_otherNumbers_11.other W14 (Or.inl ne_so_ca)
  have F_otherIds_14 : Fld Z h14 so "com/example/earmark/earmark/ledger/HoldStates" "otherIds" "Ljava/util/Map;" .null := F_otherIds_11.other W14 (Or.inl ne_so_ca)
  have F_batched_14 : Fld Z h14 so "com/example/earmark/earmark/ledger/HoldStates" "batched" "[[J" .null := F_batched_11.other W14 (Or.inl ne_so_ca)
  have F_passed_14 : Fld Z h14 so "com/example/earmark/earmark/ledger/HoldStates" "passed" "[J" .null := F_passed_11.other W14 (Or.inl ne_so_ca)
  have F_prefix_14 : Fld Z h14 so "com/example/earmark/earmark/ledger/HoldStates" "prefix" "Ljava/lang/String;" .null := F_prefix_11.other W14 (Or.inl ne_so_ca)
  have F_prefixText_14 : Fld Z h14 so "com/example/earmark/earmark/ledger/HoldStates" "prefixText" "[B" .null := F_prefixText_11.other W14 (Or.inl ne_so_ca)
  have F_passedCount_14 : Fld Z h14 so "com/example/earmark/earmark/ledger/HoldStates" "passedCount" "I" (.int (0 : Int32)) := F_passedCount_11.other W14 (Or.inl ne_so_ca)
  have A8_14 : Exa Z h14 cu "com/example/earmark/earmark/ledger/HoldStates$Chunk" := A8_11.wr W14
  have Kp14 : Keep h0 h14 [so] := Kp11.wr W14 (Or.inr sz_ca)
  have N14 := Fr.snoc X14 N11 g_ca
  have Z14 : n0 ≤ h14.size := Nat.le_trans Z11 (Keep.of_wr W14).1
  have V_ca_14 : Arv Z h14 ca k5 (.object "com/example/earmark/earmark/ledger/HoldStates$Chunk") (1 : Int32) [(.ref cu)] .null := Arv.set Ar13 q13 S13 M13 H13 G13 rfl W14 0 rfl (Nat.le_of_ble_eq_true rfl)
  have pre15 := fun τ (κ : Steps p.tables e below (T14.setTop (mkF m 21 #[.val (.ref so), .val (.ref li)] [(.ref ca), (.ref so)])) τ) => pre12 τ (st14 _ κ)
  obtain ⟨T16, h16, X16, e16, W16, st16⟩ := putF X14 hx hZ hown (host := "") (Or.inl (hw _ (List.mem_of_getElem? (i := 52) rfl))) Via.refl e14 F_chunks_14 E_s_14 (Or.inl (hw _ (List.mem_of_getElem? (i := 53) rfl))) (hw _ (List.mem_of_getElem? (i := 5) rfl)) (ty := (.array (.object "com/example/earmark/earmark/ledger/HoldStates$Chunk"))) (by decide) rfl rfl (g := (mkF m 21 #[.val (.ref so), .val (.ref li)] [(.ref ca), (.ref so)])) rfl rfl (hb hby d2_21)
  have O0_16 : Old Z n0 h16 := O0_14.wr W16 g_so
  have E_b_16 : Exa Z h16 eb "[B" := E_b_14.wr W16
  have Vb_16 : Arv Z h16 eb kb .byte (1 : Int32) [(.int (104 : Int32))] (.int (0 : Int32)) := Vb_14.other W16 hes
  have E_l_16 : Exa Z h16 li "java/lang/String" := E_l_14.wr W16
  have Fc_16 : Fld Z h16 li "java/lang/String" "coder" "B" (.int (0 : Int32)) := Fc_14.other W16 (Or.inl hls)
  have Fv_16 : Fld Z h16 li "java/lang/String" "value" "[B" (.ref eb) := Fv_14.other W16 (Or.inl hls)
  have E_s_16 : Exa Z h16 so "com/example/earmark/earmark/ledger/HoldStates" := E_s_14.wr W16
  have F_index_16 : Fld Z h16 so "com/example/earmark/earmark/ledger/HoldStates" "index" "Lcom/example/earmark/earmark/ledger/RowIndex;" .null := F_index_14.other W16 (Or.inr (slot_ne (Or.inr (hw _ (List.mem_of_getElem? (i := 84) rfl))) (Or.inl (hw _ (List.mem_of_getElem? (i := 53) rfl))) (by decide) (t := (.object "com/example/earmark/earmark/ledger/RowIndex")) (t' := (.array (.object "com/example/earmark/earmark/ledger/HoldStates$Chunk"))) (by decide) (by decide)))
  have F_otherNumbers_16 : Fld Z h16 so "com/example/earmark/earmark/ledger/HoldStates" "otherNumbers" "Ljava/util/Map;" .null := F_otherNumbers_14.other W16 (Or.inr (slot_ne (Or.inr (hw _ (List.mem_of_getElem? (i := 102) rfl))) (Or.inl (hw _ (List.mem_of_getElem? (i := 53) rfl))) (by decide) (t := (.object "java/util/Map")) (t' := (.array (.object "com/example/earmark/earmark/ledger/HoldStates$Chunk"))) (by decide) (by decide)))
  have F_otherIds_16 : Fld Z h16 so "com/example/earmark/earmark/ledger/HoldStates" "otherIds" "Ljava/util/Map;" .null := F_otherIds_14.other W16 (Or.inr (slot_ne (Or.inr (hw _ (List.mem_of_getElem? (i := 104) rfl))) (Or.inl (hw _ (List.mem_of_getElem? (i := 53) rfl))) (by decide) (t := (.object "java/util/Map")) (t' := (.array (.object "com/example/earmark/earmark/ledger/HoldStates$Chunk"))) (by decide) (by decide)))
  have F_batched_16 : Fld Z h16 so "com/example/earmark/earmark/ledger/HoldStates" "batched" "[[J" .null := F_batched_14.other W16 (Or.inr (slot_ne (Or.inl (hw _ (List.mem_of_getElem? (i := 108) rfl))) (Or.inl (hw _ (List.mem_of_getElem? (i := 53) rfl))) (by decide) (t := (.array (.array .long))) (t' := (.array (.object "com/example/earmark/earmark/ledger/HoldStates$Chunk"))) (by decide) (by decide)))
  have F_passed_16 : Fld Z h16 so "com/example/earmark/earmark/ledger/HoldStates" "passed" "[J" .null := F_passed_14.other W16 (Or.inr (slot_ne (Or.inl (hw _ (List.mem_of_getElem? (i := 110) rfl))) (Or.inl (hw _ (List.mem_of_getElem? (i := 53) rfl))) (by decide) (t := (.array .long)) (t' := (.array (.object "com/example/earmark/earmark/ledger/HoldStates$Chunk"))) (by decide) (by decide)))
  have F_prefix_16 : Fld Z h16 so "com/example/earmark/earmark/ledger/HoldStates" "prefix" "Ljava/lang/String;" .null := F_prefix_14.other W16 (Or.inr (slot_ne (Or.inr (hw _ (List.mem_of_getElem? (i := 112) rfl))) (Or.inl (hw _ (List.mem_of_getElem? (i := 53) rfl))) (by decide) (t := (.object "java/lang/String")) (t' := (.array (.object "com/example/earmark/earmark/ledger/HoldStates$Chunk"))) (by decide) (by decide)))
  have F_prefixText_16 : Fld Z h16 so "com/example/earmark/earmark/ledger/HoldStates" "prefixText" "[B" .null := F_prefixText_14.other W16 (Or.inr (slot_ne (Or.inr (hw _ (List.mem_of_getElem? (i := 151) rfl))) (Or.inl (hw _ (List.mem_of_getElem? (i := 53) rfl))) (by decide) (t := (.array .byte)) (t' := (.array (.object "com/example/earmark/earmark/ledger/HoldStates$Chunk"))) (by decide) (by decide)))
  have F_passedCount_16 : Fld Z h16 so "com/example/earmark/earmark/ledger/HoldStates" "passedCount" "I" (.int (0 : Int32)) := F_passedCount_14.other W16 (Or.inr (slot_ne (Or.inl (hw _ (List.mem_of_getElem? (i := 158) rfl))) (Or.inl (hw _ (List.mem_of_getElem? (i := 53) rfl))) (by decide) (t := .int) (t' := (.array (.object "com/example/earmark/earmark/ledger/HoldStates$Chunk"))) (by decide) (by decide)))
  have A8_16 : Exa Z h16 cu "com/example/earmark/earmark/ledger/HoldStates$Chunk" := A8_14.wr W16
  have V_ca_16 : Arv Z h16 ca k5 (.object "com/example/earmark/earmark/ledger/HoldStates$Chunk") (1 : Int32) [(.ref cu)] .null := V_ca_14.other W16 (Ne.symm ne_so_ca)
  have Kp16 : Keep h0 h16 [so] := Kp14.wr W16 (Or.inl (List.mem_of_getElem? (i := 0) rfl))
  have N16 := Fr.snoc X16 N14 g_so
  have Z16 : n0 ≤ h16.size := Nat.le_trans Z14 (Keep.of_wr W16).1
  have F_chunks_so_16 : Fld Z h16 so "com/example/earmark/earmark/ledger/HoldStates" "chunks" "[Lcom/example/earmark/earmark/ledger/HoldStates$Chunk;" (.ref ca) := F_chunks_14.same W16
  have pre17 := fun τ (κ : Steps p.tables e below (T16.setTop (mkF m 24 #[.val (.ref so), .val (.ref li)] [])) τ) => pre15 τ (st16 _ κ)
  have pre18 := fun τ (κ : Steps p.tables e below (T16.setTop (mkF m 25 #[.val (.ref so), .val (.ref li)] [(.ref so)])) τ) => pre17 τ (by
    refine XS.aloadN X16.here hx rfl (hb hby d2_24) rfl rfl ?_
    show Steps p.tables e below (T16.setTop (mkF m 25 #[.val (.ref so), .val (.ref li)] [(.ref so)])) _
    exact κ)
  obtain ⟨T19, h19, X19, e19, E19, A19, D19, -, st19⟩ := newO X16 hx hZ hown (hw _ (List.mem_of_getElem? (i := 54) rfl)) (hw _ (List.mem_of_getElem? (i := 55) rfl)) (hw _ (List.mem_of_getElem? (i := 56) rfl)) e16 (g := (mkF m 25 #[.val (.ref so), .val (.ref li)] [(.ref so)])) rfl (hb hby d2_25) (by decide) (by decide)
  obtain ⟨ri, g19⟩ : ∃ z, z = h16.size := ⟨_, rfl⟩
  rw [← g19] at A19 D19 st19
  have g_ri : n0 ≤ ri := Nat.le_trans Z16 (Nat.le_of_eq g19.symm)
  have ne_eb_ri : eb ≠ ri := Nat.ne_of_lt (Nat.lt_of_lt_of_le E_b_16.lt (Nat.le_of_eq g19.symm))
  have ne_li_ri : li ≠ ri := Nat.ne_of_lt (Nat.lt_of_lt_of_le E_l_16.lt (Nat.le_of_eq g19.symm))
  have ne_so_ri : so ≠ ri := Nat.ne_of_lt (Nat.lt_of_lt_of_le E_s_16.lt (Nat.le_of_eq g19.symm))
  have O0_19 : Old Z n0 h19 := O0_16.ext E19
  have E_b_19 : Exa Z h19 eb "[B" := E_b_16.ext E19
  have Vb_19 : Arv Z h19 eb kb .byte (1 : Int32) [(.int (104 : Int32))] (.int (0 : Int32)) := Vb_16.ext E19
  have E_l_19 : Exa Z h19 li "java/lang/String" := E_l_16.ext E19
  have Fc_19 : Fld Z h19 li "java/lang/String" "coder" "B" (.int (0 : Int32)) := Fc_16.ext E19
  have Fv_19 : Fld Z h19 li "java/lang/String" "value" "[B" (.ref eb) := Fv_16.ext E19
  have E_s_19 : Exa Z h19 so "com/example/earmark/earmark/ledger/HoldStates" := E_s_16.ext E19
  have F_index_19 : Fld Z h19 so "com/example/earmark/earmark/ledger/HoldStates" "index" "Lcom/example/earmark/earmark/ledger/RowIndex;" .null := F_index_16.ext E19
  have F_otherNumbers_19 : Fld Z h19 so "com/example/earmark/earmark/ledger/HoldStates" "otherNumbers" "Ljava/util/Map;" .null := F_otherNumbers_16.ext E19
  have F_otherIds_19 : Fld Z h19 so "com/example/earmark/earmark/ledger/HoldStates" "otherIds" "Ljava/util/Map;" .null := F_otherIds_16.ext E19
  have F_batched_19 : Fld Z h19 so "com/example/earmark/earmark/ledger/HoldStates" "batched" "[[J" .null := F_batched_16.ext E19
  have F_passed_19 : Fld Z h19 so "com/example/earmark/earmark/ledger/HoldStates" "passed" "[J" .null := F_passed_16.ext E19
  have F_prefix_19 : Fld Z h19 so "com/example/earmark/earmark/ledger/HoldStates" "prefix" "Ljava/lang/String;" .null := F_prefix_16.ext E19
  have F_prefixText_19 : Fld Z h19 so "com/example/earmark/earmark/ledger/HoldStates" "prefixText" "[B" .null := F_prefixText_16.ext E19
  have F_passedCount_19 : Fld Z h19 so "com/example/earmark/earmark/ledger/HoldStates" "passedCount" "I" (.int (0 : Int32)) := F_passedCount_16.ext E19
  have F_chunks_so_19 : Fld Z h19 so "com/example/earmark/earmark/ledger/HoldStates" "chunks" "[Lcom/example/earmark/earmark/ledger/HoldStates$Chunk;" (.ref ca) := F_chunks_so_16.ext E19
  have sz_ri : h0.size ≤ ri := Nat.le_trans Kp16.1 (Nat.le_of_eq g19.symm)
  have Kp19 : Keep h0 h19 [so] := Kp16.ext E19
  have Z19 : n0 ≤ h19.size := Nat.le_trans Z16 E19.1
  have F_partBits_ri_19 : Fld Z h19 ri "com/example/earmark/earmark/ledger/RowIndex" "partBits" "I" (.int (0 : Int32)) := D19 (Or.inr (hw _ (List.mem_of_getElem? (i := 66) rfl))) (ty := .int) (by decide)
  have F_hashes_ri_19 : Fld Z h19 ri "com/example/earmark/earmark/ledger/RowIndex" "hashes" "Lcom/example/earmark/earmark/ledger/RowIndex$Hashes;" .null := D19 (Or.inr (hw _ (List.mem_of_getElem? (i := 68) rfl))) (ty := (.object "com/example/earmark/earmark/ledger/RowIndex$Hashes")) (by decide)
  have F_parts_ri_19 : Fld Z h19 ri "com/example/earmark/earmark/ledger/RowIndex" "parts" "[[I" .null := D19 (Or.inr (hw _ (List.mem_of_getElem? (i := 72) rfl))) (ty := (.array (.array .int))) (by decide)
  have F_sizes_ri_19 : Fld Z h19 ri "com/example/earmark/earmark/ledger/RowIndex" "sizes" "[I" .null := D19 (Or.inr (hw _ (List.mem_of_getElem? (i := 82) rfl))) (ty := (.array .int)) (by decide)
  have pre20 := fun τ (κ : Steps p.tables e below (T19.setTop (mkF m 28 #[.val (.ref so), .val (.ref li)] [(.ref ri), (.ref so)])) τ) => pre18 τ (st19 _ κ)
  have pre21 := fun τ (κ : Steps p.tables e below (T19.setTop (mkF m 32 #[.val (.ref so), .val (.ref li)] [(.ref so), (.int (8 : Int32)), (.ref ri), (.ref ri), (.ref so)])) τ) => pre20 τ (by
    refine XS.dup X19.here hx rfl (hb hby d2_28) rfl rfl ?_
    show Steps p.tables e below (T19.setTop (mkF m 29 #[.val (.ref so), .val (.ref li)] [(.ref ri), (.ref ri), (.ref so)])) _
    refine XS.bipush X19.here hx rfl (hb hby d2_29) ?_
    refine XS.aloadN X19.here hx rfl (hb hby d2_31) rfl rfl ?_
    show Steps p.tables e below (T19.setTop (mkF m 32 #[.val (.ref so), .val (.ref li)] [(.ref so), (.int (8 : Int32)), (.ref ri), (.ref ri), (.ref so)])) _
    exact κ)
  obtain ⟨T22, h22, X22, e22, E22, st22⟩ := own_lam X19 hx hZ (y := (⟨"com/example/earmark/earmark/ledger/HoldStates", "<init>", "(Ljava/lang/String;)V"⟩ : MethodName)) rfl Bd.named (hw _ (List.mem_of_getElem? (i := 57) rfl)) (hw _ (List.mem_of_getElem? (i := 60) rfl)) e19 (g := (mkF m 32 #[.val (.ref so), .val (.ref li)] [(.ref so), (.int (8 : Int32)), (.ref ri), (.ref ri), (.ref so)])) rfl rfl (by rw [hml]; rfl) (hb hby d2_32) rfl (W := 5) (by show 2 * 0 + _ ≤ _; exact Nat.le_of_eq rfl) (by decide) (by decide) (by decide)
  obtain ⟨lm, g22⟩ : ∃ z, z = h19.size := ⟨_, rfl⟩
  rw [← g22] at st22
  have g_lm : n0 ≤ lm := Nat.le_trans Z19 (Nat.le_of_eq g22.symm)
  have ne_eb_lm : eb ≠ lm := Nat.ne_of_lt (Nat.lt_of_lt_of_le E_b_19.lt (Nat.le_of_eq g22.symm))
  have ne_li_lm : li ≠ lm := Nat.ne_of_lt (Nat.lt_of_lt_of_le E_l_19.lt (Nat.le_of_eq g22.symm))
  have ne_so_lm : so ≠ lm := Nat.ne_of_lt (Nat.lt_of_lt_of_le E_s_19.lt (Nat.le_of_eq g22.symm))
  have ne_ri_lm : ri ≠ lm := Nat.ne_of_lt (Nat.lt_of_lt_of_le A19.lt (Nat.le_of_eq g22.symm))
  have O0_22 : Old Z n0 h22 := O0_19.ext E22
  have E_b_22 : Exa Z h22 eb "[B" := E_b_19.ext E22
  have Vb_22 : Arv Z h22 eb kb .byte (1 : Int32) [(.int (104 : Int32))] (.int (0 : Int32)) := Vb_19.ext E22
  have E_l_22 : Exa Z h22 li "java/lang/String" := E_l_19.ext E22
  have Fc_22 : Fld Z h22 li "java/lang/String" "coder" "B" (.int (0 : Int32)) := Fc_19.ext E22
  have Fv_22 : Fld Z h22 li "java/lang/String" "value" "[B" (.ref eb) := Fv_19.ext E22
  have E_s_22 : Exa Z h22 so "com/example/earmark/earmark/ledger/HoldStates" := E_s_19.ext E22
  have F_index_22 : Fld Z h22 so "com/example/earmark/earmark/ledger/HoldStates" "index" "Lcom/example/earmark/earmark/ledger/RowIndex;" .null := F_index_19.ext E22
  have F_otherNumbers_22 : Fld Z h22 so "com/example/earmark/earmark/ledger/HoldStates" "otherNumbers" "Ljava/util/Map;" .null := F_otherNumbers_19.ext E22
  have F_otherIds_22 : Fld Z h22 so "com/example/earmark/earmark/ledger/HoldStates" "otherIds" "Ljava/util/Map;" .null := F_otherIds_19.ext E22
  have F_batched_22 : Fld Z h22 so "com/example/earmark/earmark/ledger/HoldStates" "batched" "[[J" .null := F_batched_19.ext E22
  have F_passed_22 : Fld Z h22 so "com/example/earmark/earmark/ledger/HoldStates" "passed" "[J" .null := F_passed_19.ext E22
  have F_prefix_22 : Fld Z h22 so "com/example/earmark/earmark/ledger/HoldStates" "prefix" "Ljava/lang/String;" .null := F_prefix_19.ext E22
  have F_prefixText_22 : Fld Z h22 so "com/example/earmark/earmark/ledger/HoldStates" "prefixText" "[B" .null := F_prefixText_19.ext E22
  have F_passedCount_22 : Fld Z h22 so "com/example/earmark/earmark/ledger/HoldStates" "passedCount" "I" (.int (0 : Int32)) := F_passedCount_19.ext E22
  have F_chunks_so_22 : Fld Z h22 so "com/example/earmark/earmark/ledger/HoldStates" "chunks" "[Lcom/example/earmark/earmark/ledger/HoldStates$Chunk;" (.ref ca) := F_chunks_so_19.ext E22
  have A19_22 : Exa Z h22 ri "com/example/earmark/earmark/ledger/RowIndex" := A19.ext E22
  have F_partBits_ri_22 : Fld Z h22 ri "com/example/earmark/earmark/ledger/RowIndex" "partBits" "I" (.int (0 : Int32)) := F_partBits_ri_19.ext E22
  have F_hashes_ri_22 : Fld Z h22 ri "com/example/earmark/earmark/ledger/RowIndex" "hashes" "Lcom/example/earmark/earmark/ledger/RowIndex$Hashes;" .null := F_hashes_ri_19.ext E22
  have F_parts_ri_22 : Fld Z h22 ri "com/example/earmark/earmark/ledger/RowIndex" "parts" "[[I" .null := F_parts_ri_19.ext E22
  have F_sizes_ri_22 : Fld Z h22 ri "com/example/earmark/earmark/ledger/RowIndex" "sizes" "[I" .null := F_sizes_ri_19.ext E22
  have sz_lm : h0.size ≤ lm := Nat.le_trans Kp19.1 (Nat.le_of_eq g22.symm)
  have Kp22 : Keep h0 h22 [so] := Kp19.ext E22
  have Z22 : n0 ≤ h22.size := Nat.le_trans Z19 E22.1
  have pre23 := fun τ (κ : Steps p.tables e below (T22.setTop (mkF m 37 #[.val (.ref so), .val (.ref li)] [(.ref lm), (.int (8 : Int32)), (.ref ri), (.ref ri), (.ref so)])) τ) => pre21 τ (st22 _ κ)
  obtain ⟨_, _, ⟨T24, L24, k24, n24⟩, -, X24, ⟨Lc24, hQ24, l24, y24, z24⟩, st24⟩ := X22.specialBack hx (y := (⟨"com/example/earmark/earmark/ledger/RowIndex", "<init>", "(ILcom/example/earmark/earmark/ledger/RowIndex$Hashes;)V"⟩ : MethodName)) rfl hown (mvT hZ (hw _ (List.mem_of_getElem? (i := 61) rfl))) (mvT hZ (hw _ (List.mem_of_getElem? (i := 62) rfl))) (mvT hZ (hw _ (List.mem_of_getElem? (i := 63) rfl))) (by decide) (backOf (W := 2) (rm6 l Z a0 hw [] ri lm nn h22 n0 Z22 O0_22 A19_22 g_ri Sn En F_partBits_ri_22 F_hashes_ri_22 F_parts_ri_22 F_sizes_ri_22) hZ (hw _ (List.mem_of_getElem? (i := 63) rfl)) (hw _ (List.mem_of_getElem? (i := 56) rfl)) (Nat.le_of_ble_eq_true rfl) (Nat.le_of_ble_eq_true rfl)) (g := (mkF m 37 #[.val (.ref so), .val (.ref li)] [(.ref lm), (.int (8 : Int32)), (.ref ri), (.ref ri), (.ref so)])) rfl (by rw [hml]; rfl) (Steps.refl _) (a := ri) (argsL := [(.int (8 : Int32)), (.ref lm)]) (rest := [(.ref ri), (.ref so)]) (lenOf pd_8 rfl) rfl (by show 2 * 0 + _ ≤ _; exact Nat.le_of_eq rfl) (hb hby d2_37) (fun _ _ => ⟨rfl, e22, (by decide : 11 + 2 ≤ _), (by decide : 125 + 512 ≤ _)⟩)
  dsimp only [Pt.U, Pt.locs, Pt.cells, Pt.slots] at X24 l24 y24 z24 st24 hQ24
  subst l24 y24 z24
  obtain ⟨rfl, Nq24, K24⟩ := hQ24
  have O0_24 : Old Z n0 T24.heap := O0_22.keep K24 (allS g_ri all0)
  have E_b_24 : Exa Z T24.heap eb "[B" := E_b_22.keep K24
  have Vb_24 : Arv Z T24.heap eb kb .byte (1 : Int32) [(.int (104 : Int32))] (.int (0 : Int32)) := Vb_22.keep K24 (ninS ne_eb_ri nin0)
  have E_l_24 : Exa Z T24.heap li "java/lang/String" := E_l_22.keep K24
  have Fc_24 : Fld Z T24.heap li "java/lang/String" "coder" "B" (.int (0 : Int32)) := Fc_22.keep K24 (ninS ne_li_ri nin0)
  have Fv_24 : Fld Z T24.heap li "java/lang/String" "value" "[B" (.ref eb) := Fv_22.keep K24 (ninS ne_li_ri nin0)
  have E_s_24 : Exa Z T24.heap so "com/example/earmark/earmark/ledger/HoldStates" := E_s_22.keep K24
  have F_index_24 : Fld Z T24.heap so "com/example/earmark/earmark/ledger/HoldStates" "index" "Lcom/example/earmark/earmark/ledger/RowIndex;" .null := F_index_22.keep K24 (ninS ne_so_ri nin0)
  have F_otherNumbers_24 : Fld Z T24.heap so "com/example/earmark/earmark/ledger/HoldStates" "otherNumbers" "Ljava/util/Map;" .null := F_otherNumbers_22.keep K24 (ninS ne_so_ri nin0)
  have F_otherIds_24 : Fld Z T24.heap so "com/example/earmark/earmark/ledger/HoldStates" "otherIds" "Ljava/util/Map;" .null := F_otherIds_22.keep K24 (ninS ne_so_ri nin0)
  have F_batched_24 : Fld Z T24.heap so "com/example/earmark/earmark/ledger/HoldStates" "batched" "[[J" .null := F_batched_22.keep K24 (ninS ne_so_ri nin0)
  have F_passed_24 : Fld Z T24.heap so "com/example/earmark/earmark/ledger/HoldStates" "passed" "[J" .null := F_passed_22.keep K24 (ninS ne_so_ri nin0)
  have F_prefix_24 : Fld Z T24.heap so "com/example/earmark/earmark/ledger/HoldStates" "prefix" "Ljava/lang/String;" .null := F_prefix_22.keep K24 (ninS ne_so_ri nin0)
  have F_prefixText_24 : Fld Z T24.heap so "com/example/earmark/earmark/ledger/HoldStates" "prefixText" "[B" .null := F_prefixText_22.keep K24 (ninS ne_so_ri nin0)
  have F_passedCount_24 : Fld Z T24.heap so "com/example/earmark/earmark/ledger/HoldStates" "passedCount" "I" (.int (0 : Int32)) := F_passedCount_22.keep K24 (ninS ne_so_ri nin0)
  have F_chunks_so_24 : Fld Z T24.heap so "com/example/earmark/earmark/ledger/HoldStates" "chunks" "[Lcom/example/earmark/earmark/ledger/HoldStates$Chunk;" (.ref ca) := F_chunks_so_22.keep K24 (ninS ne_so_ri nin0)
  have A19_24 : Exa Z T24.heap ri "com/example/earmark/earmark/ledger/RowIndex" := A19_22.keep K24
  have Z24 : n0 ≤ T24.heap.size := Nat.le_trans Z22 K24.1
  have Kp24 : Keep h0 T24.heap [so] := Kp22.trans K24 (allS (Or.inr sz_ri) all0)
  have N24 := Fr.app N16 Nq24
  have pre25 := fun τ (κ : Steps p.tables e below (T24.setTop (mkF m 40 #[.val (.ref so), .val (.ref li)] [(.ref ri), (.ref so)])) τ) => pre23 τ (st24.trans κ)
  obtain ⟨T26, h26, X26, e26, W26, st26⟩ := putF X24 hx hZ hown (host := "") (Or.inl (hw _ (List.mem_of_getElem? (i := 83) rfl))) Via.refl rfl F_index_24 E_s_24 (Or.inr ⟨(hw _ (List.mem_of_getElem? (i := 84) rfl)), rfl, hnm⟩) (hw _ (List.mem_of_getElem? (i := 5) rfl)) (ty := (.object "com/example/earmark/earmark/ledger/RowIndex")) (by decide) rfl rfl (g := (mkF m 40 #[.val (.ref so), .val (.ref li)] [(.ref ri), (.ref so)])) rfl rfl (hb hby d2_40)
  have O0_26 : Old Z n0 h26 := O0_24.wr W26 g_so
  have E_b_26 : Exa Z h26 eb "[B" := E_b_24.wr W26
  have Vb_26 : Arv Z h26 eb kb .byte (1 : Int32) [(.int (104 : Int32))] (.int (0 : Int32)) := Vb_24.other W26 hes
  have E_l_26 : Exa Z h26 li "java/lang/String" := E_l_24.wr W26
  have Fc_26 : Fld Z h26 li "java/lang/String" "coder" "B" (.int (0 : Int32)) := Fc_24.other W26 (Or.inl hls)
  have Fv_26 : Fld Z h26 li "java/lang/String" "value" "[B" (.ref eb) := Fv_24.other W26 (Or.inl hls)
  have E_s_26 : Exa Z h26 so "com/example/earmark/earmark/ledger/HoldStates" := E_s_24.wr W26
  have F_otherNumbers_26 : Fld Z h26 so "com/example/earmark/earmark/ledger/HoldStates" "otherNumbers" "Ljava/util/Map;" .null := F_otherNumbers_24.other W26 (Or.inr (slot_ne (Or.inr (hw _ (List.mem_of_getElem? (i := 102) rfl))) (Or.inr (hw _ (List.mem_of_getElem? (i := 84) rfl))) (by decide) (t := (.object "java/util/Map")) (t' := (.object "com/example/earmark/earmark/ledger/RowIndex")) (by decide) (by decide)))
  have F_otherIds_26 : Fld Z h26 so "com/example/earmark/earmark/ledger/HoldStates" "otherIds" "Ljava/util/Map;" .null := F_otherIds_24.other W26 (Or.inr (slot_ne (Or.inr (hw _ (List.mem_of_getElem? (i := 104) rfl))) (Or.inr (hw _ (List.mem_of_getElem? (i := 84) rfl))) (by decide) (t := (.object "java/util/Map")) (t' := (.object "com/example/earmark/earmark/ledger/RowIndex")) (by decide) (by decide)))
  have F_batched_26 : Fld Z h26 so "com/example/earmark/earmark/ledger/HoldStates" "batched" "[[J" .null := F_batched_24.other W26 (Or.inr (slot_ne (Or.inl (hw _ (List.mem_of_getElem? (i := 108) rfl))) (Or.inr (hw _ (List.mem_of_getElem? (i := 84) rfl))) (by decide) (t := (.array (.array .long))) (t' := (.object "com/example/earmark/earmark/ledger/RowIndex")) (by decide) (by decide)))
  have F_passed_26 : Fld Z h26 so "com/example/earmark/earmark/ledger/HoldStates" "passed" "[J" .null := F_passed_24.other W26 (Or.inr (slot_ne (Or.inl (hw _ (List.mem_of_getElem? (i := 110) rfl))) (Or.inr (hw _ (List.mem_of_getElem? (i := 84) rfl))) (by decide) (t := (.array .long)) (t' := (.object "com/example/earmark/earmark/ledger/RowIndex")) (by decide) (by decide)))
  have F_prefix_26 : Fld Z h26 so "com/example/earmark/earmark/ledger/HoldStates" "prefix" "Ljava/lang/String;" .null := F_prefix_24.other W26 (Or.inr (slot_ne (Or.inr (hw _ (List.mem_of_getElem? (i := 112) rfl))) (Or.inr (hw _ (List.mem_of_getElem? (i := 84) rfl))) (by decide) (t := (.object "java/lang/String")) (t' := (.object "com/example/earmark/earmark/ledger/RowIndex")) (by decide) (by decide)))
  have F_prefixText_26 : Fld Z h26 so "com/example/earmark/earmark/ledger/HoldStates" "prefixText" "[B" .null := F_prefixText_24.other W26 (Or.inr (slot_ne (Or.inr (hw _ (List.mem_of_getElem? (i := 151) rfl))) (Or.inr (hw _ (List.mem_of_getElem? (i := 84) rfl))) (by decide) (t := (.array .byte)) (t' := (.object "com/example/earmark/earmark/ledger/RowIndex")) (by decide) (by decide)))
  have F_passedCount_26 : Fld Z h26 so "com/example/earmark/earmark/ledger/HoldStates" "passedCount" "I" (.int (0 : Int32)) := F_passedCount_24.other W26 (Or.inr (slot_ne (Or.inl (hw _ (List.mem_of_getElem? (i := 158) rfl))) (Or.inr (hw _ (List.mem_of_getElem? (i := 84) rfl))) (by decide) (t := .int) (t' := (.object "com/example/earmark/earmark/ledger/RowIndex")) (by decide) (by decide)))
  have F_chunks_so_26 : Fld Z h26 so "com/example/earmark/earmark/ledger/HoldStates" "chunks" "[Lcom/example/earmark/earmark/ledger/HoldStates$Chunk;" (.ref ca) := F_chunks_so_24.other W26 (Or.inr (slot_ne (Or.inl (hw _ (List.mem_of_getElem? (i := 53) rfl))) (Or.inr (hw _ (List.mem_of_getElem? (i := 84) rfl))) (by decide) (t := (.array (.object "com/example/earmark/earmark/ledger/HoldStates$Chunk"))) (t' := (.object "com/example/earmark/earmark/ledger/RowIndex")) (by decide) (by decide)))
  have A19_26 : Exa Z h26 ri "com/example/earmark/earmark/ledger/RowIndex" := A19_24.wr W26
  have Kp26 : Keep h0 h26 [so] := Kp24.wr W26 (Or.inl (List.mem_of_getElem? (i := 0) rfl))
  have N26 := Fr.snoc X26 N24 g_so
  have Z26 : n0 ≤ h26.size := Nat.le_trans Z24 (Keep.of_wr W26).1
  have F_index_so_26 : Fld Z h26 so "com/example/earmark/earmark/ledger/HoldStates" "index" "Lcom/example/earmark/earmark/ledger/RowIndex;" (.ref ri) := F_index_24.same W26
  have pre27 := fun τ (κ : Steps p.tables e below (T26.setTop (mkF m 43 #[.val (.ref so), .val (.ref li)] [])) τ) => pre25 τ (st26 _ κ)
  have pre28 := fun τ (κ : Steps p.tables e below (T26.setTop (mkF m 44 #[.val (.ref so), .val (.ref li)] [(.ref so)])) τ) => pre27 τ (by
    refine XS.aloadN X26.here hx rfl (hb hby d2_43) rfl rfl ?_
    show Steps p.tables e below (T26.setTop (mkF m 44 #[.val (.ref so), .val (.ref li)] [(.ref so)])) _
    exact κ)
  obtain ⟨T29, h29, X29, e29, E29, A29, D29, -, st29⟩ := newO X26 hx hZ hown (hw _ (List.mem_of_getElem? (i := 85) rfl)) (hw _ (List.mem_of_getElem? (i := 86) rfl)) (hw _ (List.mem_of_getElem? (i := 87) rfl)) e26 (g := (mkF m 44 #[.val (.ref so), .val (.ref li)] [(.ref so)])) rfl (hb hby d2_44) (by decide) (by decide)
  obtain ⟨m1, g29⟩ : ∃ z, z = h26.size := ⟨_, rfl⟩
  rw [← g29] at A29 D29 st29
  have g_m1 : n0 ≤ m1 := Nat.le_trans Z26 (Nat.le_of_eq g29.symm)
  have ne_eb_m1 : eb ≠ m1 := Nat.ne_of_lt (Nat.lt_of_lt_of_le E_b_26.lt (Nat.le_of_eq g29.symm))
  have ne_li_m1 : li ≠ m1 := Nat.ne_of_lt (Nat.lt_of_lt_of_le E_l_26.lt (Nat.le_of_eq g29.symm))
  have ne_so_m1 : so ≠ m1 := Nat.ne_of_lt (Nat.lt_of_lt_of_le E_s_26.lt (Nat.le_of_eq g29.symm))
  have O0_29 : Old Z n0 h29 := O0_26.ext E29
  have E_b_29 : Exa Z h29 eb "[B" := E_b_26.ext E29
  have Vb_29 : Arv Z h29 eb kb .byte (1 : Int32) [(.int (104 : Int32))] (.int (0 : Int32)) := Vb_26.ext E29
  have E_l_29 : Exa Z h29 li "java/lang/String" := E_l_26.ext E29
  have Fc_29 : Fld Z h29 li "java/lang/String" "coder" "B" (.int (0 : Int32)) := Fc_26.ext E29
  have Fv_29 : Fld Z h29 li "java/lang/String" "value" "[B" (.ref eb) := Fv_26.ext E29
  have E_s_29 : Exa Z h29 so "com/example/earmark/earmark/ledger/HoldStates" := E_s_26.ext E29
  have F_otherNumbers_29 : Fld Z h29 so "com/example/earmark/earmark/ledger/HoldStates" "otherNumbers" "Ljava/util/Map;" .null := F_otherNumbers_26.ext E29
  have F_otherIds_29 : Fld Z h29 so "com/example/earmark/earmark/ledger/HoldStates" "otherIds" "Ljava/util/Map;" .null := F_otherIds_26.ext E29
  have F_batched_29 : Fld Z h29 so "com/example/earmark/earmark/ledger/HoldStates" "batched" "[[J" .null := F_batched_26.ext E29
  have F_passed_29 : Fld Z h29 so "com/example/earmark/earmark/ledger/HoldStates" "passed" "[J" .null := F_passed_26.ext E29
  have F_prefix_29 : Fld Z h29 so "com/example/earmark/earmark/ledger/HoldStates" "prefix" "Ljava/lang/String;" .null := F_prefix_26.ext E29
  have F_prefixText_29 : Fld Z h29 so "com/example/earmark/earmark/ledger/HoldStates" "prefixText" "[B" .null := F_prefixText_26.ext E29
  have F_passedCount_29 : Fld Z h29 so "com/example/earmark/earmark/ledger/HoldStates" "passedCount" "I" (.int (0 : Int32)) := F_passedCount_26.ext E29
  have F_chunks_so_29 : Fld Z h29 so "com/example/earmark/earmark/ledger/HoldStates" "chunks" "[Lcom/example/earmark/earmark/ledger/HoldStates$Chunk;" (.ref ca) := F_chunks_so_26.ext E29
  have F_index_so_29 : Fld Z h29 so "com/example/earmark/earmark/ledger/HoldStates" "index" "Lcom/example/earmark/earmark/ledger/RowIndex;" (.ref ri) := F_index_so_26.ext E29
  have sz_m1 : h0.size ≤ m1 := Nat.le_trans Kp26.1 (Nat.le_of_eq g29.symm)
  have Kp29 : Keep h0 h29 [so] := Kp26.ext E29
  have Z29 : n0 ≤ h29.size := Nat.le_trans Z26 E29.1
  have F_loadFactor_m1_29 : Fld Z h29 m1 "java/util/HashMap" "loadFactor" "F" (.float (0 : UInt32)) := D29 (Or.inr (hw _ (List.mem_of_getElem? (i := 100) rfl))) (ty := .float) (by decide)
  have pre30 := fun τ (κ : Steps p.tables e below (T29.setTop (mkF m 47 #[.val (.ref so), .val (.ref li)] [(.ref m1), (.ref so)])) τ) => pre28 τ (st29 _ κ)
  have pre31 := fun τ (κ : Steps p.tables e below (T29.setTop (mkF m 48 #[.val (.ref so), .val (.ref li)] [(.ref m1), (.ref m1), (.ref so)])) τ) => pre30 τ (by
    refine XS.dup X29.here hx rfl (hb hby d2_47) rfl rfl ?_
    show Steps p.tables e below (T29.setTop (mkF m 48 #[.val (.ref so), .val (.ref li)] [(.ref m1), (.ref m1), (.ref so)])) _
    exact κ)
  obtain ⟨_, _, ⟨T32, L32, k32, n32⟩, -, X32, ⟨Lc32, hQ32, l32, y32, z32⟩, st32⟩ := X29.specialBack hx (y := (⟨"java/util/HashMap", "<init>", "()V"⟩ : MethodName)) rfl hown (mvT hZ (hw _ (List.mem_of_getElem? (i := 88) rfl))) (mvT hZ (hw _ (List.mem_of_getElem? (i := 89) rfl))) (mvT hZ (hw _ (List.mem_of_getElem? (i := 90) rfl))) (by decide) (backOf (W := 2) (rm8 l Z a0 hw [] m1 h29 n0 Z29 A29 g_m1 F_loadFactor_m1_29) hZ (hw _ (List.mem_of_getElem? (i := 90) rfl)) (hw _ (List.mem_of_getElem? (i := 87) rfl)) (Nat.le_of_ble_eq_true rfl) (Nat.le_of_ble_eq_true rfl)) (g := (mkF m 48 #[.val (.ref so), .val (.ref li)] [(.ref m1), (.ref m1), (.ref so)])) rfl (by rw [hml]; rfl) (Steps.refl _) (a := m1) (argsL := []) (rest := [(.ref m1), (.ref so)]) (lenOf pd_2 rfl) rfl (by show 2 * 0 + _ ≤ _; exact Nat.le_of_eq rfl) (hb hby d2_48) (fun _ _ => ⟨rfl, e29, (by decide : 14 + 0 ≤ _), (by decide : 645 + 0 ≤ _)⟩)
  dsimp only [Pt.U, Pt.locs, Pt.cells, Pt.slots] at X32 l32 y32 z32 st32 hQ32
  subst l32 y32 z32
  obtain ⟨rfl, Nq32, K32⟩ := hQ32
  have O0_32 : Old Z n0 T32.heap := O0_29.keep K32 (allS g_m1 all0)
  have E_b_32 : Exa Z T32.heap eb "[B" := E_b_29.keep K32
  have Vb_32 : Arv Z T32.heap eb kb .byte (1 : Int32) [(.int (104 : Int32))] (.int (0 : Int32)) := Vb_29.keep K32 (ninS ne_eb_m1 nin0)
  have E_l_32 : Exa Z T32.heap li "java/lang/String" := E_l_29.keep K32
  have Fc_32 : Fld Z T32.heap li "java/lang/String" "coder" "B" (.int (0 : Int32)) := Fc_29.keep K32 (ninS ne_li_m1 nin0)
  have Fv_32 : Fld Z T32.heap li "java/lang/String" "value" "[B" (.ref eb) := Fv_29.keep K32 (ninS ne_li_m1 nin0)
  have E_s_32 : Exa Z T32.heap so "com/example/earmark/earmark/ledger/HoldStates" := E_s_29.keep K32
  have F_otherNumbers_32 : Fld Z T32.heap so "com/example/earmark/earmark/ledger/HoldStates" "otherNumbers" "Ljava/util/Map;" .null := F_otherNumbers_29.keep K32 (ninS ne_so_m1 nin0)
  have F_otherIds_32 : Fld Z T32.heap so "com/example/earmark/earmark/ledger/HoldStates" "otherIds" "Ljava/util/Map;" .null := F_otherIds_29.keep K32 (ninS ne_so_m1 nin0)
  have F_batched_32 : Fld Z T32.heap so "com/example/earmark/earmark/ledger/HoldStates" "batched" "[[J" .null := F_batched_29.keep K32 (ninS ne_so_m1 nin0)
  have F_passed_32 : Fld Z T32.heap so "com/example/earmark/earmark/ledger/HoldStates" "passed" "[J" .null := F_passed_29.keep K32 (ninS ne_so_m1 nin0)
  have F_prefix_32 : Fld Z T32.heap so "com/example/earmark/earmark/ledger/HoldStates" "prefix" "Ljava/lang/String;" .null := F_prefix_29.keep K32 (ninS ne_so_m1 nin0)
  have F_prefixText_32 : Fld Z T32.heap so "com/example/earmark/earmark/ledger/HoldStates" "prefixText" "[B" .null := F_prefixText_29.keep K32 (ninS ne_so_m1 nin0)
  have F_passedCount_32 : Fld Z T32.heap so "com/example/earmark/earmark/ledger/HoldStates" "passedCount" "I" (.int (0 : Int32)) := F_passedCount_29.keep K32 (ninS ne_so_m1 nin0)
  have F_chunks_so_32 : Fld Z T32.heap so "com/example/earmark/earmark/ledger/HoldStates" "chunks" "[Lcom/example/earmark/earmark/ledger/HoldStates$Chunk;" (.ref ca) := F_chunks_so_29.keep K32 (ninS ne_so_m1 nin0)
  have F_index_so_32 : Fld Z T32.heap so "com/example/earmark/earmark/ledger/HoldStates" "index" "Lcom/example/earmark/earmark/ledger/RowIndex;" (.ref ri) := F_index_so_29.keep K32 (ninS ne_so_m1 nin0)
  have A29_32 : Exa Z T32.heap m1 "java/util/HashMap" := A29.keep K32
  have Z32 : n0 ≤ T32.heap.size := Nat.le_trans Z29 K32.1
  have Kp32 : Keep h0 T32.heap [so] := Kp29.trans K32 (allS (Or.inr sz_m1) all0)
  have N32 := Fr.app N26 Nq32
  have pre33 := fun τ (κ : Steps p.tables e below (T32.setTop (mkF m 51 #[.val (.ref so), .val (.ref li)] [(.ref m1), (.ref so)])) τ) => pre31 τ (st32.trans κ)
  obtain ⟨T34, h34, X34, e34, W34, st34⟩ := putF X32 hx hZ hown (host := "") (Or.inl (hw _ (List.mem_of_getElem? (i := 101) rfl))) Via.refl rfl F_otherNumbers_32 E_s_32 (Or.inr ⟨(hw _ (List.mem_of_getElem? (i := 102) rfl)), rfl, hnm⟩) (hw _ (List.mem_of_getElem? (i := 5) rfl)) (ty := (.object "java/util/Map")) (by decide) rfl rfl (g := (mkF m 51 #[.val (.ref so), .val (.ref li)] [(.ref m1), (.ref so)])) rfl rfl (hb hby d2_51)
  have O0_34 : Old Z n0 h34 := O0_32.wr W34 g_so
  have E_b_34 : Exa Z h34 eb "[B" := E_b_32.wr W34
  have Vb_34 : Arv Z h34 eb kb .byte (1 : Int32) [(.int (104 : Int32))] (.int (0 : Int32)) := Vb_32.other W34 hes
  have E_l_34 : Exa Z h34 li "java/lang/String" := E_l_32.wr W34
  have Fc_34 : Fld Z h34 li "java/lang/String" "coder" "B" (.int (0 : Int32)) := Fc_32.other W34 (Or.inl hls)
  have Fv_34 : Fld Z h34 li "java/lang/String" "value" "[B" (.ref eb) := Fv_32.other W34 (Or.inl hls)
  have E_s_34 : Exa Z h34 so "com/example/earmark/earmark/ledger/HoldStates" := E_s_32.wr W34
  have F_otherIds_34 : Fld Z h34 so "com/example/earmark/earmark/ledger/HoldStates" "otherIds" "Ljava/util/Map;" .null := F_otherIds_32.other W34 (Or.inr (slot_ne (Or.inr (hw _ (List.mem_of_getElem? (i := 104) rfl))) (Or.inr (hw _ (List.mem_of_getElem? (i := 102) rfl))) (by decide) (t := (.object "java/util/Map")) (t' := (.object "java/util/Map")) (by decide) (by decide)))
  have F_batched_34 : Fld Z h34 so "com/example/earmark/earmark/ledger/HoldStates" "batched" "[[J" .null := F_batched_32.other W34 (Or.inr (slot_ne (Or.inl (hw _ (List.mem_of_getElem? (i := 108) rfl))) (Or.inr (hw _ (List.mem_of_getElem? (i := 102) rfl))) (by decide) (t := (.array (.array .long))) (t' := (.object "java/util/Map")) (by decide) (by decide)))
  have F_passed_34 : Fld Z h34 so "com/example/earmark/earmark/ledger/HoldStates" "passed" "[J" .null := F_passed_32.other W34 (Or.inr (slot_ne (Or.inl (hw _ (List.mem_of_getElem? (i := 110) rfl))) (Or.inr (hw _ (List.mem_of_getElem? (i := 102) rfl))) (by decide) (t := (.array .long)) (t' := (.object "java/util/Map")) (by decide) (by decide)))
  have F_prefix_34 : Fld Z h34 so "com/example/earmark/earmark/ledger/HoldStates" "prefix" "Ljava/lang/String;" .null := F_prefix_32.other W34 (Or.inr (slot_ne (Or.inr (hw _ (List.mem_of_getElem? (i := 112) rfl))) (Or.inr (hw _ (List.mem_of_getElem? (i := 102) rfl))) (by decide) (t := (.object "java/lang/String")) (t' := (.object "java/util/Map")) (by decide) (by decide)))
  have F_prefixText_34 : Fld Z h34 so "com/example/earmark/earmark/ledger/HoldStates" "prefixText" "[B" .null := F_prefixText_32.other W34 (Or.inr (slot_ne (Or.inr (hw _ (List.mem_of_getElem? (i := 151) rfl))) (Or.inr (hw _ (List.mem_of_getElem? (i := 102) rfl))) (by decide) (t := (.array .byte)) (t' := (.object "java/util/Map")) (by decide) (by decide)))
  have F_passedCount_34 : Fld Z h34 so "com/example/earmark/earmark/ledger/HoldStates" "passedCount" "I" (.int (0 : Int32)) := F_passedCount_32.other W34 (Or.inr (slot_ne (Or.inl (hw _ (List.mem_of_getElem? (i := 158) rfl))) (Or.inr (hw _ (List.mem_of_getElem? (i := 102) rfl))) (by decide) (t := .int) (t' := (.object "java/util/Map")) (by decide) (by decide)))
  have F_chunks_so_34 : Fld Z h34 so "com/example/earmark/earmark/ledger/HoldStates" "chunks" "[Lcom/example/earmark/earmark/ledger/HoldStates$Chunk;" (.ref ca) := F_chunks_so_32.other W34 (Or.inr (slot_ne (Or.inl (hw _ (List.mem_of_getElem? (i := 53) rfl))) (Or.inr (hw _ (List.mem_of_getElem? (i := 102) rfl))) (by decide) (t := (.array (.object "com/example/earmark/earmark/ledger/HoldStates$Chunk"))) (t' := (.object "java/util/Map")) (by decide) (by decide)))
  have F_index_so_34 : Fld Z h34 so "com/example/earmark/earmark/ledger/HoldStates" "index" "Lcom/example/earmark/earmark/ledger/RowIndex;" (.ref ri) := F_index_so_32.other W34 (Or.inr (slot_ne (Or.inr (hw _ (List.mem_of_getElem? (i := 84) rfl))) (Or.inr (hw _ (List.mem_of_getElem? (i := 102) rfl))) (by decide) (t := (.object "com/example/earmark/earmark/ledger/RowIndex")) (t' := (.object "java/util/Map")) (by decide) (by decide)))
  have A29_34 : Exa Z h34 m1 "java/util/HashMap" := A29_32.wr W34
  have Kp34 : Keep h0 h34 [so] := Kp32.wr W34 (Or.inl (List.mem_of_getElem? (i := 0) rfl))
  have N34 := Fr.snoc X34 N32 g_so
  have Z34 : n0 ≤ h34.size := Nat.le_trans Z32 (Keep.of_wr W34).1
  have F_otherNumbers_so_34 : Fld Z h34 so "com/example/earmark/earmark/ledger/HoldStates" "otherNumbers" "Ljava/util/Map;" (.ref m1) := F_otherNumbers_32.same W34
  have pre35 := fun τ (κ : Steps p.tables e below (T34.setTop (mkF m 54 #[.val (.ref so), .val (.ref li)] [])) τ) => pre33 τ (st34 _ κ)
  have pre36 := fun τ (κ : Steps p.tables e below (T34.setTop (mkF m 55 #[.val (.ref so), .val (.ref li)] [(.ref so)])) τ) => pre35 τ (by
    refine XS.aloadN X34.here hx rfl (hb hby d2_54) rfl rfl ?_
    show Steps p.tables e below (T34.setTop (mkF m 55 #[.val (.ref so), .val (.ref li)] [(.ref so)])) _
    exact κ)
  obtain ⟨T37, h37, X37, e37, E37, A37, D37, -, st37⟩ := newO X34 hx hZ hown (hw _ (List.mem_of_getElem? (i := 85) rfl)) (hw _ (List.mem_of_getElem? (i := 86) rfl)) (hw _ (List.mem_of_getElem? (i := 87) rfl)) e34 (g := (mkF m 55 #[.val (.ref so), .val (.ref li)] [(.ref so)])) rfl (hb hby d2_55) (by decide) (by decide)
  obtain ⟨m2, g37⟩ : ∃ z, z = h34.size := ⟨_, rfl⟩
  rw [← g37] at A37 D37 st37
  have g_m2 : n0 ≤ m2 := Nat.le_trans Z34 (Nat.le_of_eq g37.symm)
  have ne_eb_m2 : eb ≠ m2 := Nat.ne_of_lt (Nat.lt_of_lt_of_le E_b_34.lt (Nat.le_of_eq g37.symm))
  have ne_li_m2 : li ≠ m2 := Nat.ne_of_lt (Nat.lt_of_lt_of_le E_l_34.lt (Nat.le_of_eq g37.symm))
  have ne_so_m2 : so ≠ m2 := Nat.ne_of_lt (Nat.lt_of_lt_of_le E_s_34.lt (Nat.le_of_eq g37.symm))
  have O0_37 : Old Z n0 h37 := O0_34.ext E37
  have E_b_37 : Exa Z h37 eb "[B" := E_b_34.ext E37
  have Vb_37 : Arv Z h37 eb kb .byte (1 : Int32) [(.int (104 : Int32))] (.int (0 : Int32)) := Vb_34.ext E37
  have E_l_37 : Exa Z h37 li "java/lang/String" := E_l_34.ext E37
  have Fc_37 : Fld Z h37 li "java/lang/String" "coder" "B" (.int (0 : Int32)) := Fc_34.ext E37
  have Fv_37 : Fld Z h37 li "java/lang/String" "value" "[B" (.ref eb) := Fv_34.ext E37
  have E_s_37 : Exa Z h37 so "com/example/earmark/earmark/ledger/HoldStates" := E_s_34.ext E37
  have F_otherIds_37 : Fld Z h37 so "com/example/earmark/earmark/ledger/HoldStates" "otherIds" "Ljava/util/Map;" .null := F_otherIds_34.ext E37
  have F_batched_37 : Fld Z h37 so "com/example/earmark/earmark/ledger/HoldStates" "batched" "[[J" .null := F_batched_34.ext E37
  have F_passed_37 : Fld Z h37 so "com/example/earmark/earmark/ledger/HoldStates" "passed" "[J" .null := F_passed_34.ext E37
  have F_prefix_37 : Fld Z h37 so "com/example/earmark/earmark/ledger/HoldStates" "prefix" "Ljava/lang/String;" .null := F_prefix_34.ext E37
  have F_prefixText_37 : Fld Z h37 so "com/example/earmark/earmark/ledger/HoldStates" "prefixText" "[B" .null := F_prefixText_34.ext E37
  have F_passedCount_37 : Fld Z h37 so "com/example/earmark/earmark/ledger/HoldStates" "passedCount" "I" (.int (0 : Int32)) := F_passedCount_34.ext E37
  have F_chunks_so_37 : Fld Z h37 so "com/example/earmark/earmark/ledger/HoldStates" "chunks" "[Lcom/example/earmark/earmark/ledger/HoldStates$Chunk;" (.ref ca) := F_chunks_so_34.ext E37
  have F_index_so_37 : Fld Z h37 so "com/example/earmark/earmark/ledger/HoldStates" "index" "Lcom/example/earmark/earmark/ledger/RowIndex;" (.ref ri) := F_index_so_34.ext E37
  have F_otherNumbers_so_37 : Fld Z h37 so "com/example/earmark/earmark/ledger/HoldStates" "otherNumbers" "Ljava/util/Map;" (.ref m1) := F_otherNumbers_so_34.ext E37
  have sz_m2 : h0.size ≤ m2 := Nat.le_trans Kp34.1 (Nat.le_of_eq g37.symm)
  have Kp37 : Keep h0 h37 [so] := Kp34.ext E37
  have Z37 : n0 ≤ h37.size := Nat.le_trans Z34 E37.1
  have F_loadFactor_m2_37 : Fld Z h37 m2 "java/util/HashMap" "loadFactor" "F" (.float (0 : UInt32)) := D37 (Or.inr (hw _ (List.mem_of_getElem? (i := 100) rfl))) (ty := .float) (by decide)
  have pre38 := fun τ (κ : Steps p.tables e below (T37.setTop (mkF m 58 #[.val (.ref so), .val (.ref li)] [(.ref m2), (.ref so)])) τ) => pre36 τ (st37 _ κ)
  have pre39 := fun τ (κ : Steps p.tables e below (T37.setTop (mkF m 59 #[.val (.ref so), .val (.ref li)] [(.ref m2), (.ref m2), (.ref so)])) τ) => pre38 τ (by
    refine XS.dup X37.here hx rfl (hb hby d2_58) rfl rfl ?_
    show Steps p.tables e below (T37.setTop (mkF m 59 #[.val (.ref so), .val (.ref li)] [(.ref m2), (.ref m2), (.ref so)])) _
    exact κ)
  obtain ⟨_, _, ⟨T40, L40, k40, n40⟩, -, X40, ⟨Lc40, hQ40, l40, y40, z40⟩, st40⟩ := X37.specialBack hx (y := (⟨"java/util/HashMap", "<init>", "()V"⟩ : MethodName)) rfl hown (mvT hZ (hw _ (List.mem_of_getElem? (i := 88) rfl))) (mvT hZ (hw _ (List.mem_of_getElem? (i := 89) rfl))) (mvT hZ (hw _ (List.mem_of_getElem? (i := 90) rfl))) (by decide) (backOf (W := 2) (rm8 l Z a0 hw [] m2 h37 n0 Z37 A37 g_m2 F_loadFactor_m2_37) hZ (hw _ (List.mem_of_getElem? (i := 90) rfl)) (hw _ (List.mem_of_getElem? (i := 87) rfl)) (Nat.le_of_ble_eq_true rfl) (Nat.le_of_ble_eq_true rfl)) (g := (mkF m 59 #[.val (.ref so), .val (.ref li)] [(.ref m2), (.ref m2), (.ref so)])) rfl (by rw [hml]; rfl) (Steps.refl _) (a := m2) (argsL := []) (rest := [(.ref m2), (.ref so)]) (lenOf pd_2 rfl) rfl (by show 2 * 0 + _ ≤ _; exact Nat.le_of_eq rfl) (hb hby d2_59) (fun _ _ => ⟨rfl, e37, (by decide : 15 + 0 ≤ _), (by decide : 653 + 0 ≤ _)⟩)
  dsimp only [Pt.U, Pt.locs, Pt.cells, Pt.slots] at X40 l40 y40 z40 st40 hQ40
  subst l40 y40 z40
  obtain ⟨rfl, Nq40, K40⟩ := hQ40
  have O0_40 : Old Z n0 T40.heap := O0_37.keep K40 (allS g_m2 all0)
  have E_b_40 : Exa Z T40.heap eb "[B" := E_b_37.keep K40
  have Vb_40 : Arv Z T40.heap eb kb .byte (1 : Int32) [(.int (104 : Int32))] (.int (0 : Int32)) := Vb_37.keep K40 (ninS ne_eb_m2 nin0)
  have E_l_40 : Exa Z T40.heap li "java/lang/String" := E_l_37.keep K40
  have Fc_40 : Fld Z T40.heap li "java/lang/String" "coder" "B" (.int (0 : Int32)) := Fc_37.keep K40 (ninS ne_li_m2 nin0)
  have Fv_40 : Fld Z T40.heap li "java/lang/String" "value" "[B" (.ref eb) := Fv_37.keep K40 (ninS ne_li_m2 nin0)
  have E_s_40 : Exa Z T40.heap so "com/example/earmark/earmark/ledger/HoldStates" := E_s_37.keep K40
  have F_otherIds_40 : Fld Z T40.heap so "com/example/earmark/earmark/ledger/HoldStates" "otherIds" "Ljava/util/Map;" .null := F_otherIds_37.keep K40 (ninS ne_so_m2 nin0)
  have F_batched_40 : Fld Z T40.heap so "com/example/earmark/earmark/ledger/HoldStates" "batched" "[[J" .null := F_batched_37.keep K40 (ninS ne_so_m2 nin0)
  have F_passed_40 : Fld Z T40.heap so "com/example/earmark/earmark/ledger/HoldStates" "passed" "[J" .null := F_passed_37.keep K40 (ninS ne_so_m2 nin0)
  have F_prefix_40 : Fld Z T40.heap so "com/example/earmark/earmark/ledger/HoldStates" "prefix" "Ljava/lang/String;" .null := F_prefix_37.keep K40 (ninS ne_so_m2 nin0)
  have F_prefixText_40 : Fld Z T40.heap so "com/example/earmark/earmark/ledger/HoldStates" "prefixText" "[B" .null := F_prefixText_37.keep K40 (ninS ne_so_m2 nin0)
  have F_passedCount_40 : Fld Z T40.heap so "com/example/earmark/earmark/ledger/HoldStates" "passedCount" "I" (.int (0 : Int32)) := F_passedCount_37.keep K40 (ninS ne_so_m2 nin0)
  have F_chunks_so_40 : Fld Z T40.heap so "com/example/earmark/earmark/ledger/HoldStates" "chunks" "[Lcom/example/earmark/earmark/ledger/HoldStates$Chunk;" (.ref ca) := F_chunks_so_37.keep K40 (ninS ne_so_m2 nin0)
  have F_index_so_40 : Fld Z T40.heap so "com/example/earmark/earmark/ledger/HoldStates" "index" "Lcom/example/earmark/earmark/ledger/RowIndex;" (.ref ri) := F_index_so_37.keep K40 (ninS ne_so_m2 nin0)
  have F_otherNumbers_so_40 : Fld Z T40.heap so "com/example/earmark/earmark/ledger/HoldStates" "otherNumbers" "Ljava/util/Map;" (.ref m1) := F_otherNumbers_so_37.keep K40 (ninS ne_so_m2 nin0)
  have A37_40 : Exa Z T40.heap m2 "java/util/HashMap" := A37.keep K40
  have Z40 : n0 ≤ T40.heap.size := Nat.le_trans Z37 K40.1
  have Kp40 : Keep h0 T40.heap [so] := Kp37.trans K40 (allS (Or.inr sz_m2) all0)
  have N40 := Fr.app N34 Nq40
  have pre41 := fun τ (κ : Steps p.tables e below (T40.setTop (mkF m 62 #[.val (.ref so), .val (.ref li)] [(.ref m2), (.ref so)])) τ) => pre39 τ (st40.trans κ)
  obtain ⟨T42, h42, X42, e42, W42, st42⟩ := putF X40 hx hZ hown (host := "") (Or.inl (hw _ (List.mem_of_getElem? (i := 103) rfl))) Via.refl rfl F_otherIds_40 E_s_40 (Or.inr ⟨(hw _ (List.mem_of_getElem? (i := 104) rfl)), rfl, hnm⟩) (hw _ (List.mem_of_getElem? (i := 5) rfl)) (ty := (.object "java/util/Map")) (by decide) rfl rfl (g := (mkF m 62 #[.val (.ref so), .val (.ref li)] [(.ref m2), (.ref so)])) rfl rfl (hb hby d2_62)
  have O0_42 : Old Z n0 h42 := O0_40.wr W42 g_so
  have E_b_42 : Exa Z h42 eb "[B" := E_b_40.wr W42
  have Vb_42 : Arv Z h42 eb kb .byte (1 : Int32) [(.int (104 : Int32))] (.int (0 : Int32)) := Vb_40.other W42 hes
  have E_l_42 : Exa Z h42 li "java/lang/String" := E_l_40.wr W42
  have Fc_42 : Fld Z h42 li "java/lang/String" "coder" "B" (.int (0 : Int32)) := Fc_40.other W42 (Or.inl hls)
  have Fv_42 : Fld Z h42 li "java/lang/String" "value" "[B" (.ref eb) := Fv_40.other W42 (Or.inl hls)
  have E_s_42 : Exa Z h42 so "com/example/earmark/earmark/ledger/HoldStates" := E_s_40.wr W42
  have F_batched_42 : Fld Z h42 so "com/example/earmark/earmark/ledger/HoldStates" "batched" "[[J" .null := F_batched_40.other W42 (Or.inr (slot_ne (Or.inl (hw _ (List.mem_of_getElem? (i := 108) rfl))) (Or.inr (hw _ (List.mem_of_getElem? (i := 104) rfl))) (by decide) (t := (.array (.array .long))) (t' := (.object "java/util/Map")) (by decide) (by decide)))
  have F_passed_42 : Fld Z h42 so "com/example/earmark/earmark/ledger/HoldStates" "passed" "[J" .null := F_passed_40.other W42 (Or.inr (slot_ne (Or.inl (hw _ (List.mem_of_getElem? (i := 110) rfl))) (Or.inr (hw _ (List.mem_of_getElem? (i := 104) rfl))) (by decide) (t := (.array .long)) (t' := (.object "java/util/Map")) (by decide) (by decide)))
  have F_prefix_42 : Fld Z h42 so "com/example/earmark/earmark/ledger/HoldStates" "prefix" "Ljava/lang/String;" .null := F_prefix_40.other W42 (Or.inr (slot_ne (Or.inr (hw _ (List.mem_of_getElem? (i := 112) rfl))) (Or.inr (hw _ (List.mem_of_getElem? (i := 104) rfl))) (by decide) (t := (.object "java/lang/String")) (t' := (.object "java/util/Map")) (by decide) (by decide)))
  have F_prefixText_42 : Fld Z h42 so "com/example/earmark/earmark/ledger/HoldStates" "prefixText" "[B" .null := F_prefixText_40.other W42 (Or.inr (slot_ne (Or.inr (hw _ (List.mem_of_getElem? (i := 151) rfl))) (Or.inr (hw _ (List.mem_of_getElem? (i := 104) rfl))) (by decide) (t := (.array .byte)) (t' := (.object "java/util/Map")) (by decide) (by decide)))
  have F_passedCount_42 : Fld Z h42 so "com/example/earmark/earmark/ledger/HoldStates" "passedCount" "I" (.int (0 : Int32)) := F_passedCount_40.other W42 (Or.inr (slot_ne (Or.inl (hw _ (List.mem_of_getElem? (i := 158) rfl))) (Or.inr (hw _ (List.mem_of_getElem? (i := 104) rfl))) (by decide) (t := .int) (t' := (.object "java/util/Map")) (by decide) (by decide)))
  have F_chunks_so_42 : Fld Z h42 so "com/example/earmark/earmark/ledger/HoldStates" "chunks" "[Lcom/example/earmark/earmark/ledger/HoldStates$Chunk;" (.ref ca) := F_chunks_so_40.other W42 (Or.inr (slot_ne (Or.inl (hw _ (List.mem_of_getElem? (i := 53) rfl))) (Or.inr (hw _ (List.mem_of_getElem? (i := 104) rfl))) (by decide) (t := (.array (.object "com/example/earmark/earmark/ledger/HoldStates$Chunk"))) (t' := (.object "java/util/Map")) (by decide) (by decide)))
  have F_index_so_42 : Fld Z h42 so "com/example/earmark/earmark/ledger/HoldStates" "index" "Lcom/example/earmark/earmark/ledger/RowIndex;" (.ref ri) := F_index_so_40.other W42 (Or.inr (slot_ne (Or.inr (hw _ (List.mem_of_getElem? (i := 84) rfl))) (Or.inr (hw _ (List.mem_of_getElem? (i := 104) rfl))) (by decide) (t := (.object "com/example/earmark/earmark/ledger/RowIndex")) (t' := (.object "java/util/Map")) (by decide) (by decide)))
  have F_otherNumbers_so_42 : Fld Z h42 so "com/example/earmark/earmark/ledger/HoldStates" "otherNumbers" "Ljava/util/Map;" (.ref m1) := F_otherNumbers_so_40.other W42 (Or.inr (slot_ne (Or.inr (hw _ (List.mem_of_getElem? (i := 102) rfl))) (Or.inr (hw _ (List.mem_of_getElem? (i := 104) rfl))) (by decide) (t := (.object "java/util/Map")) (t' := (.object "java/util/Map")) (by decide) (by decide)))
  have A37_42 : Exa Z h42 m2 "java/util/HashMap" := A37_40.wr W42
  have Kp42 : Keep h0 h42 [so] := Kp40.wr W42 (Or.inl (List.mem_of_getElem? (i := 0) rfl))
  have N42 := Fr.snoc X42 N40 g_so
  have Z42 : n0 ≤ h42.size := Nat.le_trans Z40 (Keep.of_wr W42).1
  have F_otherIds_so_42 : Fld Z h42 so "com/example/earmark/earmark/ledger/HoldStates" "otherIds" "Ljava/util/Map;" (.ref m2) := F_otherIds_40.same W42
  have pre43 := fun τ (κ : Steps p.tables e below (T42.setTop (mkF m 65 #[.val (.ref so), .val (.ref li)] [])) τ) => pre41 τ (st42 _ κ)
  have pre44 := fun τ (κ : Steps p.tables e below (T42.setTop (mkF m 67 #[.val (.ref so), .val (.ref li)] [(.int (0 : Int32)), (.ref so)])) τ) => pre43 τ (by
    refine XS.aloadN X42.here hx rfl (hb hby d2_65) rfl rfl ?_
    refine XS.iconst X42.here hx rfl (hb hby d2_66) ?_
    show Steps p.tables e below (T42.setTop (mkF m 67 #[.val (.ref so), .val (.ref li)] [(.int (0 : Int32)), (.ref so)])) _
    exact κ)
  obtain ⟨T45, h45, k45, X45, e45, E45, A45, B45, O45, st45⟩ := newRA X42 hx hZ (ty := .long) hown (by decide) (hw _ (List.mem_of_getElem? (i := 105) rfl)) (hw _ (List.mem_of_getElem? (i := 106) rfl)) e42 (g := (mkF m 67 #[.val (.ref so), .val (.ref li)] [(.int (0 : Int32)), (.ref so)])) rfl (hb hby d2_67) rfl (by decide) (cap := 0) (by decide) (by decide) (by decide) (by decide) (ad := "[[J") (by decide)
  obtain ⟨bt, g45⟩ : ∃ z, z = h42.size := ⟨_, rfl⟩
  rw [← g45] at A45 st45 B45
  have g_bt : n0 ≤ bt := Nat.le_trans Z42 (Nat.le_of_eq g45.symm)
  have ne_eb_bt : eb ≠ bt := Nat.ne_of_lt (Nat.lt_of_lt_of_le E_b_42.lt (Nat.le_of_eq g45.symm))
  have ne_li_bt : li ≠ bt := Nat.ne_of_lt (Nat.lt_of_lt_of_le E_l_42.lt (Nat.le_of_eq g45.symm))
  have ne_so_bt : so ≠ bt := Nat.ne_of_lt (Nat.lt_of_lt_of_le E_s_42.lt (Nat.le_of_eq g45.symm))
  have O0_45 : Old Z n0 h45 := O0_42.ext E45
  have E_b_45 : Exa Z h45 eb "[B" := E_b_42.ext E45
  have Vb_45 : Arv Z h45 eb kb .byte (1 : Int32) [(.int (104 : Int32))] (.int (0 : Int32)) := Vb_42.ext E45
  have E_l_45 : Exa Z h45 li "java/lang/String" := E_l_42.ext E45
  have Fc_45 : Fld Z h45 li "java/lang/String" "coder" "B" (.int (0 : Int32)) := Fc_42.ext E45
  have Fv_45 : Fld Z h45 li "java/lang/String" "value" "[B" (.ref eb) := Fv_42.ext E45
  have E_s_45 : Exa Z h45 so "com/example/earmark/earmark/ledger/HoldStates" := E_s_42.ext E45
  have F_batched_45 : Fld Z h45 so "com/example/earmark/earmark/ledger/HoldStates" "batched" "[[J" .null := F_batched_42.ext E45
  have F_passed_45 : Fld Z h45 so "com/example/earmark/earmark/ledger/HoldStates" "passed" "[J" .null := F_passed_42.ext E45
  have F_prefix_45 : Fld Z h45 so "com/example/earmark/earmark/ledger/HoldStates" "prefix" "Ljava/lang/String;" .null := F_prefix_42.ext E45
  have F_prefixText_45 : Fld Z h45 so "com/example/earmark/earmark/ledger/HoldStates" "prefixText" "[B" .null := F_prefixText_42.ext E45
  have F_passedCount_45 : Fld Z h45 so "com/example/earmark/earmark/ledger/HoldStates" "passedCount" "I" (.int (0 : Int32)) := F_passedCount_42.ext E45
  have F_chunks_so_45 : Fld Z h45 so "com/example/earmark/earmark/ledger/HoldStates" "chunks" "[Lcom/example/earmark/earmark/ledger/HoldStates$Chunk;" (.ref ca) := F_chunks_so_42.ext E45
  have F_index_so_45 : Fld Z h45 so "com/example/earmark/earmark/ledger/HoldStates" "index" "Lcom/example/earmark/earmark/ledger/RowIndex;" (.ref ri) := F_index_so_42.ext E45
  have F_otherNumbers_so_45 : Fld Z h45 so "com/example/earmark/earmark/ledger/HoldStates" "otherNumbers" "Ljava/util/Map;" (.ref m1) := F_otherNumbers_so_42.ext E45
  have F_otherIds_so_45 : Fld Z h45 so "com/example/earmark/earmark/ledger/HoldStates" "otherIds" "Ljava/util/Map;" (.ref m2) := F_otherIds_so_42.ext E45
  have sz_bt : h0.size ≤ bt := Nat.le_trans Kp42.1 (Nat.le_of_eq g45.symm)
  have Kp45 : Keep h0 h45 [so] := Kp42.ext E45
  have Z45 : n0 ≤ h45.size := Nat.le_trans Z42 E45.1
  have V_bt_45 : Arv Z h45 bt k45 (.array .long) (0 : Int32) [] .null := Arv.new A45 (by decide)
  have pre46 := fun τ (κ : Steps p.tables e below (T45.setTop (mkF m 70 #[.val (.ref so), .val (.ref li)] [(.ref bt), (.ref so)])) τ) => pre44 τ (st45 _ κ)
  obtain ⟨T47, h47, X47, e47, W47, st47⟩ := putF X45 hx hZ hown (host := "") (Or.inl (hw _ (List.mem_of_getElem? (i := 107) rfl))) Via.refl e45 F_batched_45 E_s_45 (Or.inl (hw _ (List.mem_of_getElem? (i := 108) rfl))) (hw _ (List.mem_of_getElem? (i := 5) rfl)) (ty := (.array (.array .long))) (by decide) rfl rfl (g := (mkF m 70 #[.val (.ref so), .val (.ref li)] [(.ref bt), (.ref so)])) rfl rfl (hb hby d2_70)
  have O0_47 : Old Z n0 h47 := O0_45.wr W47 g_so
  have E_b_47 : Exa Z h47 eb "[B" := E_b_45.wr W47
  have Vb_47 : Arv Z h47 eb kb .byte (1 : Int32) [(.int (104 : Int32))] (.int (0 : Int32)) := Vb_45.other W47 hes
  have E_l_47 : Exa Z h47 li "java/lang/String" := E_l_45.wr W47
  have Fc_47 : Fld Z h47 li "java/lang/String" "coder" "B" (.int (0 : Int32)) := Fc_45.other W47 (Or.inl hls)
  have Fv_47 : Fld Z h47 li "java/lang/String" "value" "[B" (.ref eb) := Fv_45.other W47 (Or.inl hls)
  have E_s_47 : Exa Z h47 so "com/example/earmark/earmark/ledger/HoldStates" := E_s_45.wr W47
  have F_passed_47 : Fld Z h47 so "com/example/earmark/earmark/ledger/HoldStates" "passed" "[J" .null := F_passed_45.other W47 (Or.inr (slot_ne (Or.inl (hw _ (List.mem_of_getElem? (i := 110) rfl))) (Or.inl (hw _ (List.mem_of_getElem? (i := 108) rfl))) (by decide) (t := (.array .long)) (t' := (.array (.array .long))) (by decide) (by decide)))
  have F_prefix_47 : Fld Z h47 so "com/example/earmark/earmark/ledger/HoldStates" "prefix" "Ljava/lang/String;" .null := F_prefix_45.other W47 (Or.inr (slot_ne (Or.inr (hw _ (List.mem_of_getElem? (i := 112) rfl))) (Or.inl (hw _ (List.mem_of_getElem? (i := 108) rfl))) (by decide) (t := (.object "java/lang/String")) (t' := (.array (.array .long))) (by decide) (by decide)))
  have F_prefixText_47 : Fld Z h47 so "com/example/earmark/earmark/ledger/HoldStates" "prefixText" "[B" .null := F_prefixText_45.other W47 (Or.inr (slot_ne (Or.inr (hw _ (List.mem_of_getElem? (i := 151) rfl))) (Or.inl (hw _ (List.mem_of_getElem? (i := 108) rfl))) (by decide) (t := (.array .byte)) (t' := (.array (.array .long))) (by decide) (by decide)))
  have F_passedCount_47 : Fld Z h47 so "com/example/earmark/earmark/ledger/HoldStates" "passedCount" "I" (.int (0 : Int32)) := F_passedCount_45.other W47 (Or.inr (slot_ne (Or.inl (hw _ (List.mem_of_getElem? (i := 158) rfl))) (Or.inl (hw _ (List.mem_of_getElem? (i := 108) rfl))) (by decide) (t := .int) (t' := (.array (.array .long))) (by decide) (by decide)))
  have F_chunks_so_47 : Fld Z h47 so "com/example/earmark/earmark/ledger/HoldStates" "chunks" "[Lcom/example/earmark/earmark/ledger/HoldStates$Chunk;" (.ref ca) := F_chunks_so_45.other W47 (Or.inr (slot_ne (Or.inl (hw _ (List.mem_of_getElem? (i := 53) rfl))) (Or.inl (hw _ (List.mem_of_getElem? (i := 108) rfl))) (by decide) (t := (.array (.object "com/example/earmark/earmark/ledger/HoldStates$Chunk"))) (t' := (.array (.array .long))) (by decide) (by decide)))
  have F_index_so_47 : Fld Z h47 so "com/example/earmark/earmark/ledger/HoldStates" "index" "Lcom/example/earmark/earmark/ledger/RowIndex;" (.ref ri) := F_index_so_45.other W47 (Or.inr (slot_ne (Or.inr (hw _ (List.mem_of_getElem? (i := 84) rfl))) (Or.inl (hw _ (List.mem_of_getElem? (i := 108) rfl))) (by decide) (t := (.object "com/example/earmark/earmark/ledger/RowIndex")) (t' := (.array (.array .long))) (by decide) (by decide)))
  have F_otherNumbers_so_47 : Fld Z h47 so "com/example/earmark/earmark/ledger/HoldStates" "otherNumbers" "Ljava/util/Map;" (.ref m1) := F_otherNumbers_so_45.other W47 (Or.inr (slot_ne (Or.inr (hw _ (List.mem_of_getElem? (i := 102) rfl))) (Or.inl (hw _ (List.mem_of_getElem? (i := 108) rfl))) (by decide) (t := (.object "java/util/Map")) (t' := (.array (.array .long))) (by decide) (by decide)))
  have F_otherIds_so_47 : Fld Z h47 so "com/example/earmark/earmark/ledger/HoldStates" "otherIds" "Ljava/util/Map;" (.ref m2) := F_otherIds_so_45.other W47 (Or.inr (slot_ne (Or.inr (hw _ (List.mem_of_getElem? (i := 104) rfl))) (Or.inl (hw _ (List.mem_of_getElem? (i := 108) rfl))) (by decide) (t := (.object "java/util/Map")) (t' := (.array (.array .long))) (by decide) (by decide)))
  have V_bt_47 : Arv Z h47 bt k45 (.array .long) (0 : Int32) [] .null := V_bt_45.other W47 (Ne.symm ne_so_bt)
  have Kp47 : Keep h0 h47 [so] := Kp45.wr W47 (Or.inl (List.mem_of_getElem? (i := 0) rfl))
  have N47 := Fr.snoc X47 N42 g_so
  have Z47 : n0 ≤ h47.size := Nat.le_trans Z45 (Keep.of_wr W47).1
  have F_batched_so_47 : Fld Z h47 so "com/example/earmark/earmark/ledger/HoldStates" "batched" "[[J" (.ref bt) := F_batched_45.same W47
  have pre48 := fun τ (κ : Steps p.tables e below (T47.setTop (mkF m 73 #[.val (.ref so), .val (.ref li)] [])) τ) => pre46 τ (st47 _ κ)
  have pre49 := fun τ (κ : Steps p.tables e below (T47.setTop (mkF m 75 #[.val (.ref so), .val (.ref li)] [(.int (1 : Int32)), (.ref so)])) τ) => pre48 τ (by
    refine XS.aloadN X47.here hx rfl (hb hby d2_73) rfl rfl ?_
    refine XS.iconst X47.here hx rfl (hb hby d2_74) ?_
    show Steps p.tables e below (T47.setTop (mkF m 75 #[.val (.ref so), .val (.ref li)] [(.int (1 : Int32)), (.ref so)])) _
    exact κ)
  obtain ⟨T50, h50, k50, X50, e50, E50, A50, st50⟩ := newP X47 hx hZ (hw _ (List.mem_of_getElem? (i := 28) rfl)) e47 (g := (mkF m 75 #[.val (.ref so), .val (.ref li)] [(.int (1 : Int32)), (.ref so)])) rfl (hb hby d2_75) rfl (by decide) (cap := 1) (by decide) (by decide) (by decide) (by decide)
  obtain ⟨pa, g50⟩ : ∃ z, z = h47.size := ⟨_, rfl⟩
  rw [← g50] at A50 st50
  have g_pa : n0 ≤ pa := Nat.le_trans Z47 (Nat.le_of_eq g50.symm)
  have ne_eb_pa : eb ≠ pa := Nat.ne_of_lt (Nat.lt_of_lt_of_le E_b_47.lt (Nat.le_of_eq g50.symm))
  have ne_li_pa : li ≠ pa := Nat.ne_of_lt (Nat.lt_of_lt_of_le E_l_47.lt (Nat.le_of_eq g50.symm))
  have ne_so_pa : so ≠ pa := Nat.ne_of_lt (Nat.lt_of_lt_of_le E_s_47.lt (Nat.le_of_eq g50.symm))
  have O0_50 : Old Z n0 h50 := O0_47.ext E50
  have E_b_50 : Exa Z h50 eb "[B" := E_b_47.ext E50
  have Vb_50 : Arv Z h50 eb kb .byte (1 : Int32) [(.int (104 : Int32))] (.int (0 : Int32)) := Vb_47.ext E50
  have E_l_50 : Exa Z h50 li "java/lang/String" := E_l_47.ext E50
  have Fc_50 : Fld Z h50 li "java/lang/String" "coder" "B" (.int (0 : Int32)) := Fc_47.ext E50
  have Fv_50 : Fld Z h50 li "java/lang/String" "value" "[B" (.ref eb) := Fv_47.ext E50
  have E_s_50 : Exa Z h50 so "com/example/earmark/earmark/ledger/HoldStates" := E_s_47.ext E50
  have F_passed_50 : Fld Z h50 so "com/example/earmark/earmark/ledger/HoldStates" "passed" "[J" .null := F_passed_47.ext E50
  have F_prefix_50 : Fld Z h50 so "com/example/earmark/earmark/ledger/HoldStates" "prefix" "Ljava/lang/String;" .null := F_prefix_47.ext E50
  have F_prefixText_50 : Fld Z h50 so "com/example/earmark/earmark/ledger/HoldStates" "prefixText" "[B" .null := F_prefixText_47.ext E50
  have F_passedCount_50 : Fld Z h50 so "com/example/earmark/earmark/ledger/HoldStates" "passedCount" "I" (.int (0 : Int32)) := F_passedCount_47.ext E50
  have F_chunks_so_50 : Fld Z h50 so "com/example/earmark/earmark/ledger/HoldStates" "chunks" "[Lcom/example/earmark/earmark/ledger/HoldStates$Chunk;" (.ref ca) := F_chunks_so_47.ext E50
  have F_index_so_50 : Fld Z h50 so "com/example/earmark/earmark/ledger/HoldStates" "index" "Lcom/example/earmark/earmark/ledger/RowIndex;" (.ref ri) := F_index_so_47.ext E50
  have F_otherNumbers_so_50 : Fld Z h50 so "com/example/earmark/earmark/ledger/HoldStates" "otherNumbers" "Ljava/util/Map;" (.ref m1) := F_otherNumbers_so_47.ext E50
  have F_otherIds_so_50 : Fld Z h50 so "com/example/earmark/earmark/ledger/HoldStates" "otherIds" "Ljava/util/Map;" (.ref m2) := F_otherIds_so_47.ext E50
  have F_batched_so_50 : Fld Z h50 so "com/example/earmark/earmark/ledger/HoldStates" "batched" "[[J" (.ref bt) := F_batched_so_47.ext E50
  have sz_pa : h0.size ≤ pa := Nat.le_trans Kp47.1 (Nat.le_of_eq g50.symm)
  have Kp50 : Keep h0 h50 [so] := Kp47.ext E50
  have Z50 : n0 ≤ h50.size := Nat.le_trans Z47 E50.1
  have V_pa_50 : Arv Z h50 pa k50 .long (1 : Int32) [(.long (0 : Int64))] (.long (0 : Int64)) := (Arv.new A50 (by decide)).pad (pad_rep [] (.long (0 : Int64)) 1)
  have pre51 := fun τ (κ : Steps p.tables e below (T50.setTop (mkF m 77 #[.val (.ref so), .val (.ref li)] [(.ref pa), (.ref so)])) τ) => pre49 τ (st50 _ κ)
  obtain ⟨T52, h52, X52, e52, W52, st52⟩ := putF X50 hx hZ hown (host := "") (Or.inl (hw _ (List.mem_of_getElem? (i := 109) rfl))) Via.refl e50 F_passed_50 E_s_50 (Or.inl (hw _ (List.mem_of_getElem? (i := 110) rfl))) (hw _ (List.mem_of_getElem? (i := 5) rfl)) (ty := (.array .long)) (by decide) rfl rfl (g := (mkF m 77 #[.val (.ref so), .val (.ref li)] [(.ref pa), (.ref so)])) rfl rfl (hb hby d2_77)
  have O0_52 : Old Z n0 h52 := O0_50.wr W52 g_so
  have E_b_52 : Exa Z h52 eb "[B" := E_b_50.wr W52
  have Vb_52 : Arv Z h52 eb kb .byte (1 : Int32) [(.int (104 : Int32))] (.int (0 : Int32)) := Vb_50.other W52 hes
  have E_l_52 : Exa Z h52 li "java/lang/String" := E_l_50.wr W52
  have Fc_52 : Fld Z h52 li "java/lang/String" "coder" "B" (.int (0 : Int32)) := Fc_50.other W52 (Or.inl hls)
  have Fv_52 : Fld Z h52 li "java/lang/String" "value" "[B" (.ref eb) := Fv_50.other W52 (Or.inl hls)
  have E_s_52 : Exa Z h52 so "com/example/earmark/earmark/ledger/HoldStates" := E_s_50.wr W52
  have F_prefix_52 : Fld Z h52 so "com/example/earmark/earmark/ledger/HoldStates" "prefix" "Ljava/lang/String;" .null := F_prefix_50.other W52 (Or.inr (slot_ne (Or.inr (hw _ (List.mem_of_getElem? (i := 112) rfl))) (Or.inl (hw _ (List.mem_of_getElem? (i := 110) rfl))) (by decide) (t := (.object "java/lang/String")) (t' := (.array .long)) (by decide) (by decide)))
  have F_prefixText_52 : Fld Z h52 so "com/example/earmark/earmark/ledger/HoldStates" "prefixText" "[B" .null := F_prefixText_50.other W52 (Or.inr (slot_ne (Or.inr (hw _ (List.mem_of_getElem? (i := 151) rfl))) (Or.inl (hw _ (List.mem_of_getElem? (i := 110) rfl))) (by decide) (t := (.array .byte)) (t' := (.array .long)) (by decide) (by decide)))
  have F_passedCount_52 : Fld Z h52 so "com/example/earmark/earmark/ledger/HoldStates" "passedCount" "I" (.int (0 : Int32)) := F_passedCount_50.other W52 (Or.inr (slot_ne (Or.inl (hw _ (List.mem_of_getElem? (i := 158) rfl))) (Or.inl (hw _ (List.mem_of_getElem? (i := 110) rfl))) (by decide) (t := .int) (t' := (.array .long)) (by decide) (by decide)))
  have F_chunks_so_52 : Fld Z h52 so "com/example/earmark/earmark/ledger/HoldStates" "chunks" "[Lcom/example/earmark/earmark/ledger/HoldStates$Chunk;" (.ref ca) := F_chunks_so_50.other W52 (Or.inr (slot_ne (Or.inl (hw _ (List.mem_of_getElem? (i := 53) rfl))) (Or.inl (hw _ (List.mem_of_getElem? (i := 110) rfl))) (by decide) (t := (.array (.object "com/example/earmark/earmark/ledger/HoldStates$Chunk"))) (t' := (.array .long)) (by decide) (by decide)))
  have F_index_so_52 : Fld Z h52 so "com/example/earmark/earmark/ledger/HoldStates" "index" "Lcom/example/earmark/earmark/ledger/RowIndex;" (.ref ri) := F_index_so_50.other W52 (Or.inr (slot_ne (Or.inr (hw _ (List.mem_of_getElem? (i := 84) rfl))) (Or.inl (hw _ (List.mem_of_getElem? (i := 110) rfl))) (by decide) (t := (.object "com/example/earmark/earmark/ledger/RowIndex")) (t' := (.array .long)) (by decide) (by decide)))
  have F_otherNumbers_so_52 : Fld Z h52 so "com/example/earmark/earmark/ledger/HoldStates" "otherNumbers" "Ljava/util/Map;" (.ref m1) := F_otherNumbers_so_50.other W52 (Or.inr (slot_ne (Or.inr (hw _ (List.mem_of_getElem? (i := 102) rfl))) (Or.inl (hw _ (List.mem_of_getElem? (i := 110) rfl))) (by decide) (t := (.object "java/util/Map")) (t' := (.array .long)) (by decide) (by decide)))
  have F_otherIds_so_52 : Fld Z h52 so "com/example/earmark/earmark/ledger/HoldStates" "otherIds" "Ljava/util/Map;" (.ref m2) := F_otherIds_so_50.other W52 (Or.inr (slot_ne (Or.inr (hw _ (List.mem_of_getElem? (i := 104) rfl))) (Or.inl (hw _ (List.mem_of_getElem? (i := 110) rfl))) (by decide) (t := (.object "java/util/Map")) (t' := (.array .long)) (by decide) (by decide)))
  have F_batched_so_52 : Fld Z h52 so "com/example/earmark/earmark/ledger/HoldStates" "batched" "[[J" (.ref bt) := F_batched_so_50.other W52 (Or.inr (slot_ne (Or.inl (hw _ (List.mem_of_getElem? (i := 108) rfl))) (Or.inl (hw _ (List.mem_of_getElem? (i := 110) rfl))) (by decide) (t := (.array (.array .long))) (t' := (.array .long)) (by decide) (by decide)))
  have V_pa_52 : Arv Z h52 pa k50 .long (1 : Int32) [(.long (0 : Int64))] (.long (0 : Int64)) := V_pa_50.other W52 (Ne.symm ne_so_pa)
  have Kp52 : Keep h0 h52 [so] := Kp50.wr W52 (Or.inl (List.mem_of_getElem? (i := 0) rfl))
  have N52 := Fr.snoc X52 N47 g_so
  have Z52 : n0 ≤ h52.size := Nat.le_trans Z50 (Keep.of_wr W52).1
  have F_passed_so_52 : Fld Z h52 so "com/example/earmark/earmark/ledger/HoldStates" "passed" "[J" (.ref pa) := F_passed_50.same W52
  have pre53 := fun τ (κ : Steps p.tables e below (T52.setTop (mkF m 80 #[.val (.ref so), .val (.ref li)] [])) τ) => pre51 τ (st52 _ κ)
  have pre54 := fun τ (κ : Steps p.tables e below (T52.setTop (mkF m 82 #[.val (.ref so), .val (.ref li)] [(.ref li), (.ref so)])) τ) => pre53 τ (by
    refine XS.aloadN X52.here hx rfl (hb hby d2_80) rfl rfl ?_
    refine XS.aloadN X52.here hx rfl (hb hby d2_81) rfl rfl ?_
    show Steps p.tables e below (T52.setTop (mkF m 82 #[.val (.ref so), .val (.ref li)] [(.ref li), (.ref so)])) _
    exact κ)
  obtain ⟨T55, h55, X55, e55, W55, st55⟩ := putF X52 hx hZ hown (host := "") (Or.inl (hw _ (List.mem_of_getElem? (i := 111) rfl))) Via.refl e52 F_prefix_52 E_s_52 (Or.inr ⟨(hw _ (List.mem_of_getElem? (i := 112) rfl)), rfl, hnm⟩) (hw _ (List.mem_of_getElem? (i := 5) rfl)) (ty := (.object "java/lang/String")) (by decide) rfl rfl (g := (mkF m 82 #[.val (.ref so), .val (.ref li)] [(.ref li), (.ref so)])) rfl rfl (hb hby d2_82)
  have O0_55 : Old Z n0 h55 := O0_52.wr W55 g_so
  have E_b_55 : Exa Z h55 eb "[B" := E_b_52.wr W55
  have Vb_55 : Arv Z h55 eb kb .byte (1 : Int32) [(.int (104 : Int32))] (.int (0 : Int32)) := Vb_52.other W55 hes
  have E_l_55 : Exa Z h55 li "java/lang/String" := E_l_52.wr W55
  have Fc_55 : Fld Z h55 li "java/lang/String" "coder" "B" (.int (0 : Int32)) := Fc_52.other W55 (Or.inl hls)
  have Fv_55 : Fld Z h55 li "java/lang/String" "value" "[B" (.ref eb) := Fv_52.other W55 (Or.inl hls)
  have E_s_55 : Exa Z h55 so "com/example/earmark/earmark/ledger/HoldStates" := E_s_52.wr W55
  have F_prefixText_55 : Fld Z h55 so "com/example/earmark/earmark/ledger/HoldStates" "prefixText" "[B" .null := F_prefixText_52.other W55 (Or.inr (slot_ne (Or.inr (hw _ (List.mem_of_getElem? (i := 151) rfl))) (Or.inr (hw _ (List.mem_of_getElem? (i := 112) rfl))) (by decide) (t := (.array .byte)) (t' := (.object "java/lang/String")) (by decide) (by decide)))
  have F_passedCount_55 : Fld Z h55 so "com/example/earmark/earmark/ledger/HoldStates" "passedCount" "I" (.int (0 : Int32)) := F_passedCount_52.other W55 (Or.inr (slot_ne (Or.inl (hw _ (List.mem_of_getElem? (i := 158) rfl))) (Or.inr (hw _ (List.mem_of_getElem? (i := 112) rfl))) (by decide) (t := .int) (t' := (.object "java/lang/String")) (by decide) (by decide)))
  have F_chunks_so_55 : Fld Z h55 so "com/example/earmark/earmark/ledger/HoldStates" "chunks" "[Lcom/example/earmark/earmark/ledger/HoldStates$Chunk;" (.ref ca) := F_chunks_so_52.other W55 (Or.inr (slot_ne (Or.inl (hw _ (List.mem_of_getElem? (i := 53) rfl))) (Or.inr (hw _ (List.mem_of_getElem? (i := 112) rfl))) (by decide) (t := (.array (.object "com/example/earmark/earmark/ledger/HoldStates$Chunk"))) (t' := (.object "java/lang/String")) (by decide) (by decide)))
  have F_index_so_55 : Fld Z h55 so "com/example/earmark/earmark/ledger/HoldStates" "index" "Lcom/example/earmark/earmark/ledger/RowIndex;" (.ref ri) := F_index_so_52.other W55 (Or.inr (slot_ne (Or.inr (hw _ (List.mem_of_getElem? (i := 84) rfl))) (Or.inr (hw _ (List.mem_of_getElem? (i := 112) rfl))) (by decide) (t := (.object "com/example/earmark/earmark/ledger/RowIndex")) (t' := (.object "java/lang/String")) (by decide) (by decide)))
  have F_otherNumbers_so_55 : Fld Z h55 so "com/example/earmark/earmark/ledger/HoldStates" "otherNumbers" "Ljava/util/Map;" (.ref m1) := F_otherNumbers_so_52.other W55 (Or.inr (slot_ne (Or.inr (hw _ (List.mem_of_getElem? (i := 102) rfl))) (Or.inr (hw _ (List.mem_of_getElem? (i := 112) rfl))) (by decide) (t := (.object "java/util/Map")) (t' := (.object "java/lang/String")) (by decide) (by decide)))
  have F_otherIds_so_55 : Fld Z h55 so "com/example/earmark/earmark/ledger/HoldStates" "otherIds" "Ljava/util/Map;" (.ref m2) := F_otherIds_so_52.other W55 (Or.inr (slot_ne (Or.inr (hw _ (List.mem_of_getElem? (i := 104) rfl))) (Or.inr (hw _ (List.mem_of_getElem? (i := 112) rfl))) (by decide) (t := (.object "java/util/Map")) (t' := (.object "java/lang/String")) (by decide) (by decide)))
  have F_batched_so_55 : Fld Z h55 so "com/example/earmark/earmark/ledger/HoldStates" "batched" "[[J" (.ref bt) := F_batched_so_52.other W55 (Or.inr (slot_ne (Or.inl (hw _ (List.mem_of_getElem? (i := 108) rfl))) (Or.inr (hw _ (List.mem_of_getElem? (i := 112) rfl))) (by decide) (t := (.array (.array .long))) (t' := (.object "java/lang/String")) (by decide) (by decide)))
  have V_pa_55 : Arv Z h55 pa k50 .long (1 : Int32) [(.long (0 : Int64))] (.long (0 : Int64)) := V_pa_52.other W55 (Ne.symm ne_so_pa)
  have F_passed_so_55 : Fld Z h55 so "com/example/earmark/earmark/ledger/HoldStates" "passed" "[J" (.ref pa) := F_passed_so_52.other W55 (Or.inr (slot_ne (Or.inl (hw _ (List.mem_of_getElem? (i := 110) rfl))) (Or.inr (hw _ (List.mem_of_getElem? (i := 112) rfl))) (by decide) (t := (.array .long)) (t' := (.object "java/lang/String")) (by decide) (by decide)))
  have Kp55 : Keep h0 h55 [so] := Kp52.wr W55 (Or.inl (List.mem_of_getElem? (i := 0) rfl))
  have N55 := Fr.snoc X55 N52 g_so
  have Z55 : n0 ≤ h55.size := Nat.le_trans Z52 (Keep.of_wr W55).1
  have F_prefix_so_55 : Fld Z h55 so "com/example/earmark/earmark/ledger/HoldStates" "prefix" "Ljava/lang/String;" (.ref li) := F_prefix_52.same W55
  have pre56 := fun τ (κ : Steps p.tables e below (T55.setTop (mkF m 85 #[.val (.ref so), .val (.ref li)] [])) τ) => pre54 τ (st55 _ κ)
  have pre57 := fun τ (κ : Steps p.tables e below (T55.setTop (mkF m 87 #[.val (.ref so), .val (.ref li)] [(.ref li), (.ref so)])) τ) => pre56 τ (by
    refine XS.aloadN X55.here hx rfl (hb hby d2_85) rfl rfl ?_
    refine XS.aloadN X55.here hx rfl (hb hby d2_86) rfl rfl ?_
    show Steps p.tables e below (T55.setTop (mkF m 87 #[.val (.ref so), .val (.ref li)] [(.ref li), (.ref so)])) _
    exact κ)
  obtain ⟨T58, X58, e58, st58⟩ := getS2 X55 hx hZ hown (host := "") (Or.inl (hw _ (List.mem_of_getElem? (i := 113) rfl))) Via.refl e55 (S0.ext O0_55.2) (g := (mkF m 87 #[.val (.ref so), .val (.ref li)] [(.ref li), (.ref so)])) rfl (hb hby d2_87)
  have pre59 := fun τ (κ : Steps p.tables e below (T58.setTop (mkF m 90 #[.val (.ref so), .val (.ref li)] [(.ref cs), (.ref li), (.ref so)])) τ) => pre57 τ (st58 _ κ)
  obtain ⟨cq60, kq60, q60a, q60b, q60c⟩ := isOf hZ e58 E_l_55
  obtain ⟨_, _, ⟨T60, L60, k60, n60⟩, -, X60, ⟨Lc60, hQ60, l60, y60, z60⟩, st60⟩ := X58.virtualBack hx (y := (⟨"java/lang/String", "getBytes", "(Ljava/nio/charset/Charset;)[B"⟩ : MethodName)) (z := (⟨"java/lang/String", "getBytes", "(Ljava/nio/charset/Charset;)[B"⟩ : MethodName)) hown (mvT hZ (hw _ (List.mem_of_getElem? (i := 115) rfl))) (mvT hZ (hw _ (List.mem_of_getElem? (i := 116) rfl))) (notFace_of_selects (args := #[]) (mvT hZ (hw _ (List.mem_of_getElem? (i := 118) rfl)))) (mvT hZ (hw _ (List.mem_of_getElem? (i := 118) rfl))) (mvT hZ (hw _ (List.mem_of_getElem? (i := 117) rfl))) (by decide) (backOf (W := 1) (rm10 l Z a0 hw [] li eb kb zc cs u8 h55 n0 Z55 O0_55 S8 c9 S1 S2 hcu Vb_55 E_b_55 E_l_55 Fc_55 Fv_55) hZ (hw _ (List.mem_of_getElem? (i := 119) rfl)) (hw _ (List.mem_of_getElem? (i := 8) rfl)) (Nat.le_of_ble_eq_true rfl) (Nat.le_of_ble_eq_true rfl)) q60a q60c (g := (mkF m 90 #[.val (.ref so), .val (.ref li)] [(.ref cs), (.ref li), (.ref so)])) rfl (by rw [hml]; rfl) (Steps.refl _) (argsL := [(.ref cs)]) (rest := [(.ref so)]) (lenOf pd_9 rfl) rfl (by show 2 * 0 + _ ≤ _; exact Nat.le_of_eq rfl) (hb hby d2_90) (fun _ _ => ⟨rfl, e58, (by decide : 17 + 1 ≤ _), (by decide : 654 + 1 ≤ _)⟩)
  dsimp only [Pt.U, Pt.locs, Pt.cells, Pt.slots] at X60 l60 y60 z60 st60 hQ60
  subst l60 y60 z60
  obtain ⟨bb, rfl, Nq60, K60⟩ := hQ60
  have O0_60 : Old Z n0 T60.heap := O0_55.keep K60 all0
  have E_b_60 : Exa Z T60.heap eb "[B" := E_b_55.keep K60
  have Vb_60 : Arv Z T60.heap eb kb .byte (1 : Int32) [(.int (104 : Int32))] (.int (0 : Int32)) := Vb_55.keep K60 nin0
  have E_l_60 : Exa Z T60.heap li "java/lang/String" := E_l_55.keep K60
  have Fc_60 : Fld Z T60.heap li "java/lang/String" "coder" "B" (.int (0 : Int32)) := Fc_55.keep K60 nin0
  have Fv_60 : Fld Z T60.heap li "java/lang/String" "value" "[B" (.ref eb) := Fv_55.keep K60 nin0
  have E_s_60 : Exa Z T60.heap so "com/example/earmark/earmark/ledger/HoldStates" := E_s_55.keep K60
  have F_prefixText_60 : Fld Z T60.heap so "com/example/earmark/earmark/ledger/HoldStates" "prefixText" "[B" .null := F_prefixText_55.keep K60 nin0
  have F_passedCount_60 : Fld Z T60.heap so "com/example/earmark/earmark/ledger/HoldStates" "passedCount" "I" (.int (0 : Int32)) := F_passedCount_55.keep K60 nin0
  have F_chunks_so_60 : Fld Z T60.heap so "com/example/earmark/earmark/ledger/HoldStates" "chunks" "[Lcom/example/earmark/earmark/ledger/HoldStates$Chunk;" (.ref ca) := F_chunks_so_55.keep K60 nin0
  have F_index_so_60 : Fld Z T60.heap so "com/example/earmark/earmark/ledger/HoldStates" "index" "Lcom/example/earmark/earmark/ledger/RowIndex;" (.ref ri) := F_index_so_55.keep K60 nin0
  have F_otherNumbers_so_60 : Fld Z T60.heap so "com/example/earmark/earmark/ledger/HoldStates" "otherNumbers" "Ljava/util/Map;" (.ref m1) := F_otherNumbers_so_55.keep K60 nin0
  have F_otherIds_so_60 : Fld Z T60.heap so "com/example/earmark/earmark/ledger/HoldStates" "otherIds" "Ljava/util/Map;" (.ref m2) := F_otherIds_so_55.keep K60 nin0
  have F_batched_so_60 : Fld Z T60.heap so "com/example/earmark/earmark/ledger/HoldStates" "batched" "[[J" (.ref bt) := F_batched_so_55.keep K60 nin0
  have V_pa_60 : Arv Z T60.heap pa k50 .long (1 : Int32) [(.long (0 : Int64))] (.long (0 : Int64)) := V_pa_55.keep K60 nin0
  have F_passed_so_60 : Fld Z T60.heap so "com/example/earmark/earmark/ledger/HoldStates" "passed" "[J" (.ref pa) := F_passed_so_55.keep K60 nin0
  have F_prefix_so_60 : Fld Z T60.heap so "com/example/earmark/earmark/ledger/HoldStates" "prefix" "Ljava/lang/String;" (.ref li) := F_prefix_so_55.keep K60 nin0
  have Z60 : n0 ≤ T60.heap.size := Nat.le_trans Z55 K60.1
  have Kp60 : Keep h0 T60.heap [so] := Kp55.trans K60 all0
  have N60 := Fr.app N55 Nq60
  have pre61 := fun τ (κ : Steps p.tables e below (T60.setTop (mkF m 93 #[.val (.ref so), .val (.ref li)] [(.ref bb), (.ref so)])) τ) => pre59 τ (st60.trans κ)
  obtain ⟨T62, h62, X62, e62, W62, st62⟩ := putF X60 hx hZ hown (host := "") (Or.inl (hw _ (List.mem_of_getElem? (i := 150) rfl))) Via.refl rfl F_prefixText_60 E_s_60 (Or.inr ⟨(hw _ (List.mem_of_getElem? (i := 151) rfl)), rfl, hnm⟩) (hw _ (List.mem_of_getElem? (i := 5) rfl)) (ty := (.array .byte)) (by decide) rfl rfl (g := (mkF m 93 #[.val (.ref so), .val (.ref li)] [(.ref bb), (.ref so)])) rfl rfl (hb hby d2_93)
  have O0_62 : Old Z n0 h62 := O0_60.wr W62 g_so
  have E_b_62 : Exa Z h62 eb "[B" := E_b_60.wr W62
  have Vb_62 : Arv Z h62 eb kb .byte (1 : Int32) [(.int (104 : Int32))] (.int (0 : Int32)) := Vb_60.other W62 hes
  have E_l_62 : Exa Z h62 li "java/lang/String" := E_l_60.wr W62
  have Fc_62 : Fld Z h62 li "java/lang/String" "coder" "B" (.int (0 : Int32)) := Fc_60.other W62 (Or.inl hls)
  have Fv_62 : Fld Z h62 li "java/lang/String" "value" "[B" (.ref eb) := Fv_60.other W62 (Or.inl hls)
  have E_s_62 : Exa Z h62 so "com/example/earmark/earmark/ledger/HoldStates" := E_s_60.wr W62
  have F_passedCount_62 : Fld Z h62 so "com/example/earmark/earmark/ledger/HoldStates" "passedCount" "I" (.int (0 : Int32)) := F_passedCount_60.other W62 (Or.inr (slot_ne (Or.inl (hw _ (List.mem_of_getElem? (i := 158) rfl))) (Or.inr (hw _ (List.mem_of_getElem? (i := 151) rfl))) (by decide) (t := .int) (t' := (.array .byte)) (by decide) (by decide)))
  have F_chunks_so_62 : Fld Z h62 so "com/example/earmark/earmark/ledger/HoldStates" "chunks" "[Lcom/example/earmark/earmark/ledger/HoldStates$Chunk;" (.ref ca) := F_chunks_so_60.other W62 (Or.inr (slot_ne (Or.inl (hw _ (List.mem_of_getElem? (i := 53) rfl))) (Or.inr (hw _ (List.mem_of_getElem? (i := 151) rfl))) (by decide) (t := (.array (.object "com/example/earmark/earmark/ledger/HoldStates$Chunk"))) (t' := (.array .byte)) (by decide) (by decide)))
  have F_index_so_62 : Fld Z h62 so "com/example/earmark/earmark/ledger/HoldStates" "index" "Lcom/example/earmark/earmark/ledger/RowIndex;" (.ref ri) := F_index_so_60.other W62 (Or.inr (slot_ne (Or.inr (hw _ (List.mem_of_getElem? (i := 84) rfl))) (Or.inr (hw _ (List.mem_of_getElem? (i := 151) rfl))) (by decide) (t := (.object "com/example/earmark/earmark/ledger/RowIndex")) (t' := (.array .byte)) (by decide) (by decide)))
  have F_otherNumbers_so_62 : Fld Z h62 so "com/example/earmark/earmark/ledger/HoldStates" "otherNumbers" "Ljava/util/Map;" (.ref m1) := F_otherNumbers_so_60.other W62 (Or.inr (slot_ne (Or.inr (hw _ (List.mem_of_getElem? (i := 102) rfl))) (Or.inr (hw _ (List.mem_of_getElem? (i := 151) rfl))) (by decide) (t := (.object "java/util/Map")) (t' := (.array .byte)) (by decide) (by decide)))
  have F_otherIds_so_62 : Fld Z h62 so "com/example/earmark/earmark/ledger/HoldStates" "otherIds" "Ljava/util/Map;" (.ref m2) := F_otherIds_so_60.other W62 (Or.inr (slot_ne (Or.inr (hw _ (List.mem_of_getElem? (i := 104) rfl))) (Or.inr (hw _ (List.mem_of_getElem? (i := 151) rfl))) (by decide) (t := (.object "java/util/Map")) (t' := (.array .byte)) (by decide) (by decide)))
  have F_batched_so_62 : Fld Z h62 so "com/example/earmark/earmark/ledger/HoldStates" "batched" "[[J" (.ref bt) := F_batched_so_60.other W62 (Or.inr (slot_ne (Or.inl (hw _ (List.mem_of_getElem? (i := 108) rfl))) (Or.inr (hw _ (List.mem_of_getElem? (i := 151) rfl))) (by decide) (t := (.array (.array .long))) (t' := (.array .byte)) (by decide) (by decide)))
  have V_pa_62 : Arv Z h62 pa k50 .long (1 : Int32) [(.long (0 : Int64))] (.long (0 : Int64)) := V_pa_60.other W62 (Ne.symm ne_so_pa)
  have F_passed_so_62 : Fld Z h62 so "com/example/earmark/earmark/ledger/HoldStates" "passed" "[J" (.ref pa) := F_passed_so_60.other W62 (Or.inr (slot_ne (Or.inl (hw _ (List.mem_of_getElem? (i := 110) rfl))) (Or.inr (hw _ (List.mem_of_getElem? (i := 151) rfl))) (by decide) (t := (.array .long)) (t' := (.array .byte)) (by decide) (by decide)))
  have F_prefix_so_62 : Fld Z h62 so "com/example/earmark/earmark/ledger/HoldStates" "prefix" "Ljava/lang/String;" (.ref li) := F_prefix_so_60.other W62 (Or.inr (slot_ne (Or.inr (hw _ (List.mem_of_getElem? (i := 112) rfl))) (Or.inr (hw _ (List.mem_of_getElem? (i := 151) rfl))) (by decide) (t := (.object "java/lang/String")) (t' := (.array .byte)) (by decide) (by decide)))
  have Kp62 : Keep h0 h62 [so] := Kp60.wr W62 (Or.inl (List.mem_of_getElem? (i := 0) rfl))
  have N62 := Fr.snoc X62 N60 g_so
  have Z62 : n0 ≤ h62.size := Nat.le_trans Z60 (Keep.of_wr W62).1
  have F_prefixText_so_62 : Fld Z h62 so "com/example/earmark/earmark/ledger/HoldStates" "prefixText" "[B" (.ref bb) := F_prefixText_60.same W62
  have pre63 := fun τ (κ : Steps p.tables e below (T62.setTop (mkF m 96 #[.val (.ref so), .val (.ref li)] [])) τ) => pre61 τ (st62 _ κ)
  obtain ⟨fs, hr, hrun, hended, hW, hsame⟩ := X62.leave (v := none) (fun _ => rfl)
  refine ⟨_, _, pre63 _ ?_, hrun, hended, _, _, rfl, ?_, ⟨_, rfl⟩, hW, hsame.mono (by decide) (by decide)⟩
  · exact X62.returnOut hx Bd.returns (hb hby d2_96) hr
  · show Q2 Z so li eb kb zc cs u8 nn h0 n0 _ T62.heap _
    rw [e62]
    exact ⟨rfl, N62, Kp62, pa, k50, F_passed_so_62, F_passedCount_62, V_pa_62, (Ne.symm ne_so_pa), g_pa⟩
theorem ef_17 (m : MethodId) (zx : Nat) (zy : Nat) : entryFrame m #[(.int (Int32.ofNat zx)), (.int (Int32.ofNat zy))] 2 = mkF m 0 #[.val (.int (Int32.ofNat zx)), .val (.int (Int32.ofNat zy))] [] := by first | (simp [entryFrame, mkF, argsToLocals, Value.category]; done) | rfl
def Q17 (Z : State) (zx : Nat) (zy : Nat) (h0 : Heap) (n0 : Nat) (v : Option Value) (h : Heap) (L : List Loc) : Prop := v = some (.int (Int32.ofNat zx)) ∧ Fr n0 L ∧ h = h0
set_option maxRecDepth 65536 in
set_option maxHeartbeats 40000000 in
theorem rm17 (l : Launch) (Z : State) (a0 : Array Value) (hw : ∀ d ∈ tables_1, d.before a0 Z = true) (ws : List Jvm.Cond) (zx : Nat) (zy : Nat) (h0 : Heap) (n0 : Nat) (Z0 : n0 ≤ h0.size) (hx9 : zx ≤ zy) (hy9 : zy ≤ 1000) :
    MetFree l (⟨"java/lang/Math", "min", "(II)I"⟩ : MethodName) (head1 (Jvm.Cond.code (⟨"java/lang/Math", "min", "(II)I"⟩ : MethodName) jdk_29_method_69_code 2 (some .int) :: ws) ({ frames := 0, cells := 0, slots := 0, locals := 0 } : Room)) (fun α υ => α = #[(.int (Int32.ofNat zx)), (.int (Int32.ofNat zy))] ∧ Z.Warmed39 υ.vm ∧ υ.heap = h0) (fun _ _ _ _ _ => True) (fun _ υ ω υ' => ∃ v L, ω = .returned v ∧ Q17 Z zx zy h0 n0 v υ'.heap L ∧ FrameEnd υ ω υ' L ({ frames := 0, cells := 0, slots := 0, locals := 0 } : Room).cells ({ frames := 0, cells := 0, slots := 0, locals := 0 } : Room).slots) := by
  refine MetFree.of_bodySF (Jvm.Free.JP.mathPlain rfl (by decide +kernel)) hisR ?_
  intro p e s m args below meth c s₁ Bd hml0 hP hK
  obtain ⟨rfl, hZ, hh⟩ := hP
  have hx := Bd.exec
  have hby := Bd.bytes
  have hml : c.maxLocals = 2 := hml0
  have hown : s.vm.findClass "java/lang/Math" = some m.cls := findClass_of_methodNamed Bd.named
  have hnm := (name_of_methodNamed Bd.named Bd.method).1
  have X0 : Stand p l e ({ frames := 0, cells := 0, slots := 0, locals := 0 } : Room) s m #[(.int (Int32.ofNat zx)), (.int (Int32.ofNat zy))] below meth c s₁ [] 0 0 := Stand.of_body Bd
  have e0 : s₁.heap = h0 := by rw [← hh, Bd.state]; rfl
  have N0 := Fr.nil n0
  have pre0 : ∀ τ, Steps p.tables e below (s₁.setTop (mkF m 0 #[.val (.int (Int32.ofNat zx)), .val (.int (Int32.ofNat zy))] [])) τ → Steps p.tables e below (s₁.setTop (entryFrame m #[(.int (Int32.ofNat zx)), (.int (Int32.ofNat zy))] 2)) τ := fun τ κ => castTop (ef_17 m zx zy) κ
  have pre1 := fun τ (κ : Steps p.tables e below (s₁.setTop (mkF m 10 #[.val (.int (Int32.ofNat zx)), .val (.int (Int32.ofNat zy))] [(.int (Int32.ofNat zx))])) τ) => pre0 τ (by
    refine XS.iloadN X0.here hx rfl (hb hby d17_0) rfl ?_
    refine XS.iloadN X0.here hx rfl (hb hby d17_1) rfl ?_
    refine XS.icmpNo X0.here hx rfl (hb hby d17_2) rfl (flt (fun q => absurd ((own_ltN (by omega) (by omega)).mp q) (by omega))).2.2.1 ?_
    show Steps p.tables e below (s₁.setTop (mkF m 5 #[.val (.int (Int32.ofNat zx)), .val (.int (Int32.ofNat zy))] [])) _
    refine XS.iloadN X0.here hx rfl (hb hby d17_5) rfl ?_
    refine XS.goto X0.here hx rfl (pc0 := 6) (pc' := 10) rfl (hb hby d17_6) (by decide) (by decide) ?_
    show Steps p.tables e below (s₁.setTop (mkF m 10 #[.val (.int (Int32.ofNat zx)), .val (.int (Int32.ofNat zy))] [(.int (Int32.ofNat zx))])) _
    exact κ)
  obtain ⟨fs, hr, hrun, hended, hW, hsame⟩ := X0.leave (v := some (.int (Int32.ofNat zx))) (fun h => by rw [Bd.returns] at h; cases h)
  refine ⟨_, _, pre1 _ ?_, hrun, hended, _, _, rfl, ?_, ⟨_, rfl⟩, hW, hsame.mono (by decide) (by decide)⟩
  · exact retI X0 hx Bd.returns (hb hby d17_10) hr
  · show Q17 Z zx zy h0 n0 _ s₁.heap _
    rw [e0]
    exact ⟨rfl, N0, rfl⟩
theorem ef_16 (m : MethodId) (pa : Addr) (z : Nat) (z2 : Nat) : entryFrame m #[(.ref pa), (.int (Int32.ofNat z2))] 3 = mkF m 0 #[.val (.ref pa), .val (.int (Int32.ofNat z2)), .unset] [] := by first | (simp [entryFrame, mkF, argsToLocals, Value.category]; done) | rfl
def Q16 (Z : State) (pa : Addr) (z : Nat) (z2 : Nat) (kp : ClassId) (g : Nat → Int64) (h0 : Heap) (n0 : Nat) (v : Option Value) (h : Heap) (L : List Loc) : Prop := ∃ (b : Addr) (kb : ClassId), v = some (.ref b) ∧ Fr n0 L ∧ Keep h0 h [] ∧ Arv Z h b kb .long (Int32.ofNat z2) (own_tabJ (fun j => if j < z then g j else 0) (z2)) (.long (0 : Int64)) ∧ h0.size ≤ b
set_option maxRecDepth 65536 in
set_option maxHeartbeats 40000000 in
theorem rm16 (l : Launch) (Z : State) (a0 : Array Value) (hw : ∀ d ∈ tables_1, d.before a0 Z = true) (ws : List Jvm.Cond) (pa : Addr) (z : Nat) (z2 : Nat) (kp : ClassId) (g : Nat → Int64) (h0 : Heap) (n0 : Nat) (Z0 : n0 ≤ h0.size) (Va : Arv Z h0 pa kp .long (Int32.ofNat z) (own_tabJ g (z)) (.long (0 : Int64))) (hz : z < z2) (hz4 : z2 ≤ 4) :
    MetFree l (⟨"java/util/Arrays", "copyOf", "([JI)[J"⟩ : MethodName) (head1 (Jvm.Cond.code (⟨"java/util/Arrays", "copyOf", "([JI)[J"⟩ : MethodName) jdk_65_method_124_code 3 (some (.array .long)) :: ws) ({ frames := 1, cells := 1, slots := 4, locals := 40 } : Room)) (fun α υ => α = #[(.ref pa), (.int (Int32.ofNat z2))] ∧ Z.Warmed39 υ.vm ∧ υ.heap = h0) (fun _ _ _ _ _ => True) (fun _ υ ω υ' => ∃ v L, ω = .returned v ∧ Q16 Z pa z z2 kp g h0 n0 v υ'.heap L ∧ FrameEnd υ ω υ' L ({ frames := 1, cells := 1, slots := 4, locals := 40 } : Room).cells ({ frames := 1, cells := 1, slots := 4, locals := 40 } : Room).slots) := by
  refine MetFree.of_bodySF (plainFor_of_name pn_java_util_Arrays) hisR ?_
  intro p e s m args below meth c s₁ Bd hml0 hP hK
  obtain ⟨rfl, hZ, hh⟩ := hP
  have hx := Bd.exec
  have hby := Bd.bytes
  have hml : c.maxLocals = 3 := hml0
  have hown : s.vm.findClass "java/util/Arrays" = some m.cls := findClass_of_methodNamed Bd.named
  have hnm := (name_of_methodNamed Bd.named Bd.method).1
  have X0 : Stand p l e ({ frames := 1, cells := 1, slots := 4, locals := 40 } : Room) s m #[(.ref pa), (.int (Int32.ofNat z2))] below meth c s₁ [] 0 0 := Stand.of_body Bd
  have e0 : s₁.heap = h0 := by rw [← hh, Bd.state]; rfl
  have N0 := Fr.nil n0
  have pre0 : ∀ τ, Steps p.tables e below (s₁.setTop (mkF m 0 #[.val (.ref pa), .val (.int (Int32.ofNat z2)), .unset] [])) τ → Steps p.tables e below (s₁.setTop (entryFrame m #[(.ref pa), (.int (Int32.ofNat z2))] 3)) τ := fun τ κ => castTop (ef_16 m pa z z2) κ
  have Kp0 : Keep h0 h0 [] := Keep.refl _ _
  have pre1 := fun τ (κ : Steps p.tables e below (s₁.setTop (mkF m 2 #[.val (.ref pa), .val (.int (Int32.ofNat z2)), .unset] [(.ref pa), (.int (Int32.ofNat z2))])) τ) => pre0 τ (by
    refine XS.iloadN X0.here hx rfl (hb hby d16_0) rfl ?_
    refine XS.aloadN X0.here hx rfl (hb hby d16_1) rfl rfl ?_
    show Steps p.tables e below (s₁.setTop (mkF m 2 #[.val (.ref pa), .val (.int (Int32.ofNat z2)), .unset] [(.ref pa), (.int (Int32.ofNat z2))])) _
    exact κ)
  obtain ⟨cl2, Ar2, -, S2, M2, -, -⟩ := id Va
  have pre3 := fun τ (κ : Steps p.tables e below (s₁.setTop (mkF m 15 #[.val (.ref pa), .val (.int (Int32.ofNat z2)), .unset] [(.int (Int32.ofNat z2))])) τ) => pre1 τ (by
    refine X0.arraylength hx (by rw [e0]; exact Ar2.1) (State.isArrayOf_alike hZ.alike Ar2.2.1) (g := (mkF m 2 #[.val (.ref pa), .val (.int (Int32.ofNat z2)), .unset] [(.ref pa), (.int (Int32.ofNat z2))])) rfl rfl (hb hby d16_2) _ ?_
    rw [len_of S2 M2]
    show Steps p.tables e below (s₁.setTop (mkF m 3 #[.val (.ref pa), .val (.int (Int32.ofNat z2)), .unset] [(.int (Int32.ofNat z)), (.int (Int32.ofNat z2))])) _
    refine XS.icmpYes X0.here hx rfl (pc0 := 3) (pc' := 14) rfl (hb hby d16_3) rfl (feq (fun q => absurd ((own_injN (by omega) (by omega)).mp q) (by omega))).2 (by decide) (by decide) ?_
    show Steps p.tables e below (s₁.setTop (mkF m 14 #[.val (.ref pa), .val (.int (Int32.ofNat z2)), .unset] [])) _
    refine XS.iloadN X0.here hx rfl (hb hby d16_14) rfl ?_
    show Steps p.tables e below (s₁.setTop (mkF m 15 #[.val (.ref pa), .val (.int (Int32.ofNat z2)), .unset] [(.int (Int32.ofNat z2))])) _
    exact κ)
  obtain ⟨T4, h4, k4, X4, e4, E4, A4, st4⟩ := newP X0 hx hZ (hw _ (List.mem_of_getElem? (i := 28) rfl)) e0 (g := (mkF m 15 #[.val (.ref pa), .val (.int (Int32.ofNat z2)), .unset] [(.int (Int32.ofNat z2))])) rfl (hb hby d16_15) rfl (own_nn (by omega)) (cap := 4) (by rw [own_clamp (by omega)]; omega) (by decide) (by decide) (by decide)
  obtain ⟨b, g4⟩ : ∃ z, z = h0.size := ⟨_, rfl⟩
  rw [← g4] at A4 st4
  have g_b : n0 ≤ b := Nat.le_trans Z0 (Nat.le_of_eq g4.symm)
  have ne_pa_b : pa ≠ b := Nat.ne_of_lt (Nat.lt_of_lt_of_le Va.lt (Nat.le_of_eq g4.symm))
  have Va_4 : Arv Z h4 pa kp .long (Int32.ofNat z) (own_tabJ g (z)) (.long (0 : Int64)) := Va.ext E4
  have sz_b : h0.size ≤ b := Nat.le_trans Kp0.1 (Nat.le_of_eq g4.symm)
  have Kp4 : Keep h0 h4 [] := Kp0.ext E4
  have Z4 : n0 ≤ h4.size := Nat.le_trans Z0 E4.1
  have V_b_4 : Arv Z h4 b k4 .long (Int32.ofNat z2) [] (.long (0 : Int64)) := Arv.new A4 (own_nn (by omega))
  have pre5 := fun τ (κ : Steps p.tables e below (T4.setTop (mkF m 17 #[.val (.ref pa), .val (.int (Int32.ofNat z2)), .unset] [(.ref b)])) τ) => pre3 τ (st4 _ κ)
  have Vb : Arv Z h4 b k4 .long (Int32.ofNat z2) (own_tabJ (fun _ => 0) (z2)) (.long (0 : Int64)) := by rw [own_tabJ_pad]; exact V_b_4.pad (pad_rep [] _ z2)
  have pre6 := fun τ (κ : Steps p.tables e below (T4.setTop (mkF m 23 #[.val (.ref pa), .val (.int (Int32.ofNat z2)), .val (.ref b)] [(.ref pa), (.int (0 : Int32)), (.ref b), (.int (0 : Int32)), (.ref pa)])) τ) => pre5 τ (by
    refine XS.astoreN X4.here hx rfl (hb hby d16_17) rfl rfl (l' := #[.val (.ref pa), .val (.int (Int32.ofNat z2)), .val (.ref b)]) rfl ?_
    show Steps p.tables e below (T4.setTop (mkF m 18 #[.val (.ref pa), .val (.int (Int32.ofNat z2)), .val (.ref b)] [])) _
    refine XS.aloadN X4.here hx rfl (hb hby d16_18) rfl rfl ?_
    refine XS.iconst X4.here hx rfl (hb hby d16_19) ?_
    refine XS.aloadN X4.here hx rfl (hb hby d16_20) rfl rfl ?_
    refine XS.iconst X4.here hx rfl (hb hby d16_21) ?_
    refine XS.aloadN X4.here hx rfl (hb hby d16_22) rfl rfl ?_
    show Steps p.tables e below (T4.setTop (mkF m 23 #[.val (.ref pa), .val (.int (Int32.ofNat z2)), .val (.ref b)] [(.ref pa), (.int (0 : Int32)), (.ref b), (.int (0 : Int32)), (.ref pa)])) _
    exact κ)
  obtain ⟨cl7, Ar7, -, S7, M7, -, -⟩ := id Va_4
  have pre8 := fun τ (κ : Steps p.tables e below (T4.setTop (mkF m 25 #[.val (.ref pa), .val (.int (Int32.ofNat z2)), .val (.ref b)] [(.int (Int32.ofNat z2)), (.int (Int32.ofNat z)), (.int (0 : Int32)), (.ref b), (.int (0 : Int32)), (.ref pa)])) τ) => pre6 τ (by
    refine X4.arraylength hx (by rw [e4]; exact Ar7.1) (State.isArrayOf_alike hZ.alike Ar7.2.1) (g := (mkF m 23 #[.val (.ref pa), .val (.int (Int32.ofNat z2)), .val (.ref b)] [(.ref pa), (.int (0 : Int32)), (.ref b), (.int (0 : Int32)), (.ref pa)])) rfl rfl (hb hby d16_23) _ ?_
    rw [len_of S7 M7]
    show Steps p.tables e below (T4.setTop (mkF m 24 #[.val (.ref pa), .val (.int (Int32.ofNat z2)), .val (.ref b)] [(.int (Int32.ofNat z)), (.int (0 : Int32)), (.ref b), (.int (0 : Int32)), (.ref pa)])) _
    refine XS.iloadN X4.here hx rfl (hb hby d16_24) rfl ?_
    show Steps p.tables e below (T4.setTop (mkF m 25 #[.val (.ref pa), .val (.int (Int32.ofNat z2)), .val (.ref b)] [(.int (Int32.ofNat z2)), (.int (Int32.ofNat z)), (.int (0 : Int32)), (.ref b), (.int (0 : Int32)), (.ref pa)])) _
    exact κ)
  obtain ⟨_, _, ⟨T9, L9, k9, n9⟩, -, X9, ⟨Lc9, hQ9, l9, y9, z9⟩, st9⟩ := Jvm.LawKit.callS X4 hx (y := (⟨"java/lang/Math", "min", "(II)I"⟩ : MethodName)) hown (mvT hZ (hw _ (List.mem_of_getElem? (i := 162) rfl))) (mvT hZ (hw _ (List.mem_of_getElem? (i := 163) rfl))) (mvT hZ (hw _ (List.mem_of_getElem? (i := 164) rfl))) (mvT hZ (hw _ (List.mem_of_getElem? (i := 165) rfl))) (by decide) (backOf (W := 4) (rm17 l Z a0 hw [] z z2 h4 n0 Z4 (by omega) (by omega)) hZ (hw _ (List.mem_of_getElem? (i := 165) rfl)) (hw _ (List.mem_of_getElem? (i := 164) rfl)) (Nat.le_of_ble_eq_true rfl) (Nat.le_of_ble_eq_true rfl)) (g := (mkF m 25 #[.val (.ref pa), .val (.int (Int32.ofNat z2)), .val (.ref b)] [(.int (Int32.ofNat z2)), (.int (Int32.ofNat z)), (.int (0 : Int32)), (.ref b), (.int (0 : Int32)), (.ref pa)])) rfl (by rw [hml]; rfl) (argsL := [(.int (Int32.ofNat z)), (.int (Int32.ofNat z2))]) (rest := [(.int (0 : Int32)), (.ref b), (.int (0 : Int32)), (.ref pa)]) (lenOf pd_10 rfl) rfl (by show 2 * 0 + _ ≤ _; exact Nat.le_of_eq rfl) (hb hby d16_25) (fun _ _ => ⟨rfl, e4, (by decide : 1 + 0 ≤ _), (by decide : 4 + 0 ≤ _)⟩)
  dsimp only [Pt.U, Pt.locs, Pt.cells, Pt.slots] at X9 l9 y9 z9 st9 hQ9
  subst l9 y9 z9
  obtain ⟨rfl, Nq9, hh9⟩ := hQ9
  have Va_9 : Arv Z T9.heap pa kp .long (Int32.ofNat z) (own_tabJ g (z)) (.long (0 : Int64)) := by rw [hh9]; exact Va_4
  have Vb_9 : Arv Z T9.heap b k4 .long (Int32.ofNat z2) (own_tabJ (fun _ => 0) (z2)) (.long (0 : Int64)) := by rw [hh9]; exact Vb
  have Z9 : n0 ≤ T9.heap.size := by rw [hh9]; exact Z4
  have Kp9 : Keep h0 T9.heap [] := by rw [hh9]; exact Kp4
  have N9 := Fr.app N0 Nq9
  have pre10 := fun τ (κ : Steps p.tables e below (T9.setTop (mkF m 28 #[.val (.ref pa), .val (.int (Int32.ofNat z2)), .val (.ref b)] [(.int (Int32.ofNat z)), (.int (0 : Int32)), (.ref b), (.int (0 : Int32)), (.ref pa)])) τ) => pre8 τ (st9 _ κ)
  obtain ⟨T11, h11, L11, X11, e11, N11, K11, A11, st11⟩ := cpA X9 hx hZ hown (hw _ (List.mem_of_getElem? (i := 166) rfl)) (hw _ (List.mem_of_getElem? (i := 169) rfl)) (hw _ (List.mem_of_getElem? (i := 167) rfl)) (hw _ (List.mem_of_getElem? (i := 168) rfl)) rfl (us := (own_tabJ g (z))) Va_9 Vb_9 (Or.inl ⟨rfl, rfl⟩) (by decide) (by decide) (own_nn (by omega)) (by rw [own_clamp (by omega)]; exact Nat.le_of_eq (Nat.zero_add _)) (by rw [own_clamp (by omega), own_clamp (by omega)]; show 0 + z ≤ z2; omega) (own_usJ (by omega)) (by rw [own_clamp (by omega), own_tabJ_len]; show 0 + z ≤ z2; omega) N9 g_b (g := (mkF m 28 #[.val (.ref pa), .val (.int (Int32.ofNat z2)), .val (.ref b)] [(.int (Int32.ofNat z)), (.int (0 : Int32)), (.ref b), (.int (0 : Int32)), (.ref pa)])) rfl (by rw [hml]; rfl) rfl (hb hby d16_28) (by decide) (W := 0) (by show 2 * 0 + _ ≤ _; exact Nat.le_of_eq rfl) (by decide)
  have Va_11 : Arv Z h11 pa kp .long (Int32.ofNat z) (own_tabJ g (z)) (.long (0 : Int64)) := Va_9.keep K11 (ninS ne_pa_b nin0)
  have Z11 : n0 ≤ h11.size := Nat.le_trans Z9 K11.1
  have Kp11 : Keep h0 h11 [] := Kp9.trans K11 (allS (Or.inr sz_b) all0)
  have V_b_11 : Arv Z h11 b k4 .long (Int32.ofNat z2) (own_tabJ (fun j => if j < z then g j else 0) (z2)) (.long (0 : Int64)) := (by have q := A11; rw [own_clamp (by omega)] at q; rw [← own_copyJ (g := g) (z := z) (z2 := z2) (by omega)]; exact q)
  have pre12 := fun τ (κ : Steps p.tables e below (T11.setTop (mkF m 31 #[.val (.ref pa), .val (.int (Int32.ofNat z2)), .val (.ref b)] [])) τ) => pre10 τ (st11 _ κ)
  have pre13 := fun τ (κ : Steps p.tables e below (T11.setTop (mkF m 32 #[.val (.ref pa), .val (.int (Int32.ofNat z2)), .val (.ref b)] [(.ref b)])) τ) => pre12 τ (by
    refine XS.aloadN X11.here hx rfl (hb hby d16_31) rfl rfl ?_
    show Steps p.tables e below (T11.setTop (mkF m 32 #[.val (.ref pa), .val (.int (Int32.ofNat z2)), .val (.ref b)] [(.ref b)])) _
    exact κ)
  obtain ⟨fs, hr, hrun, hended, hW, hsame⟩ := X11.leave (v := some (.ref b)) (fun h => by rw [Bd.returns] at h; cases h)
  refine ⟨_, _, pre13 _ ?_, hrun, hended, _, _, rfl, ?_, ⟨_, rfl⟩, hW, hsame.mono (by decide) (by decide)⟩
  · jvm_step X11.here [X11.here.top, hx, (hb hby d16_32), X11.method', Bd.returns, Value.isRef, FieldType.isReference]
    first | (intro acts; rw [hr _ acts rfl rfl rfl]) | rw [hr _ _ rfl rfl rfl]
    exact Steps.refl _
  · show Q16 Z pa z z2 kp g h0 n0 _ T11.heap _
    rw [e11]
    exact ⟨b, k4, rfl, N11, Kp11, V_b_11, sz_b⟩
theorem ef_15 (m : MethodId) (so : Addr) (x : Int64) (k : Nat) (z : Nat) : entryFrame m #[(.ref so), (.long x)] 3 = mkF m 0 #[.val (.ref so), .val (.long x), .second] [] := by first | (simp [entryFrame, mkF, argsToLocals, Value.category]; done) | rfl
def Q15 (Z : State) (so : Addr) (x : Int64) (k : Nat) (z : Nat) (g : Nat → Int64) (h0 : Heap) (n0 : Nat) (v : Option Value) (h : Heap) (L : List Loc) : Prop := v = none ∧ Fr n0 L ∧ h0.size ≤ h.size ∧ Exa Z h so "com/example/earmark/earmark/ledger/HoldStates" ∧ ∃ (z2 : Nat) (g' : Nat → Int64), k + 1 ≤ z2 ∧ z2 ≤ 2 * z ∧ (k < z → z2 = z) ∧ (∀ j, j < k → g' j = g j) ∧ g' k = x ∧ own_PB Z h n0 so (k + 1) z2 g' 
set_option maxRecDepth 65536 in
set_option maxHeartbeats 40000000 in
theorem rm15 (l : Launch) (Z : State) (a0 : Array Value) (hw : ∀ d ∈ tables_1, d.before a0 Z = true) (ws : List Jvm.Cond) (so : Addr) (x : Int64) (k : Nat) (z : Nat) (g : Nat → Int64) (h0 : Heap) (n0 : Nat) (Z0 : n0 ≤ h0.size) (E_s : Exa Z h0 so "com/example/earmark/earmark/ledger/HoldStates") (gs : n0 ≤ so) (PB : own_PB Z h0 n0 so k z g) (hkz0 : k ≤ z) (hz1 : 1 ≤ z) (hz2 : z ≤ 2) :
    MetFree l (⟨"com/example/earmark/earmark/ledger/HoldStates", "passBatch", "(J)V"⟩ : MethodName) (head1 (Jvm.Cond.code (⟨"com/example/earmark/earmark/ledger/HoldStates", "passBatch", "(J)V"⟩ : MethodName) prog_73_method_19_code 3 none :: ws) ({ frames := 2, cells := 1, slots := 4, locals := 55 } : Room)) (fun α υ => α = #[(.ref so), (.long x)] ∧ Z.Warmed39 υ.vm ∧ υ.heap = h0) (fun _ _ _ _ _ => True) (fun _ υ ω υ' => ∃ v L, ω = .returned v ∧ Q15 Z so x k z g h0 n0 v υ'.heap L ∧ FrameEnd υ ω υ' L ({ frames := 2, cells := 1, slots := 4, locals := 55 } : Room).cells ({ frames := 2, cells := 1, slots := 4, locals := 55 } : Room).slots) := by
  refine MetFree.of_bodySF (plainFor_of_name pn_com_example_earmark_earmark_ledger_HoldStates) hisR ?_
  intro p e s m args below meth c s₁ Bd hml0 hP hK
  obtain ⟨rfl, hZ, hh⟩ := hP
  have hx := Bd.exec
  have hby := Bd.bytes
  have hml : c.maxLocals = 3 := hml0
  have hown : s.vm.findClass "com/example/earmark/earmark/ledger/HoldStates" = some m.cls := findClass_of_methodNamed Bd.named
  have hnm := (name_of_methodNamed Bd.named Bd.method).1
  have X0 : Stand p l e ({ frames := 2, cells := 1, slots := 4, locals := 55 } : Room) s m #[(.ref so), (.long x)] below meth c s₁ [] 0 0 := Stand.of_body Bd
  have e0 : s₁.heap = h0 := by rw [← hh, Bd.state]; rfl
  have N0 := Fr.nil n0
  have pre0 : ∀ τ, Steps p.tables e below (s₁.setTop (mkF m 0 #[.val (.ref so), .val (.long x), .second] [])) τ → Steps p.tables e below (s₁.setTop (entryFrame m #[(.ref so), (.long x)] 3)) τ := fun τ κ => castTop (ef_15 m so x k z) κ
  obtain ⟨pa, kp, Fp, Fk, Va, hne, gp⟩ := PB
  have Kp0 : Keep h0 h0 [so, pa] := Keep.refl _ _
  have pre1 := fun τ (κ : Steps p.tables e below (s₁.setTop (mkF m 1 #[.val (.ref so), .val (.long x), .second] [(.ref so)])) τ) => pre0 τ (by
    refine XS.aloadN X0.here hx rfl (hb hby d15_0) rfl rfl ?_
    show Steps p.tables e below (s₁.setTop (mkF m 1 #[.val (.ref so), .val (.long x), .second] [(.ref so)])) _
    exact κ)
  obtain ⟨T2, X2, e2, st2⟩ := getF X0 hx hZ hown (host := "") (Or.inl (hw _ (List.mem_of_getElem? (i := 157) rfl))) Via.refl e0 Fk (g := (mkF m 1 #[.val (.ref so), .val (.long x), .second] [(.ref so)])) rfl rfl (hb hby d15_1)
  have pre3 := fun τ (κ : Steps p.tables e below (T2.setTop (mkF m 4 #[.val (.ref so), .val (.long x), .second] [(.int (Int32.ofNat k))])) τ) => pre1 τ (st2 _ κ)
  have pre4 := fun τ (κ : Steps p.tables e below (T2.setTop (mkF m 5 #[.val (.ref so), .val (.long x), .second] [(.ref so), (.int (Int32.ofNat k))])) τ) => pre3 τ (by
    refine XS.aloadN X2.here hx rfl (hb hby d15_4) rfl rfl ?_
    show Steps p.tables e below (T2.setTop (mkF m 5 #[.val (.ref so), .val (.long x), .second] [(.ref so), (.int (Int32.ofNat k))])) _
    exact κ)
  obtain ⟨T5, X5, e5, st5⟩ := getF X2 hx hZ hown (host := "") (Or.inl (hw _ (List.mem_of_getElem? (i := 109) rfl))) Via.refl e2 Fp (g := (mkF m 5 #[.val (.ref so), .val (.long x), .second] [(.ref so), (.int (Int32.ofNat k))])) rfl rfl (hb hby d15_5)
  have pre6 := fun τ (κ : Steps p.tables e below (T5.setTop (mkF m 8 #[.val (.ref so), .val (.long x), .second] [(.ref pa), (.int (Int32.ofNat k))])) τ) => pre4 τ (st5 _ κ)
  obtain ⟨cl7, Ar7, -, S7, M7, -, -⟩ := id Va
  have pre8 := fun τ (κ : Steps p.tables e below (T5.setTop (mkF m 9 #[.val (.ref so), .val (.long x), .second] [(.int (Int32.ofNat z)), (.int (Int32.ofNat k))])) τ) => pre6 τ (by
    refine X5.arraylength hx (by rw [e5]; exact Ar7.1) (State.isArrayOf_alike hZ.alike Ar7.2.1) (g := (mkF m 8 #[.val (.ref so), .val (.long x), .second] [(.ref pa), (.int (Int32.ofNat k))])) rfl rfl (hb hby d15_8) _ ?_
    rw [len_of S7 M7]
    show Steps p.tables e below (T5.setTop (mkF m 9 #[.val (.ref so), .val (.long x), .second] [(.int (Int32.ofNat z)), (.int (Int32.ofNat k))])) _
    exact κ)
  by_cases q1 : (Int32.ofNat k) = (Int32.ofNat z)
  · have hkz : k = z := (own_injN (by omega) (by omega)).mp q1
    have pre9 := fun τ (κ : Steps p.tables e below (T5.setTop (mkF m 14 #[.val (.ref so), .val (.long x), .second] [(.ref so), (.ref so)])) τ) => pre8 τ (by
      refine XS.icmpNo X5.here hx rfl (hb hby d15_9) rfl (teq q1).2 ?_
      show Steps p.tables e below (T5.setTop (mkF m 12 #[.val (.ref so), .val (.long x), .second] [])) _
      refine XS.aloadN X5.here hx rfl (hb hby d15_12) rfl rfl ?_
      refine XS.aloadN X5.here hx rfl (hb hby d15_13) rfl rfl ?_
      show Steps p.tables e below (T5.setTop (mkF m 14 #[.val (.ref so), .val (.long x), .second] [(.ref so), (.ref so)])) _
      exact κ)
    obtain ⟨T10, X10, e10, st10⟩ := getF X5 hx hZ hown (host := "") (Or.inl (hw _ (List.mem_of_getElem? (i := 109) rfl))) Via.refl e5 Fp (g := (mkF m 14 #[.val (.ref so), .val (.long x), .second] [(.ref so), (.ref so)])) rfl rfl (hb hby d15_14)
    have pre11 := fun τ (κ : Steps p.tables e below (T10.setTop (mkF m 17 #[.val (.ref so), .val (.long x), .second] [(.ref pa), (.ref so)])) τ) => pre9 τ (st10 _ κ)
    have pre12 := fun τ (κ : Steps p.tables e below (T10.setTop (mkF m 19 #[.val (.ref so), .val (.long x), .second] [(.ref so), (.int (2 : Int32)), (.ref pa), (.ref so)])) τ) => pre11 τ (by
      refine XS.iconst X10.here hx rfl (hb hby d15_17) ?_
      refine XS.aloadN X10.here hx rfl (hb hby d15_18) rfl rfl ?_
      show Steps p.tables e below (T10.setTop (mkF m 19 #[.val (.ref so), .val (.long x), .second] [(.ref so), (.int (2 : Int32)), (.ref pa), (.ref so)])) _
      exact κ)
    obtain ⟨T13, X13, e13, st13⟩ := getF X10 hx hZ hown (host := "") (Or.inl (hw _ (List.mem_of_getElem? (i := 157) rfl))) Via.refl e10 Fk (g := (mkF m 19 #[.val (.ref so), .val (.long x), .second] [(.ref so), (.int (2 : Int32)), (.ref pa), (.ref so)])) rfl rfl (hb hby d15_19)
    have pre14 := fun τ (κ : Steps p.tables e below (T13.setTop (mkF m 22 #[.val (.ref so), .val (.long x), .second] [(.int (Int32.ofNat k)), (.int (2 : Int32)), (.ref pa), (.ref so)])) τ) => pre12 τ (st13 _ κ)
    have pre15 := fun τ (κ : Steps p.tables e below (T13.setTop (mkF m 23 #[.val (.ref so), .val (.long x), .second] [(.int ((2 : Int32) * (Int32.ofNat k))), (.ref pa), (.ref so)])) τ) => pre14 τ (by
      refine XS.imul X13.here hx rfl (hb hby d15_22) rfl ?_
      show Steps p.tables e below (T13.setTop (mkF m 23 #[.val (.ref so), .val (.long x), .second] [(.int ((2 : Int32) * (Int32.ofNat k))), (.ref pa), (.ref so)])) _
      exact κ)
    rw [show ((2 : Int32) * (Int32.ofNat k)) = (Int32.ofNat (2 * k)) from (own_mulN 2 k)] at pre15
    obtain ⟨_, _, ⟨T16, L16, k16, n16⟩, -, X16, ⟨Lc16, hQ16, l16, y16, z16⟩, st16⟩ := Jvm.LawKit.callS X13 hx (y := (⟨"java/util/Arrays", "copyOf", "([JI)[J"⟩ : MethodName)) hown (mvT hZ (hw _ (List.mem_of_getElem? (i := 159) rfl))) (mvT hZ (hw _ (List.mem_of_getElem? (i := 160) rfl))) (mvT hZ (hw _ (List.mem_of_getElem? (i := 77) rfl))) (mvT hZ (hw _ (List.mem_of_getElem? (i := 161) rfl))) (by decide) (backOf (W := 1) (rm16 l Z a0 hw [] pa z (2 * k) kp g h0 n0 Z0 Va (by omega) (by omega)) hZ (hw _ (List.mem_of_getElem? (i := 161) rfl)) (hw _ (List.mem_of_getElem? (i := 77) rfl)) (Nat.le_of_ble_eq_true rfl) (Nat.le_of_ble_eq_true rfl)) (g := (mkF m 23 #[.val (.ref so), .val (.long x), .second] [(.int (Int32.ofNat (2 * k))), (.ref pa), (.ref so)])) rfl (by rw [hml]; rfl) (argsL := [(.ref pa), (.int (Int32.ofNat (2 * k)))]) (rest := [(.ref so)]) (lenOf pd_11 rfl) rfl (by show 2 * 0 + _ ≤ _; exact Nat.le_of_eq rfl) (hb hby d15_23) (fun _ _ => ⟨rfl, e13, (by decide : 0 + 1 ≤ _), (by decide : 0 + 4 ≤ _)⟩)
    dsimp only [Pt.U, Pt.locs, Pt.cells, Pt.slots] at X16 l16 y16 z16 st16 hQ16
    subst l16 y16 z16
    obtain ⟨pb, kb, rfl, Nq16, K16, Vb, sb⟩ := hQ16
    have E_s_16 : Exa Z T16.heap so "com/example/earmark/earmark/ledger/HoldStates" := E_s.keep K16
    have Fp_16 : Fld Z T16.heap so "com/example/earmark/earmark/ledger/HoldStates" "passed" "[J" (.ref pa) := Fp.keep K16 nin0
    have Fk_16 : Fld Z T16.heap so "com/example/earmark/earmark/ledger/HoldStates" "passedCount" "I" (.int (Int32.ofNat k)) := Fk.keep K16 nin0
    have Va_16 : Arv Z T16.heap pa kp .long (Int32.ofNat z) (own_tabJ g (z)) (.long (0 : Int64)) := Va.keep K16 nin0
    have Z16 : n0 ≤ T16.heap.size := Nat.le_trans Z0 K16.1
    have Kp16 : Keep h0 T16.heap [so, pa] := Kp0.trans K16 all0
    have N16 := Fr.app N0 Nq16
    have pre17 := fun τ (κ : Steps p.tables e below (T16.setTop (mkF m 26 #[.val (.ref so), .val (.long x), .second] [(.ref pb), (.ref so)])) τ) => pre15 τ (st16 _ κ)
    have hpbs : pb ≠ so := Ne.symm (Nat.ne_of_lt (Nat.lt_of_lt_of_le E_s.lt sb))
    have g_pb : n0 ≤ pb := Nat.le_trans Z0 sb
    obtain ⟨T18, h18, X18, e18, W18, st18⟩ := putF X16 hx hZ hown (host := "") (Or.inl (hw _ (List.mem_of_getElem? (i := 109) rfl))) Via.refl rfl Fp_16 E_s_16 (Or.inl (hw _ (List.mem_of_getElem? (i := 110) rfl))) (hw _ (List.mem_of_getElem? (i := 5) rfl)) (ty := (.array .long)) (by decide) rfl rfl (g := (mkF m 26 #[.val (.ref so), .val (.long x), .second] [(.ref pb), (.ref so)])) rfl rfl (hb hby d15_26)
    have E_s_18 : Exa Z h18 so "com/example/earmark/earmark/ledger/HoldStates" := E_s_16.wr W18
    have Fk_18 : Fld Z h18 so "com/example/earmark/earmark/ledger/HoldStates" "passedCount" "I" (.int (Int32.ofNat k)) := Fk_16.other W18 (Or.inr (slot_ne (Or.inl (hw _ (List.mem_of_getElem? (i := 158) rfl))) (Or.inl (hw _ (List.mem_of_getElem? (i := 110) rfl))) (by decide) (t := .int) (t' := (.array .long)) (by decide) (by decide)))
    have Vb_18 : Arv Z h18 pb kb .long (Int32.ofNat (2 * k)) (own_tabJ (fun j => if j < z then g j else 0) (2 * k)) (.long (0 : Int64)) := Vb.other W18 hpbs
    have Kp18 : Keep h0 h18 [so, pa] := Kp16.wr W18 (Or.inl (List.mem_of_getElem? (i := 0) rfl))
    have N18 := Fr.snoc X18 N16 gs
    have Z18 : n0 ≤ h18.size := Nat.le_trans Z16 (Keep.of_wr W18).1
    have F_passed_so_18 : Fld Z h18 so "com/example/earmark/earmark/ledger/HoldStates" "passed" "[J" (.ref pb) := Fp_16.same W18
    have pre19 := fun τ (κ : Steps p.tables e below (T18.setTop (mkF m 29 #[.val (.ref so), .val (.long x), .second] [])) τ) => pre17 τ (st18 _ κ)
    have pre20 := fun τ (κ : Steps p.tables e below (T18.setTop (mkF m 30 #[.val (.ref so), .val (.long x), .second] [(.ref so)])) τ) => pre19 τ (by
      refine XS.aloadN X18.here hx rfl (hb hby d15_29) rfl rfl ?_
      show Steps p.tables e below (T18.setTop (mkF m 30 #[.val (.ref so), .val (.long x), .second] [(.ref so)])) _
      exact κ)
    obtain ⟨T21, X21, e21, st21⟩ := getF X18 hx hZ hown (host := "") (Or.inl (hw _ (List.mem_of_getElem? (i := 109) rfl))) Via.refl e18 F_passed_so_18 (g := (mkF m 30 #[.val (.ref so), .val (.long x), .second] [(.ref so)])) rfl rfl (hb hby d15_30)
    have pre22 := fun τ (κ : Steps p.tables e below (T21.setTop (mkF m 33 #[.val (.ref so), .val (.long x), .second] [(.ref pb)])) τ) => pre20 τ (st21 _ κ)
    have pre23 := fun τ (κ : Steps p.tables e below (T21.setTop (mkF m 35 #[.val (.ref so), .val (.long x), .second] [(.ref so), (.ref so), (.ref pb)])) τ) => pre22 τ (by
      refine XS.aloadN X21.here hx rfl (hb hby d15_33) rfl rfl ?_
      refine XS.dup X21.here hx rfl (hb hby d15_34) rfl rfl ?_
      show Steps p.tables e below (T21.setTop (mkF m 35 #[.val (.ref so), .val (.long x), .second] [(.ref so), (.ref so), (.ref pb)])) _
      exact κ)
    obtain ⟨T24, X24, e24, st24⟩ := getF X21 hx hZ hown (host := "") (Or.inl (hw _ (List.mem_of_getElem? (i := 157) rfl))) Via.refl e21 Fk_18 (g := (mkF m 35 #[.val (.ref so), .val (.long x), .second] [(.ref so), (.ref so), (.ref pb)])) rfl rfl (hb hby d15_35)
    have pre25 := fun τ (κ : Steps p.tables e below (T24.setTop (mkF m 38 #[.val (.ref so), .val (.long x), .second] [(.int (Int32.ofNat k)), (.ref so), (.ref pb)])) τ) => pre23 τ (st24 _ κ)
    have pre26 := fun τ (κ : Steps p.tables e below (T24.setTop (mkF m 41 #[.val (.ref so), .val (.long x), .second] [(.int ((Int32.ofNat k) + (1 : Int32))), (.ref so), (.int (Int32.ofNat k)), (.ref pb)])) τ) => pre25 τ (by
      refine XS.dupX1 X24.here hx rfl (hb hby d15_38) rfl rfl rfl ?_
      show Steps p.tables e below (T24.setTop (mkF m 39 #[.val (.ref so), .val (.long x), .second] [(.int (Int32.ofNat k)), (.ref so), (.int (Int32.ofNat k)), (.ref pb)])) _
      refine XS.iconst X24.here hx rfl (hb hby d15_39) ?_
      refine XS.iadd X24.here hx rfl (hb hby d15_40) rfl ?_
      show Steps p.tables e below (T24.setTop (mkF m 41 #[.val (.ref so), .val (.long x), .second] [(.int ((Int32.ofNat k) + (1 : Int32))), (.ref so), (.int (Int32.ofNat k)), (.ref pb)])) _
      exact κ)
    rw [show ((Int32.ofNat k) + (1 : Int32)) = (Int32.ofNat (k + 1)) from (own_addN _ 1)] at pre26
    obtain ⟨T27, h27, X27, e27, W27, st27⟩ := putF X24 hx hZ hown (host := "") (Or.inl (hw _ (List.mem_of_getElem? (i := 157) rfl))) Via.refl e24 Fk_18 E_s_18 (Or.inl (hw _ (List.mem_of_getElem? (i := 158) rfl))) (hw _ (List.mem_of_getElem? (i := 5) rfl)) (ty := .int) (by decide) rfl rfl (g := (mkF m 41 #[.val (.ref so), .val (.long x), .second] [(.int (Int32.ofNat (k + 1))), (.ref so), (.int (Int32.ofNat k)), (.ref pb)])) rfl rfl (hb hby d15_41)
    have E_s_27 : Exa Z h27 so "com/example/earmark/earmark/ledger/HoldStates" := E_s_18.wr W27
    have Vb_27 : Arv Z h27 pb kb .long (Int32.ofNat (2 * k)) (own_tabJ (fun j => if j < z then g j else 0) (2 * k)) (.long (0 : Int64)) := Vb_18.other W27 hpbs
    have F_passed_so_27 : Fld Z h27 so "com/example/earmark/earmark/ledger/HoldStates" "passed" "[J" (.ref pb) := F_passed_so_18.other W27 (Or.inr (slot_ne (Or.inl (hw _ (List.mem_of_getElem? (i := 110) rfl))) (Or.inl (hw _ (List.mem_of_getElem? (i := 158) rfl))) (by decide) (t := (.array .long)) (t' := .int) (by decide) (by decide)))
    have Kp27 : Keep h0 h27 [so, pa] := Kp18.wr W27 (Or.inl (List.mem_of_getElem? (i := 0) rfl))
    have N27 := Fr.snoc X27 N18 gs
    have Z27 : n0 ≤ h27.size := Nat.le_trans Z18 (Keep.of_wr W27).1
    have F_passedCount_so_27 : Fld Z h27 so "com/example/earmark/earmark/ledger/HoldStates" "passedCount" "I" (.int (Int32.ofNat (k + 1))) := Fk_18.same W27
    have pre28 := fun τ (κ : Steps p.tables e below (T27.setTop (mkF m 44 #[.val (.ref so), .val (.long x), .second] [(.int (Int32.ofNat k)), (.ref pb)])) τ) => pre26 τ (st27 _ κ)
    have pre29 := fun τ (κ : Steps p.tables e below (T27.setTop (mkF m 45 #[.val (.ref so), .val (.long x), .second] [(.long x), (.int (Int32.ofNat k)), (.ref pb)])) τ) => pre28 τ (by
      refine XS.lloadN X27.here hx rfl (hb hby d15_44) rfl ?_
      show Steps p.tables e below (T27.setTop (mkF m 45 #[.val (.ref so), .val (.long x), .second] [(.long x), (.int (Int32.ofNat k)), (.ref pb)])) _
      exact κ)
    have hj9 : (Int32.ofNat k).toNatClampNeg = k := own_clamp (by omega)
    have hi9 : k < (own_tabJ (fun j => if j < z then g j else 0) (2 * k)).length := by rw [own_tabJ_len]; omega
    obtain ⟨cl30, Ar30, q30, S30, M30, H30, G30⟩ := id Vb_27
    have in30 : ¬ ((Int32.ofNat k) < 0 ∨ cl30.slots.size ≤ ((Int32.ofNat k)).toNatClampNeg) := inb_of S30 ⟨own_nn (by omega), (own_ltN (by omega) (by omega)).mpr (by omega)⟩
    obtain ⟨T31, h31, X31, e31, W31, st31⟩ := stJ X27 hx hZ e27 Ar30 (j := (Int32.ofNat k)) in30 (g := (mkF m 45 #[.val (.ref so), .val (.long x), .second] [(.long x), (.int (Int32.ofNat k)), (.ref pb)])) rfl rfl (hb hby d15_45)
    have E_s_31 : Exa Z h31 so "com/example/earmark/earmark/ledger/HoldStates" := E_s_27.wr W31
    have F_passed_so_31 : Fld Z h31 so "com/example/earmark/earmark/ledger/HoldStates" "passed" "[J" (.ref pb) := F_passed_so_27.other W31 (Or.inl (Ne.symm hpbs))
    have F_passedCount_so_31 : Fld Z h31 so "com/example/earmark/earmark/ledger/HoldStates" "passedCount" "I" (.int (Int32.ofNat (k + 1))) := F_passedCount_so_27.other W31 (Or.inl (Ne.symm hpbs))
    have Kp31 : Keep h0 h31 [so, pa] := Kp27.wr W31 (Or.inr sb)
    have N31 := Fr.snoc X31 N27 g_pb
    have Z31 : n0 ≤ h31.size := Nat.le_trans Z27 (Keep.of_wr W31).1
    have V_pb_31 : Arv Z h31 pb kb .long (Int32.ofNat (2 * k)) (own_tabJ (fun j => if j = k then x else (fun j => if j < z then g j else 0) j) (2 * k)) (.long (0 : Int64)) := (own_tabJ_set (fun j => if j < z then g j else 0) (2 * k) k _) ▸ (Arv.set Ar30 q30 S30 M30 H30 G30 rfl W31 k (by first | rfl | assumption) (by assumption))
    have pre32 := fun τ (κ : Steps p.tables e below (T31.setTop (mkF m 46 #[.val (.ref so), .val (.long x), .second] [])) τ) => pre29 τ (st31 _ κ)
    obtain ⟨fs, hr, hrun, hended, hW, hsame⟩ := X31.leave (v := none) (fun _ => rfl)
    refine ⟨_, _, pre32 _ ?_, hrun, hended, _, _, rfl, ?_, ⟨_, rfl⟩, hW, hsame.mono (by decide) (by decide)⟩
    · exact X31.returnOut hx Bd.returns (hb hby d15_46) hr
    · show Q15 Z so x k z g h0 n0 _ T31.heap _
      rw [e31]
      exact ⟨rfl, N31, Kp31.1, E_s_31, 2 * k, (fun j => if j = k then x else (fun j => if j < z then g j else 0) j), by omega, by omega, (fun q => absurd q (by omega)), (fun j hj => by show (if j = k then x else if j < z then g j else 0) = g j; rw [if_neg (by omega)]; exact if_pos (by omega)), (by show (if k = k then x else if k < z then g k else 0) = x; exact if_pos rfl), pb, kb, F_passed_so_31, F_passedCount_so_31, V_pb_31, hpbs, g_pb⟩
  · have hkz : k < z := by have : k ≠ z := fun q => q1 (by rw [q]); omega
    have pre33 := fun τ (κ : Steps p.tables e below (T5.setTop (mkF m 30 #[.val (.ref so), .val (.long x), .second] [(.ref so)])) τ) => pre8 τ (by
      refine XS.icmpYes X5.here hx rfl (pc0 := 9) (pc' := 29) rfl (hb hby d15_9) rfl (feq q1).2 (by decide) (by decide) ?_
      show Steps p.tables e below (T5.setTop (mkF m 29 #[.val (.ref so), .val (.long x), .second] [])) _
      refine XS.aloadN X5.here hx rfl (hb hby d15_29) rfl rfl ?_
      show Steps p.tables e below (T5.setTop (mkF m 30 #[.val (.ref so), .val (.long x), .second] [(.ref so)])) _
      exact κ)
    obtain ⟨T34, X34, e34, st34⟩ := getF X5 hx hZ hown (host := "") (Or.inl (hw _ (List.mem_of_getElem? (i := 109) rfl))) Via.refl e5 Fp (g := (mkF m 30 #[.val (.ref so), .val (.long x), .second] [(.ref so)])) rfl rfl (hb hby d15_30)
    have pre35 := fun τ (κ : Steps p.tables e below (T34.setTop (mkF m 33 #[.val (.ref so), .val (.long x), .second] [(.ref pa)])) τ) => pre33 τ (st34 _ κ)
    have pre36 := fun τ (κ : Steps p.tables e below (T34.setTop (mkF m 35 #[.val (.ref so), .val (.long x), .second] [(.ref so), (.ref so), (.ref pa)])) τ) => pre35 τ (by
      refine XS.aloadN X34.here hx rfl (hb hby d15_33) rfl rfl ?_
      refine XS.dup X34.here hx rfl (hb hby d15_34) rfl rfl ?_
      show Steps p.tables e below (T34.setTop (mkF m 35 #[.val (.ref so), .val (.long x), .second] [(.ref so), (.ref so), (.ref pa)])) _
      exact κ)
    obtain ⟨T37, X37, e37, st37⟩ := getF X34 hx hZ hown (host := "") (Or.inl (hw _ (List.mem_of_getElem? (i := 157) rfl))) Via.refl e34 Fk (g := (mkF m 35 #[.val (.ref so), .val (.long x), .second] [(.ref so), (.ref so), (.ref pa)])) rfl rfl (hb hby d15_35)
    have pre38 := fun τ (κ : Steps p.tables e below (T37.setTop (mkF m 38 #[.val (.ref so), .val (.long x), .second] [(.int (Int32.ofNat k)), (.ref so), (.ref pa)])) τ) => pre36 τ (st37 _ κ)
    have pre39 := fun τ (κ : Steps p.tables e below (T37.setTop (mkF m 41 #[.val (.ref so), .val (.long x), .second] [(.int ((Int32.ofNat k) + (1 : Int32))), (.ref so), (.int (Int32.ofNat k)), (.ref pa)])) τ) => pre38 τ (by
      refine XS.dupX1 X37.here hx rfl (hb hby d15_38) rfl rfl rfl ?_
      show Steps p.tables e below (T37.setTop (mkF m 39 #[.val (.ref so), .val (.long x), .second] [(.int (Int32.ofNat k)), (.ref so), (.int (Int32.ofNat k)), (.ref pa)])) _
      refine XS.iconst X37.here hx rfl (hb hby d15_39) ?_
      refine XS.iadd X37.here hx rfl (hb hby d15_40) rfl ?_
      show Steps p.tables e below (T37.setTop (mkF m 41 #[.val (.ref so), .val (.long x), .second] [(.int ((Int32.ofNat k) + (1 : Int32))), (.ref so), (.int (Int32.ofNat k)), (.ref pa)])) _
      exact κ)
    rw [show ((Int32.ofNat k) + (1 : Int32)) = (Int32.ofNat (k + 1)) from (own_addN _ 1)] at pre39
    obtain ⟨T40, h40, X40, e40, W40, st40⟩ := putF X37 hx hZ hown (host := "") (Or.inl (hw _ (List.mem_of_getElem? (i := 157) rfl))) Via.refl e37 Fk E_s (Or.inl (hw _ (List.mem_of_getElem? (i := 158) rfl))) (hw _ (List.mem_of_getElem? (i := 5) rfl)) (ty := .int) (by decide) rfl rfl (g := (mkF m 41 #[.val (.ref so), .val (.long x), .second] [(.int (Int32.ofNat (k + 1))), (.ref so), (.int (Int32.ofNat k)), (.ref pa)])) rfl rfl (hb hby d15_41)
    have E_s_40 : Exa Z h40 so "com/example/earmark/earmark/ledger/HoldStates" := E_s.wr W40
    have Fp_40 : Fld Z h40 so "com/example/earmark/earmark/ledger/HoldStates" "passed" "[J" (.ref pa) := Fp.other W40 (Or.inr (slot_ne (Or.inl (hw _ (List.mem_of_getElem? (i := 110) rfl))) (Or.inl (hw _ (List.mem_of_getElem? (i := 158) rfl))) (by decide) (t := (.array .long)) (t' := .int) (by decide) (by decide)))
    have Va_40 : Arv Z h40 pa kp .long (Int32.ofNat z) (own_tabJ g (z)) (.long (0 : Int64)) := Va.other W40 hne
    have Kp40 : Keep h0 h40 [so, pa] := Kp0.wr W40 (Or.inl (List.mem_of_getElem? (i := 0) rfl))
    have N40 := Fr.snoc X40 N0 gs
    have Z40 : n0 ≤ h40.size := Nat.le_trans Z0 (Keep.of_wr W40).1
    have F_passedCount_so_40 : Fld Z h40 so "com/example/earmark/earmark/ledger/HoldStates" "passedCount" "I" (.int (Int32.ofNat (k + 1))) := Fk.same W40
    have pre41 := fun τ (κ : Steps p.tables e below (T40.setTop (mkF m 44 #[.val (.ref so), .val (.long x), .second] [(.int (Int32.ofNat k)), (.ref pa)])) τ) => pre39 τ (st40 _ κ)
    have pre42 := fun τ (κ : Steps p.tables e below (T40.setTop (mkF m 45 #[.val (.ref so), .val (.long x), .second] [(.long x), (.int (Int32.ofNat k)), (.ref pa)])) τ) => pre41 τ (by
      refine XS.lloadN X40.here hx rfl (hb hby d15_44) rfl ?_
      show Steps p.tables e below (T40.setTop (mkF m 45 #[.val (.ref so), .val (.long x), .second] [(.long x), (.int (Int32.ofNat k)), (.ref pa)])) _
      exact κ)
    have hj9 : (Int32.ofNat k).toNatClampNeg = k := own_clamp (by omega)
    have hi9 : k < (own_tabJ g (z)).length := by rw [own_tabJ_len]; omega
    obtain ⟨cl43, Ar43, q43, S43, M43, H43, G43⟩ := id Va_40
    have in43 : ¬ ((Int32.ofNat k) < 0 ∨ cl43.slots.size ≤ ((Int32.ofNat k)).toNatClampNeg) := inb_of S43 ⟨own_nn (by omega), (own_ltN (by omega) (by omega)).mpr (by omega)⟩
    obtain ⟨T44, h44, X44, e44, W44, st44⟩ := stJ X40 hx hZ e40 Ar43 (j := (Int32.ofNat k)) in43 (g := (mkF m 45 #[.val (.ref so), .val (.long x), .second] [(.long x), (.int (Int32.ofNat k)), (.ref pa)])) rfl rfl (hb hby d15_45)
    have E_s_44 : Exa Z h44 so "com/example/earmark/earmark/ledger/HoldStates" := E_s_40.wr W44
    have Fp_44 : Fld Z h44 so "com/example/earmark/earmark/ledger/HoldStates" "passed" "[J" (.ref pa) := Fp_40.other W44 (Or.inl (Ne.symm hne))
    have F_passedCount_so_44 : Fld Z h44 so "com/example/earmark/earmark/ledger/HoldStates" "passedCount" "I" (.int (Int32.ofNat (k + 1))) := F_passedCount_so_40.other W44 (Or.inl (Ne.symm hne))
    have Kp44 : Keep h0 h44 [so, pa] := Kp40.wr W44 (Or.inl (List.mem_of_getElem? (i := 1) rfl))
    have N44 := Fr.snoc X44 N40 gp
    have Z44 : n0 ≤ h44.size := Nat.le_trans Z40 (Keep.of_wr W44).1
    have V_pa_44 : Arv Z h44 pa kp .long (Int32.ofNat z) (own_tabJ (fun j => if j = k then x else g j) (z)) (.long (0 : Int64)) := (own_tabJ_set g (z) k _) ▸ (Arv.set Ar43 q43 S43 M43 H43 G43 rfl W44 k (by first | rfl | assumption) (by assumption))
    have pre45 := fun τ (κ : Steps p.tables e below (T44.setTop (mkF m 46 #[.val (.ref so), .val (.long x), .second] [])) τ) => pre42 τ (st44 _ κ)
    obtain ⟨fs, hr, hrun, hended, hW, hsame⟩ := X44.leave (v := none) (fun _ => rfl)
    refine ⟨_, _, pre45 _ ?_, hrun, hended, _, _, rfl, ?_, ⟨_, rfl⟩, hW, hsame.mono (by decide) (by decide)⟩
    · exact X44.returnOut hx Bd.returns (hb hby d15_46) hr
    · show Q15 Z so x k z g h0 n0 _ T44.heap _
      rw [e44]
      exact ⟨rfl, N44, Kp44.1, E_s_44, z, (fun j => if j = k then x else g j), by omega, by omega, (fun _ => rfl), (fun j hj => by show (if j = k then x else g j) = g j; exact if_neg (by omega)), (by show (if k = k then x else g k) = x; exact if_pos rfl), pa, kp, Fp_44, F_passedCount_so_44, V_pa_44, hne, gp⟩
set_option maxRecDepth 65536 in
set_option maxHeartbeats 40000000 in
theorem loopC {p : Program} {l : Launch} {e : Env} {R : Room} {s : State} {m : MethodId} {args : Array Value} {below : List Frame} {meth : Method} {c : Code} {Z : State} {a0 : Array Value} (hx : p.tables.exec = Jvm.exec) (hZ : Z.Warmed39 s.vm) (hw : ∀ d ∈ tables_1, d.before a0 Z = true) (hby : c.code = prog_73_method_21_code) (hml : c.maxLocals = 4) (hown : s.vm.findClass "com/example/earmark/earmark/ledger/HoldStates" = some m.cls) {n0 cells slots : Nat} {h0 : Heap} (so : Addr) (x : Int64) (k z : Nat) (g : Nat → Int64) (Z0 : n0 ≤ h0.size) (E_s : Exa Z h0 so "com/example/earmark/earmark/ledger/HoldStates") (gs : n0 ≤ so) (PB : own_PB Z h0 n0 so k z g) (hkz : k ≤ z) (hz4 : z ≤ 4) (hinj : own_inj k g) :
    ∀ (fu i : Nat) (T0 : State) (locs : List Loc), k ≤ i + fu → i ≤ k → (∀ j, j < i → ¬ g j = x) → Stand p l e R s m args below meth c T0 locs cells slots → T0.heap = h0 → Fr n0 locs →
      ∃ (T' : State) (h' : Heap) (lo : List Loc) (pc9 : Nat) (L9 : Array Slot) (k' : Nat) (g' : Nat → Int64), Stand p l e R s m args below meth c T' lo cells slots ∧ T'.heap = h' ∧ Fr n0 lo ∧ h0.size ≤ h'.size ∧ Exa Z h' so "com/example/earmark/earmark/ledger/HoldStates" ∧ own_PB Z h' n0 so k' z g' ∧ k' ≤ k ∧ own_inj k' g' ∧ (∀ v9, own_in k' g' v9 ↔ own_in k g v9 ∧ ¬ v9 = x) ∧ decode c.code pc9 = .ok (.return_, 1) ∧ ∀ t, Steps p.tables e below (T'.setTop (mkF m pc9 L9 [])) t → Steps p.tables e below (T0.setTop (mkF m 2 #[.val (.ref so), .val (.long x), .second, .val (.int (Int32.ofNat i))] [])) t := by
  intro fu
  induction fu with
  | zero =>
    intro i T0 locs hfu hi hall X0 e0 N0
    have hgt : ¬ i < k := by omega
    have pre0 := fun τ (κ : Steps p.tables e below (T0.setTop (mkF m 2 #[.val (.ref so), .val (.long x), .second, .val (.int (Int32.ofNat i))] [])) τ) => κ
    obtain ⟨pa, kp, Fp, Fk, Va, hne, gp⟩ := PB
    have Kp0 : Keep h0 h0 [so, pa] := Keep.refl _ _
    have pre1 := fun τ (κ : Steps p.tables e below (T0.setTop (mkF m 4 #[.val (.ref so), .val (.long x), .second, .val (.int (Int32.ofNat i))] [(.ref so), (.int (Int32.ofNat i))])) τ) => pre0 τ (by
      refine XS.iloadN X0.here hx rfl (hb hby d18_2) rfl ?_
      refine XS.aloadN X0.here hx rfl (hb hby d18_3) rfl rfl ?_
      show Steps p.tables e below (T0.setTop (mkF m 4 #[.val (.ref so), .val (.long x), .second, .val (.int (Int32.ofNat i))] [(.ref so), (.int (Int32.ofNat i))])) _
      exact κ)
    obtain ⟨T2, X2, e2, st2⟩ := getF X0 hx hZ hown (host := "") (Or.inl (hw _ (List.mem_of_getElem? (i := 157) rfl))) Via.refl e0 Fk (g := (mkF m 4 #[.val (.ref so), .val (.long x), .second, .val (.int (Int32.ofNat i))] [(.ref so), (.int (Int32.ofNat i))])) rfl rfl (hb hby d18_4)
    have pre3 := fun τ (κ : Steps p.tables e below (T2.setTop (mkF m 7 #[.val (.ref so), .val (.long x), .second, .val (.int (Int32.ofNat i))] [(.int (Int32.ofNat k)), (.int (Int32.ofNat i))])) τ) => pre1 τ (st2 _ κ)
    have pre4 := fun τ (κ : Steps p.tables e below (T2.setTop (mkF m 50 #[.val (.ref so), .val (.long x), .second, .val (.int (Int32.ofNat i))] [])) τ) => pre3 τ (by
      refine XS.icmpYes X2.here hx rfl (pc0 := 7) (pc' := 50) rfl (hb hby d18_7) rfl (flt (fun q => hgt ((own_ltN (by omega) (by omega)).mp q))).2.1 (by decide) (by decide) ?_
      show Steps p.tables e below (T2.setTop (mkF m 50 #[.val (.ref so), .val (.long x), .second, .val (.int (Int32.ofNat i))] [])) _
      exact κ)
    exact ⟨T2, h0, _, 50, _, k, g, X2, e2, N0, Nat.le_refl _, E_s, ⟨pa, kp, Fp, Fk, Va, hne, gp⟩, Nat.le_refl _, hinj, (fun v9 => ⟨fun q => ⟨q, fun z9 => by
      obtain ⟨j, hj, e9⟩ := q
      exact hall j (by omega) (e9.trans z9)⟩, fun q => q.1⟩), (hb hby d18_50), pre4⟩
  | succ fu ih =>
    intro i T0 locs hfu hi hall X0 e0 N0
    by_cases hgt : i < k
    · skip
      have pre0 := fun τ (κ : Steps p.tables e below (T0.setTop (mkF m 2 #[.val (.ref so), .val (.long x), .second, .val (.int (Int32.ofNat i))] [])) τ) => κ
      obtain ⟨pa, kp, Fp, Fk, Va, hne, gp⟩ := PB
      have Kp0 : Keep h0 h0 [so, pa] := Keep.refl _ _
      have pre1 := fun τ (κ : Steps p.tables e below (T0.setTop (mkF m 4 #[.val (.ref so), .val (.long x), .second, .val (.int (Int32.ofNat i))] [(.ref so), (.int (Int32.ofNat i))])) τ) => pre0 τ (by
        refine XS.iloadN X0.here hx rfl (hb hby d18_2) rfl ?_
        refine XS.aloadN X0.here hx rfl (hb hby d18_3) rfl rfl ?_
        show Steps p.tables e below (T0.setTop (mkF m 4 #[.val (.ref so), .val (.long x), .second, .val (.int (Int32.ofNat i))] [(.ref so), (.int (Int32.ofNat i))])) _
        exact κ)
      obtain ⟨T2, X2, e2, st2⟩ := getF X0 hx hZ hown (host := "") (Or.inl (hw _ (List.mem_of_getElem? (i := 157) rfl))) Via.refl e0 Fk (g := (mkF m 4 #[.val (.ref so), .val (.long x), .second, .val (.int (Int32.ofNat i))] [(.ref so), (.int (Int32.ofNat i))])) rfl rfl (hb hby d18_4)
      have pre3 := fun τ (κ : Steps p.tables e below (T2.setTop (mkF m 7 #[.val (.ref so), .val (.long x), .second, .val (.int (Int32.ofNat i))] [(.int (Int32.ofNat k)), (.int (Int32.ofNat i))])) τ) => pre1 τ (st2 _ κ)
      have pre4 := fun τ (κ : Steps p.tables e below (T2.setTop (mkF m 11 #[.val (.ref so), .val (.long x), .second, .val (.int (Int32.ofNat i))] [(.ref so)])) τ) => pre3 τ (by
        refine XS.icmpNo X2.here hx rfl (hb hby d18_7) rfl (tlt ((own_ltN (by omega) (by omega)).mpr hgt)).2.1 ?_
        show Steps p.tables e below (T2.setTop (mkF m 10 #[.val (.ref so), .val (.long x), .second, .val (.int (Int32.ofNat i))] [])) _
        refine XS.aloadN X2.here hx rfl (hb hby d18_10) rfl rfl ?_
        show Steps p.tables e below (T2.setTop (mkF m 11 #[.val (.ref so), .val (.long x), .second, .val (.int (Int32.ofNat i))] [(.ref so)])) _
        exact κ)
      obtain ⟨T5, X5, e5, st5⟩ := getF X2 hx hZ hown (host := "") (Or.inl (hw _ (List.mem_of_getElem? (i := 109) rfl))) Via.refl e2 Fp (g := (mkF m 11 #[.val (.ref so), .val (.long x), .second, .val (.int (Int32.ofNat i))] [(.ref so)])) rfl rfl (hb hby d18_11)
      have pre6 := fun τ (κ : Steps p.tables e below (T5.setTop (mkF m 14 #[.val (.ref so), .val (.long x), .second, .val (.int (Int32.ofNat i))] [(.ref pa)])) τ) => pre4 τ (st5 _ κ)
      have pre7 := fun τ (κ : Steps p.tables e below (T5.setTop (mkF m 15 #[.val (.ref so), .val (.long x), .second, .val (.int (Int32.ofNat i))] [(.int (Int32.ofNat i)), (.ref pa)])) τ) => pre6 τ (by
        refine XS.iloadN X5.here hx rfl (hb hby d18_14) rfl ?_
        show Steps p.tables e below (T5.setTop (mkF m 15 #[.val (.ref so), .val (.long x), .second, .val (.int (Int32.ofNat i))] [(.int (Int32.ofNat i)), (.ref pa)])) _
        exact κ)
      obtain ⟨cl8, Ar8, -, S8, M8, H8, -⟩ := id Va
      have in8 : ¬ ((Int32.ofNat i) < 0 ∨ cl8.slots.size ≤ ((Int32.ofNat i)).toNatClampNeg) := inb_of S8 ⟨own_nn (by omega), (own_ltN (by omega) (by omega)).mpr (by omega)⟩
      have at8 : cl8.slots[((Int32.ofNat i)).toNatClampNeg]? = some (.long (g i)) := H8.at in8 (by rw [own_clamp (by omega)]; exact own_tabJ_get (by omega) _)
      have pre9 := fun τ (κ : Steps p.tables e below (T5.setTop (mkF m 18 #[.val (.ref so), .val (.long x), .second, .val (.int (Int32.ofNat i))] [(.int (lcmpW (g i) x))])) τ) => pre7 τ (by
        refine X5.laload hx (j := (Int32.ofNat i)) (v := (.long (g i))) (by rw [e5]; exact Ar8.1) (State.isArrayOf_alike hZ.alike Ar8.2.1) Ar8.2.2 in8 at8 (g := (mkF m 15 #[.val (.ref so), .val (.long x), .second, .val (.int (Int32.ofNat i))] [(.int (Int32.ofNat i)), (.ref pa)])) rfl rfl (hb hby d18_15) _ ?_
        show Steps p.tables e below (T5.setTop (mkF m 16 #[.val (.ref so), .val (.long x), .second, .val (.int (Int32.ofNat i))] [(.long (g i))])) _
        refine XS.lloadN X5.here hx rfl (hb hby d18_16) rfl ?_
        refine XS.lcmp X5.here hx rfl (hb hby d18_17) rfl ?_
        show Steps p.tables e below (T5.setTop (mkF m 18 #[.val (.ref so), .val (.long x), .second, .val (.int (Int32.ofNat i))] [(.int (lcmpW (g i) x))])) _
        exact κ)
      by_cases q1 : (lcmpW (g i) x) = (0 : Int32)
      · have hxi : g i = x := (lw_eq _ _).mp q1
        have pre10 := fun τ (κ : Steps p.tables e below (T5.setTop (mkF m 22 #[.val (.ref so), .val (.long x), .second, .val (.int (Int32.ofNat i))] [(.ref so)])) τ) => pre9 τ (by
          refine XS.ifNo X5.here hx rfl (hb hby d18_18) rfl ((if0 _ _).trans (teq q1).2) ?_
          show Steps p.tables e below (T5.setTop (mkF m 21 #[.val (.ref so), .val (.long x), .second, .val (.int (Int32.ofNat i))] [])) _
          refine XS.aloadN X5.here hx rfl (hb hby d18_21) rfl rfl ?_
          show Steps p.tables e below (T5.setTop (mkF m 22 #[.val (.ref so), .val (.long x), .second, .val (.int (Int32.ofNat i))] [(.ref so)])) _
          exact κ)
        obtain ⟨T11, X11, e11, st11⟩ := getF X5 hx hZ hown (host := "") (Or.inl (hw _ (List.mem_of_getElem? (i := 109) rfl))) Via.refl e5 Fp (g := (mkF m 22 #[.val (.ref so), .val (.long x), .second, .val (.int (Int32.ofNat i))] [(.ref so)])) rfl rfl (hb hby d18_22)
        have pre12 := fun τ (κ : Steps p.tables e below (T11.setTop (mkF m 25 #[.val (.ref so), .val (.long x), .second, .val (.int (Int32.ofNat i))] [(.ref pa)])) τ) => pre10 τ (st11 _ κ)
        have pre13 := fun τ (κ : Steps p.tables e below (T11.setTop (mkF m 27 #[.val (.ref so), .val (.long x), .second, .val (.int (Int32.ofNat i))] [(.ref so), (.int (Int32.ofNat i)), (.ref pa)])) τ) => pre12 τ (by
          refine XS.iloadN X11.here hx rfl (hb hby d18_25) rfl ?_
          refine XS.aloadN X11.here hx rfl (hb hby d18_26) rfl rfl ?_
          show Steps p.tables e below (T11.setTop (mkF m 27 #[.val (.ref so), .val (.long x), .second, .val (.int (Int32.ofNat i))] [(.ref so), (.int (Int32.ofNat i)), (.ref pa)])) _
          exact κ)
        obtain ⟨T14, X14, e14, st14⟩ := getF X11 hx hZ hown (host := "") (Or.inl (hw _ (List.mem_of_getElem? (i := 109) rfl))) Via.refl e11 Fp (g := (mkF m 27 #[.val (.ref so), .val (.long x), .second, .val (.int (Int32.ofNat i))] [(.ref so), (.int (Int32.ofNat i)), (.ref pa)])) rfl rfl (hb hby d18_27)
        have pre15 := fun τ (κ : Steps p.tables e below (T14.setTop (mkF m 30 #[.val (.ref so), .val (.long x), .second, .val (.int (Int32.ofNat i))] [(.ref pa), (.int (Int32.ofNat i)), (.ref pa)])) τ) => pre13 τ (st14 _ κ)
        have pre16 := fun τ (κ : Steps p.tables e below (T14.setTop (mkF m 32 #[.val (.ref so), .val (.long x), .second, .val (.int (Int32.ofNat i))] [(.ref so), (.ref so), (.ref pa), (.int (Int32.ofNat i)), (.ref pa)])) τ) => pre15 τ (by
          refine XS.aloadN X14.here hx rfl (hb hby d18_30) rfl rfl ?_
          refine XS.dup X14.here hx rfl (hb hby d18_31) rfl rfl ?_
          show Steps p.tables e below (T14.setTop (mkF m 32 #[.val (.ref so), .val (.long x), .second, .val (.int (Int32.ofNat i))] [(.ref so), (.ref so), (.ref pa), (.int (Int32.ofNat i)), (.ref pa)])) _
          exact κ)
        obtain ⟨T17, X17, e17, st17⟩ := getF X14 hx hZ hown (host := "") (Or.inl (hw _ (List.mem_of_getElem? (i := 157) rfl))) Via.refl e14 Fk (g := (mkF m 32 #[.val (.ref so), .val (.long x), .second, .val (.int (Int32.ofNat i))] [(.ref so), (.ref so), (.ref pa), (.int (Int32.ofNat i)), (.ref pa)])) rfl rfl (hb hby d18_32)
        have pre18 := fun τ (κ : Steps p.tables e below (T17.setTop (mkF m 35 #[.val (.ref so), .val (.long x), .second, .val (.int (Int32.ofNat i))] [(.int (Int32.ofNat k)), (.ref so), (.ref pa), (.int (Int32.ofNat i)), (.ref pa)])) τ) => pre16 τ (st17 _ κ)
        have pre19 := fun τ (κ : Steps p.tables e below (T17.setTop (mkF m 37 #[.val (.ref so), .val (.long x), .second, .val (.int (Int32.ofNat i))] [(.int ((Int32.ofNat k) - (1 : Int32))), (.ref so), (.ref pa), (.int (Int32.ofNat i)), (.ref pa)])) τ) => pre18 τ (by
          refine XS.iconst X17.here hx rfl (hb hby d18_35) ?_
          refine XS.isub X17.here hx rfl (hb hby d18_36) rfl ?_
          show Steps p.tables e below (T17.setTop (mkF m 37 #[.val (.ref so), .val (.long x), .second, .val (.int (Int32.ofNat i))] [(.int ((Int32.ofNat k) - (1 : Int32))), (.ref so), (.ref pa), (.int (Int32.ofNat i)), (.ref pa)])) _
          exact κ)
        rw [show ((Int32.ofNat k) - (1 : Int32)) = (Int32.ofNat (k - 1)) from (own_sub1 (by omega))] at pre19
        have pre20 := fun τ (κ : Steps p.tables e below (T17.setTop (mkF m 38 #[.val (.ref so), .val (.long x), .second, .val (.int (Int32.ofNat i))] [(.int (Int32.ofNat (k - 1))), (.ref so), (.int (Int32.ofNat (k - 1))), (.ref pa), (.int (Int32.ofNat i)), (.ref pa)])) τ) => pre19 τ (by
          refine XS.dupX1 X17.here hx rfl (hb hby d18_37) rfl rfl rfl ?_
          show Steps p.tables e below (T17.setTop (mkF m 38 #[.val (.ref so), .val (.long x), .second, .val (.int (Int32.ofNat i))] [(.int (Int32.ofNat (k - 1))), (.ref so), (.int (Int32.ofNat (k - 1))), (.ref pa), (.int (Int32.ofNat i)), (.ref pa)])) _
          exact κ)
        obtain ⟨T21, h21, X21, e21, W21, st21⟩ := putF X17 hx hZ hown (host := "") (Or.inl (hw _ (List.mem_of_getElem? (i := 157) rfl))) Via.refl e17 Fk E_s (Or.inl (hw _ (List.mem_of_getElem? (i := 158) rfl))) (hw _ (List.mem_of_getElem? (i := 5) rfl)) (ty := .int) (by decide) rfl rfl (g := (mkF m 38 #[.val (.ref so), .val (.long x), .second, .val (.int (Int32.ofNat i))] [(.int (Int32.ofNat (k - 1))), (.ref so), (.int (Int32.ofNat (k - 1))), (.ref pa), (.int (Int32.ofNat i)), (.ref pa)])) rfl rfl (hb hby d18_38)
        have E_s_21 : Exa Z h21 so "com/example/earmark/earmark/ledger/HoldStates" := E_s.wr W21
        have Fp_21 : Fld Z h21 so "com/example/earmark/earmark/ledger/HoldStates" "passed" "[J" (.ref pa) := Fp.other W21 (Or.inr (slot_ne (Or.inl (hw _ (List.mem_of_getElem? (i := 110) rfl))) (Or.inl (hw _ (List.mem_of_getElem? (i := 158) rfl))) (by decide) (t := (.array .long)) (t' := .int) (by decide) (by decide)))
        have Va_21 : Arv Z h21 pa kp .long (Int32.ofNat z) (own_tabJ g (z)) (.long (0 : Int64)) := Va.other W21 hne
        have Kp21 : Keep h0 h21 [so, pa] := Kp0.wr W21 (Or.inl (List.mem_of_getElem? (i := 0) rfl))
        have N21 := Fr.snoc X21 N0 gs
        have Z21 : n0 ≤ h21.size := Nat.le_trans Z0 (Keep.of_wr W21).1
        have F_passedCount_so_21 : Fld Z h21 so "com/example/earmark/earmark/ledger/HoldStates" "passedCount" "I" (.int (Int32.ofNat (k - 1))) := Fk.same W21
        have pre22 := fun τ (κ : Steps p.tables e below (T21.setTop (mkF m 41 #[.val (.ref so), .val (.long x), .second, .val (.int (Int32.ofNat i))] [(.int (Int32.ofNat (k - 1))), (.ref pa), (.int (Int32.ofNat i)), (.ref pa)])) τ) => pre20 τ (st21 _ κ)
        obtain ⟨cl23, Ar23, -, S23, M23, H23, -⟩ := id Va_21
        have in23 : ¬ ((Int32.ofNat (k - 1)) < 0 ∨ cl23.slots.size ≤ ((Int32.ofNat (k - 1))).toNatClampNeg) := inb_of S23 ⟨own_nn (by omega), (own_ltN (by omega) (by omega)).mpr (by omega)⟩
        have at23 : cl23.slots[((Int32.ofNat (k - 1))).toNatClampNeg]? = some (.long (g (k - 1))) := H23.at in23 (by rw [own_clamp (by omega)]; exact own_tabJ_get (by omega) _)
        have pre24 := fun τ (κ : Steps p.tables e below (T21.setTop (mkF m 42 #[.val (.ref so), .val (.long x), .second, .val (.int (Int32.ofNat i))] [(.long (g (k - 1))), (.int (Int32.ofNat i)), (.ref pa)])) τ) => pre22 τ (by
          refine X21.laload hx (j := (Int32.ofNat (k - 1))) (v := (.long (g (k - 1)))) (by rw [e21]; exact Ar23.1) (State.isArrayOf_alike hZ.alike Ar23.2.1) Ar23.2.2 in23 at23 (g := (mkF m 41 #[.val (.ref so), .val (.long x), .second, .val (.int (Int32.ofNat i))] [(.int (Int32.ofNat (k - 1))), (.ref pa), (.int (Int32.ofNat i)), (.ref pa)])) rfl rfl (hb hby d18_41) _ ?_
          show Steps p.tables e below (T21.setTop (mkF m 42 #[.val (.ref so), .val (.long x), .second, .val (.int (Int32.ofNat i))] [(.long (g (k - 1))), (.int (Int32.ofNat i)), (.ref pa)])) _
          exact κ)
        have hj9 : (Int32.ofNat i).toNatClampNeg = i := own_clamp (by omega)
        have hi9 : i < (own_tabJ g (z)).length := by rw [own_tabJ_len]; omega
        obtain ⟨cl25, Ar25, q25, S25, M25, H25, G25⟩ := id Va_21
        have in25 : ¬ ((Int32.ofNat i) < 0 ∨ cl25.slots.size ≤ ((Int32.ofNat i)).toNatClampNeg) := inb_of S25 ⟨own_nn (by omega), (own_ltN (by omega) (by omega)).mpr (by omega)⟩
        obtain ⟨T26, h26, X26, e26, W26, st26⟩ := stJ X21 hx hZ e21 Ar25 (j := (Int32.ofNat i)) in25 (g := (mkF m 42 #[.val (.ref so), .val (.long x), .second, .val (.int (Int32.ofNat i))] [(.long (g (k - 1))), (.int (Int32.ofNat i)), (.ref pa)])) rfl rfl (hb hby d18_42)
        have E_s_26 : Exa Z h26 so "com/example/earmark/earmark/ledger/HoldStates" := E_s_21.wr W26
        have Fp_26 : Fld Z h26 so "com/example/earmark/earmark/ledger/HoldStates" "passed" "[J" (.ref pa) := Fp_21.other W26 (Or.inl (Ne.symm hne))
        have F_passedCount_so_26 : Fld Z h26 so "com/example/earmark/earmark/ledger/HoldStates" "passedCount" "I" (.int (Int32.ofNat (k - 1))) := F_passedCount_so_21.other W26 (Or.inl (Ne.symm hne))
        have Kp26 : Keep h0 h26 [so, pa] := Kp21.wr W26 (Or.inl (List.mem_of_getElem? (i := 1) rfl))
        have N26 := Fr.snoc X26 N21 gp
        have Z26 : n0 ≤ h26.size := Nat.le_trans Z21 (Keep.of_wr W26).1
        have V_pa_26 : Arv Z h26 pa kp .long (Int32.ofNat z) (own_tabJ (fun j => if j = i then g (k - 1) else g j) (z)) (.long (0 : Int64)) := (own_tabJ_set g z i _) ▸ (Arv.set Ar25 q25 S25 M25 H25 G25 rfl W26 i (by first | rfl | assumption) (by assumption))
        have pre27 := fun τ (κ : Steps p.tables e below (T26.setTop (mkF m 43 #[.val (.ref so), .val (.long x), .second, .val (.int (Int32.ofNat i))] [])) τ) => pre24 τ (st26 _ κ)
        exact ⟨T26, h26, _, 43, _, k - 1, (fun j => if j = i then g (k - 1) else g j), X26, e26, N26, Kp26.1, E_s_26, ⟨pa, kp, Fp_26, F_passedCount_so_26, V_pa_26, hne, gp⟩, by omega, own_injR hinj hgt, (fun v9 => own_inR hinj hgt hxi), (hb hby d18_43), pre27⟩
      · have pre28 := fun τ (κ : Steps p.tables e below (T5.setTop (mkF m 2 #[.val (.ref so), .val (.long x), .second, .val (.int ((Int32.ofNat i) + (1 : Int32)))] [])) τ) => pre9 τ (by
          refine XS.ifYes X5.here hx rfl (pc0 := 18) (pc' := 44) rfl (hb hby d18_18) rfl ((if0 _ _).trans (feq q1).2) (by decide) (by decide) ?_
          show Steps p.tables e below (T5.setTop (mkF m 44 #[.val (.ref so), .val (.long x), .second, .val (.int (Int32.ofNat i))] [])) _
          refine XS.iinc X5.here hx rfl (hb hby d18_44) rfl (l' := #[.val (.ref so), .val (.long x), .second, .val (.int ((Int32.ofNat i) + (1 : Int32)))]) rfl ?_
          show Steps p.tables e below (T5.setTop (mkF m 47 #[.val (.ref so), .val (.long x), .second, .val (.int ((Int32.ofNat i) + (1 : Int32)))] [])) _
          refine XS.goto X5.here hx rfl (pc0 := 47) (pc' := 2) rfl (hb hby d18_47) (by decide) (by decide) ?_
          show Steps p.tables e below (T5.setTop (mkF m 2 #[.val (.ref so), .val (.long x), .second, .val (.int ((Int32.ofNat i) + (1 : Int32)))] [])) _
          exact κ)
        rw [show ((Int32.ofNat i) + (1 : Int32)) = (Int32.ofNat (i + 1)) from (own_addN _ 1)] at pre28
        obtain ⟨a1, a2, a3, a4, a5, a6, a7, b1, b2, b3, b4, b5, b6, b7, b8, b9, b10, a9⟩ := ih (i + 1) _ _ (by omega) (by omega) (fun j hj => by
          by_cases q9 : j = i
          · rw [q9]; exact fun z9 => q1 ((lw_eq _ _).mpr z9)
          · exact hall j (by omega)) X5 e5 N0
        exact ⟨a1, a2, a3, a4, a5, a6, a7, b1, b2, b3, b4, b5, b6, b7, b8, b9, b10, fun τ κ => pre28 τ (a9 τ κ)⟩
    · skip
      have pre0 := fun τ (κ : Steps p.tables e below (T0.setTop (mkF m 2 #[.val (.ref so), .val (.long x), .second, .val (.int (Int32.ofNat i))] [])) τ) => κ
      obtain ⟨pa, kp, Fp, Fk, Va, hne, gp⟩ := PB
      have Kp0 : Keep h0 h0 [so, pa] := Keep.refl _ _
      have pre1 := fun τ (κ : Steps p.tables e below (T0.setTop (mkF m 4 #[.val (.ref so), .val (.long x), .second, .val (.int (Int32.ofNat i))] [(.ref so), (.int (Int32.ofNat i))])) τ) => pre0 τ (by
        refine XS.iloadN X0.here hx rfl (hb hby d18_2) rfl ?_
        refine XS.aloadN X0.here hx rfl (hb hby d18_3) rfl rfl ?_
        show Steps p.tables e below (T0.setTop (mkF m 4 #[.val (.ref so), .val (.long x), .second, .val (.int (Int32.ofNat i))] [(.ref so), (.int (Int32.ofNat i))])) _
        exact κ)
      obtain ⟨T2, X2, e2, st2⟩ := getF X0 hx hZ hown (host := "") (Or.inl (hw _ (List.mem_of_getElem? (i := 157) rfl))) Via.refl e0 Fk (g := (mkF m 4 #[.val (.ref so), .val (.long x), .second, .val (.int (Int32.ofNat i))] [(.ref so), (.int (Int32.ofNat i))])) rfl rfl (hb hby d18_4)
      have pre3 := fun τ (κ : Steps p.tables e below (T2.setTop (mkF m 7 #[.val (.ref so), .val (.long x), .second, .val (.int (Int32.ofNat i))] [(.int (Int32.ofNat k)), (.int (Int32.ofNat i))])) τ) => pre1 τ (st2 _ κ)
      have pre4 := fun τ (κ : Steps p.tables e below (T2.setTop (mkF m 50 #[.val (.ref so), .val (.long x), .second, .val (.int (Int32.ofNat i))] [])) τ) => pre3 τ (by
        refine XS.icmpYes X2.here hx rfl (pc0 := 7) (pc' := 50) rfl (hb hby d18_7) rfl (flt (fun q => hgt ((own_ltN (by omega) (by omega)).mp q))).2.1 (by decide) (by decide) ?_
        show Steps p.tables e below (T2.setTop (mkF m 50 #[.val (.ref so), .val (.long x), .second, .val (.int (Int32.ofNat i))] [])) _
        exact κ)
      exact ⟨T2, h0, _, 50, _, k, g, X2, e2, N0, Nat.le_refl _, E_s, ⟨pa, kp, Fp, Fk, Va, hne, gp⟩, Nat.le_refl _, hinj, (fun v9 => ⟨fun q => ⟨q, fun z9 => by
        obtain ⟨j, hj, e9⟩ := q
        exact hall j (by omega) (e9.trans z9)⟩, fun q => q.1⟩), (hb hby d18_50), pre4⟩

theorem ef_18 (m : MethodId) (so : Addr) (x : Int64) (k : Nat) (z : Nat) : entryFrame m #[(.ref so), (.long x)] 4 = mkF m 0 #[.val (.ref so), .val (.long x), .second, .unset] [] := by first | (simp [entryFrame, mkF, argsToLocals, Value.category]; done) | rfl
def Q18 (Z : State) (so : Addr) (x : Int64) (k : Nat) (z : Nat) (g : Nat → Int64) (h0 : Heap) (n0 : Nat) (v : Option Value) (h : Heap) (L : List Loc) : Prop := v = none ∧ Fr n0 L ∧ ∃ (k' : Nat) (g' : Nat → Int64), h0.size ≤ h.size ∧ Exa Z h so "com/example/earmark/earmark/ledger/HoldStates" ∧ own_PB Z h n0 so k' z g' ∧ k' ≤ k ∧ own_inj k' g' ∧ (∀ v9, own_in k' g' v9 ↔ own_in k g v9 ∧ ¬ v9 = x)
set_option maxRecDepth 65536 in
set_option maxHeartbeats 40000000 in
theorem rm18 (l : Launch) (Z : State) (a0 : Array Value) (hw : ∀ d ∈ tables_1, d.before a0 Z = true) (ws : List Jvm.Cond) (so : Addr) (x : Int64) (k : Nat) (z : Nat) (g : Nat → Int64) (h0 : Heap) (n0 : Nat) (Z0 : n0 ≤ h0.size) (E_s : Exa Z h0 so "com/example/earmark/earmark/ledger/HoldStates") (gs : n0 ≤ so) (PB : own_PB Z h0 n0 so k z g) (hkz : k ≤ z) (hz4 : z ≤ 4) (hinj : own_inj k g) :
    MetFree l (⟨"com/example/earmark/earmark/ledger/HoldStates", "batchClosed", "(J)V"⟩ : MethodName) (head1 (Jvm.Cond.code (⟨"com/example/earmark/earmark/ledger/HoldStates", "batchClosed", "(J)V"⟩ : MethodName) prog_73_method_21_code 4 none :: ws) ({ frames := 0, cells := 0, slots := 0, locals := 0 } : Room)) (fun α υ => α = #[(.ref so), (.long x)] ∧ Z.Warmed39 υ.vm ∧ υ.heap = h0) (fun _ _ _ _ _ => True) (fun _ υ ω υ' => ∃ v L, ω = .returned v ∧ Q18 Z so x k z g h0 n0 v υ'.heap L ∧ FrameEnd υ ω υ' L ({ frames := 0, cells := 0, slots := 0, locals := 0 } : Room).cells ({ frames := 0, cells := 0, slots := 0, locals := 0 } : Room).slots) := by
  refine MetFree.of_bodySF (plainFor_of_name pn_com_example_earmark_earmark_ledger_HoldStates) hisR ?_
  intro p e s m args below meth c s₁ Bd hml0 hP hK
  obtain ⟨rfl, hZ, hh⟩ := hP
  have hx := Bd.exec
  have hby := Bd.bytes
  have hml : c.maxLocals = 4 := hml0
  have hown : s.vm.findClass "com/example/earmark/earmark/ledger/HoldStates" = some m.cls := findClass_of_methodNamed Bd.named
  have hnm := (name_of_methodNamed Bd.named Bd.method).1
  have X0 : Stand p l e ({ frames := 0, cells := 0, slots := 0, locals := 0 } : Room) s m #[(.ref so), (.long x)] below meth c s₁ [] 0 0 := Stand.of_body Bd
  have e0 : s₁.heap = h0 := by rw [← hh, Bd.state]; rfl
  have N0 := Fr.nil n0
  have pre0 : ∀ τ, Steps p.tables e below (s₁.setTop (mkF m 0 #[.val (.ref so), .val (.long x), .second, .unset] [])) τ → Steps p.tables e below (s₁.setTop (entryFrame m #[(.ref so), (.long x)] 4)) τ := fun τ κ => castTop (ef_18 m so x k z) κ
  have pre1 := fun τ (κ : Steps p.tables e below (s₁.setTop (mkF m 2 #[.val (.ref so), .val (.long x), .second, .val (.int (0 : Int32))] [])) τ) => pre0 τ (by
    refine XS.iconst X0.here hx rfl (hb hby d18_0) ?_
    refine XS.istoreN X0.here hx rfl (hb hby d18_1) rfl (l' := #[.val (.ref so), .val (.long x), .second, .val (.int (0 : Int32))]) rfl ?_
    show Steps p.tables e below (s₁.setTop (mkF m 2 #[.val (.ref so), .val (.long x), .second, .val (.int (0 : Int32))] [])) _
    exact κ)
  obtain ⟨T9, h9, lo9, pc9, L9, k', g', X9, e9, N9, b4, b5, b6, b7, b8, b9, d9, st9⟩ := loopC hx hZ hw hby hml hown so x k z g Z0 E_s gs PB hkz hz4 hinj k 0 _ _ (by omega) (by omega) (fun j hj => absurd hj (by omega)) X0 e0 N0
  have pre99 := fun τ (κ : Steps p.tables e below (T9.setTop (mkF m pc9 L9 [])) τ) => pre1 τ (st9 τ κ)
  obtain ⟨fs, hr, hrun, hended, hW, hsame⟩ := X9.leave (v := none) (fun _ => rfl)
  refine ⟨_, _, pre99 _ ?_, hrun, hended, _, _, rfl, ?_, ⟨_, rfl⟩, hW, hsame.mono (by decide) (by decide)⟩
  · exact X9.returnOut hx Bd.returns d9 hr
  · show Q18 Z so x k z g h0 n0 _ T9.heap _
    rw [e9]
    exact ⟨rfl, N9, k', g', b4, b5, b6, b7, b8, b9⟩
set_option maxRecDepth 65536 in
set_option maxHeartbeats 40000000 in
theorem loopH {p : Program} {l : Launch} {e : Env} {R : Room} {s : State} {m : MethodId} {args : Array Value} {below : List Frame} {meth : Method} {c : Code} {Z : State} {a0 : Array Value} (hx : p.tables.exec = Jvm.exec) (hZ : Z.Warmed39 s.vm) (hw : ∀ d ∈ tables_1, d.before a0 Z = true) (hby : c.code = prog_73_method_20_code) (hml : c.maxLocals = 4) (hown : s.vm.findClass "com/example/earmark/earmark/ledger/HoldStates" = some m.cls) {n0 cells slots : Nat} {h0 : Heap} (so : Addr) (x : Int64) (k z : Nat) (g : Nat → Int64) (Z0 : n0 ≤ h0.size) (E_s : Exa Z h0 so "com/example/earmark/earmark/ledger/HoldStates") (gs : n0 ≤ so) (PB : own_PB Z h0 n0 so k z g) (hkz : k ≤ z) (hz4 : z ≤ 4) :
    ∀ (fu i : Nat) (T0 : State) (locs : List Loc), k ≤ i + fu → i ≤ k → (∀ j, j < i → ¬ g j = x) → Stand p l e R s m args below meth c T0 locs cells slots → T0.heap = h0 → Fr n0 locs →
      ∃ (T' : State) (lo : List Loc) (pc9 : Nat) (L9 : Array Slot) (r9 : Int32), Stand p l e R s m args below meth c T' lo cells slots ∧ T'.heap = h0 ∧ Fr n0 lo ∧ ((own_in k g x ∧ r9 = 1) ∨ (¬ own_in k g x ∧ r9 = 0)) ∧ decode c.code pc9 = .ok (.ireturn, 1) ∧ ∀ t, Steps p.tables e below (T'.setTop (mkF m pc9 L9 [.int r9])) t → Steps p.tables e below (T0.setTop (mkF m 2 #[.val (.ref so), .val (.long x), .second, .val (.int (Int32.ofNat i))] [])) t := by
  intro fu
  induction fu with
  | zero =>
    intro i T0 locs hfu hi hall X0 e0 N0
    have hgt : ¬ i < k := by omega
    have pre0 := fun τ (κ : Steps p.tables e below (T0.setTop (mkF m 2 #[.val (.ref so), .val (.long x), .second, .val (.int (Int32.ofNat i))] [])) τ) => κ
    obtain ⟨pa, kp, Fp, Fk, Va, hne, gp⟩ := PB
    have Kp0 : Keep h0 h0 [so, pa] := Keep.refl _ _
    have pre1 := fun τ (κ : Steps p.tables e below (T0.setTop (mkF m 4 #[.val (.ref so), .val (.long x), .second, .val (.int (Int32.ofNat i))] [(.ref so), (.int (Int32.ofNat i))])) τ) => pre0 τ (by
      refine XS.iloadN X0.here hx rfl (hb hby d19_2) rfl ?_
      refine XS.aloadN X0.here hx rfl (hb hby d19_3) rfl rfl ?_
      show Steps p.tables e below (T0.setTop (mkF m 4 #[.val (.ref so), .val (.long x), .second, .val (.int (Int32.ofNat i))] [(.ref so), (.int (Int32.ofNat i))])) _
      exact κ)
    obtain ⟨T2, X2, e2, st2⟩ := getF X0 hx hZ hown (host := "") (Or.inl (hw _ (List.mem_of_getElem? (i := 157) rfl))) Via.refl e0 Fk (g := (mkF m 4 #[.val (.ref so), .val (.long x), .second, .val (.int (Int32.ofNat i))] [(.ref so), (.int (Int32.ofNat i))])) rfl rfl (hb hby d19_4)
    have pre3 := fun τ (κ : Steps p.tables e below (T2.setTop (mkF m 7 #[.val (.ref so), .val (.long x), .second, .val (.int (Int32.ofNat i))] [(.int (Int32.ofNat k)), (.int (Int32.ofNat i))])) τ) => pre1 τ (st2 _ κ)
    have pre4 := fun τ (κ : Steps p.tables e below (T2.setTop (mkF m 30 #[.val (.ref so), .val (.long x), .second, .val (.int (Int32.ofNat i))] [(.int (0 : Int32))])) τ) => pre3 τ (by
      refine XS.icmpYes X2.here hx rfl (pc0 := 7) (pc' := 29) rfl (hb hby d19_7) rfl (flt (fun q => hgt ((own_ltN (by omega) (by omega)).mp q))).2.1 (by decide) (by decide) ?_
      show Steps p.tables e below (T2.setTop (mkF m 29 #[.val (.ref so), .val (.long x), .second, .val (.int (Int32.ofNat i))] [])) _
      refine XS.iconst X2.here hx rfl (hb hby d19_29) ?_
      show Steps p.tables e below (T2.setTop (mkF m 30 #[.val (.ref so), .val (.long x), .second, .val (.int (Int32.ofNat i))] [(.int (0 : Int32))])) _
      exact κ)
    exact ⟨T2, _, 30, _, 0, X2, e2, N0, Or.inr ⟨fun ⟨j, hj, e9⟩ => hall j (by omega) e9, rfl⟩, (hb hby d19_30), pre4⟩
  | succ fu ih =>
    intro i T0 locs hfu hi hall X0 e0 N0
    by_cases hgt : i < k
    · skip
      have pre0 := fun τ (κ : Steps p.tables e below (T0.setTop (mkF m 2 #[.val (.ref so), .val (.long x), .second, .val (.int (Int32.ofNat i))] [])) τ) => κ
      obtain ⟨pa, kp, Fp, Fk, Va, hne, gp⟩ := PB
      have Kp0 : Keep h0 h0 [so, pa] := Keep.refl _ _
      have pre1 := fun τ (κ : Steps p.tables e below (T0.setTop (mkF m 4 #[.val (.ref so), .val (.long x), .second, .val (.int (Int32.ofNat i))] [(.ref so), (.int (Int32.ofNat i))])) τ) => pre0 τ (by
        refine XS.iloadN X0.here hx rfl (hb hby d19_2) rfl ?_
        refine XS.aloadN X0.here hx rfl (hb hby d19_3) rfl rfl ?_
        show Steps p.tables e below (T0.setTop (mkF m 4 #[.val (.ref so), .val (.long x), .second, .val (.int (Int32.ofNat i))] [(.ref so), (.int (Int32.ofNat i))])) _
        exact κ)
      obtain ⟨T2, X2, e2, st2⟩ := getF X0 hx hZ hown (host := "") (Or.inl (hw _ (List.mem_of_getElem? (i := 157) rfl))) Via.refl e0 Fk (g := (mkF m 4 #[.val (.ref so), .val (.long x), .second, .val (.int (Int32.ofNat i))] [(.ref so), (.int (Int32.ofNat i))])) rfl rfl (hb hby d19_4)
      have pre3 := fun τ (κ : Steps p.tables e below (T2.setTop (mkF m 7 #[.val (.ref so), .val (.long x), .second, .val (.int (Int32.ofNat i))] [(.int (Int32.ofNat k)), (.int (Int32.ofNat i))])) τ) => pre1 τ (st2 _ κ)
      have pre4 := fun τ (κ : Steps p.tables e below (T2.setTop (mkF m 11 #[.val (.ref so), .val (.long x), .second, .val (.int (Int32.ofNat i))] [(.ref so)])) τ) => pre3 τ (by
        refine XS.icmpNo X2.here hx rfl (hb hby d19_7) rfl (tlt ((own_ltN (by omega) (by omega)).mpr hgt)).2.1 ?_
        show Steps p.tables e below (T2.setTop (mkF m 10 #[.val (.ref so), .val (.long x), .second, .val (.int (Int32.ofNat i))] [])) _
        refine XS.aloadN X2.here hx rfl (hb hby d19_10) rfl rfl ?_
        show Steps p.tables e below (T2.setTop (mkF m 11 #[.val (.ref so), .val (.long x), .second, .val (.int (Int32.ofNat i))] [(.ref so)])) _
        exact κ)
      obtain ⟨T5, X5, e5, st5⟩ := getF X2 hx hZ hown (host := "") (Or.inl (hw _ (List.mem_of_getElem? (i := 109) rfl))) Via.refl e2 Fp (g := (mkF m 11 #[.val (.ref so), .val (.long x), .second, .val (.int (Int32.ofNat i))] [(.ref so)])) rfl rfl (hb hby d19_11)
      have pre6 := fun τ (κ : Steps p.tables e below (T5.setTop (mkF m 14 #[.val (.ref so), .val (.long x), .second, .val (.int (Int32.ofNat i))] [(.ref pa)])) τ) => pre4 τ (st5 _ κ)
      have pre7 := fun τ (κ : Steps p.tables e below (T5.setTop (mkF m 15 #[.val (.ref so), .val (.long x), .second, .val (.int (Int32.ofNat i))] [(.int (Int32.ofNat i)), (.ref pa)])) τ) => pre6 τ (by
        refine XS.iloadN X5.here hx rfl (hb hby d19_14) rfl ?_
        show Steps p.tables e below (T5.setTop (mkF m 15 #[.val (.ref so), .val (.long x), .second, .val (.int (Int32.ofNat i))] [(.int (Int32.ofNat i)), (.ref pa)])) _
        exact κ)
      obtain ⟨cl8, Ar8, -, S8, M8, H8, -⟩ := id Va
      have in8 : ¬ ((Int32.ofNat i) < 0 ∨ cl8.slots.size ≤ ((Int32.ofNat i)).toNatClampNeg) := inb_of S8 ⟨own_nn (by omega), (own_ltN (by omega) (by omega)).mpr (by omega)⟩
      have at8 : cl8.slots[((Int32.ofNat i)).toNatClampNeg]? = some (.long (g i)) := H8.at in8 (by rw [own_clamp (by omega)]; exact own_tabJ_get (by omega) _)
      have pre9 := fun τ (κ : Steps p.tables e below (T5.setTop (mkF m 18 #[.val (.ref so), .val (.long x), .second, .val (.int (Int32.ofNat i))] [(.int (lcmpW (g i) x))])) τ) => pre7 τ (by
        refine X5.laload hx (j := (Int32.ofNat i)) (v := (.long (g i))) (by rw [e5]; exact Ar8.1) (State.isArrayOf_alike hZ.alike Ar8.2.1) Ar8.2.2 in8 at8 (g := (mkF m 15 #[.val (.ref so), .val (.long x), .second, .val (.int (Int32.ofNat i))] [(.int (Int32.ofNat i)), (.ref pa)])) rfl rfl (hb hby d19_15) _ ?_
        show Steps p.tables e below (T5.setTop (mkF m 16 #[.val (.ref so), .val (.long x), .second, .val (.int (Int32.ofNat i))] [(.long (g i))])) _
        refine XS.lloadN X5.here hx rfl (hb hby d19_16) rfl ?_
        refine XS.lcmp X5.here hx rfl (hb hby d19_17) rfl ?_
        show Steps p.tables e below (T5.setTop (mkF m 18 #[.val (.ref so), .val (.long x), .second, .val (.int (Int32.ofNat i))] [(.int (lcmpW (g i) x))])) _
        exact κ)
      by_cases q1 : (lcmpW (g i) x) = (0 : Int32)
      · have pre10 := fun τ (κ : Steps p.tables e below (T5.setTop (mkF m 22 #[.val (.ref so), .val (.long x), .second, .val (.int (Int32.ofNat i))] [(.int (1 : Int32))])) τ) => pre9 τ (by
          refine XS.ifNo X5.here hx rfl (hb hby d19_18) rfl ((if0 _ _).trans (teq q1).2) ?_
          show Steps p.tables e below (T5.setTop (mkF m 21 #[.val (.ref so), .val (.long x), .second, .val (.int (Int32.ofNat i))] [])) _
          refine XS.iconst X5.here hx rfl (hb hby d19_21) ?_
          show Steps p.tables e below (T5.setTop (mkF m 22 #[.val (.ref so), .val (.long x), .second, .val (.int (Int32.ofNat i))] [(.int (1 : Int32))])) _
          exact κ)
        exact ⟨T5, _, 22, _, 1, X5, e5, N0, Or.inl ⟨⟨i, hgt, (lw_eq _ _).mp q1⟩, rfl⟩, (hb hby d19_22), pre10⟩
      · have pre11 := fun τ (κ : Steps p.tables e below (T5.setTop (mkF m 2 #[.val (.ref so), .val (.long x), .second, .val (.int ((Int32.ofNat i) + (1 : Int32)))] [])) τ) => pre9 τ (by
          refine XS.ifYes X5.here hx rfl (pc0 := 18) (pc' := 23) rfl (hb hby d19_18) rfl ((if0 _ _).trans (feq q1).2) (by decide) (by decide) ?_
          show Steps p.tables e below (T5.setTop (mkF m 23 #[.val (.ref so), .val (.long x), .second, .val (.int (Int32.ofNat i))] [])) _
          refine XS.iinc X5.here hx rfl (hb hby d19_23) rfl (l' := #[.val (.ref so), .val (.long x), .second, .val (.int ((Int32.ofNat i) + (1 : Int32)))]) rfl ?_
          show Steps p.tables e below (T5.setTop (mkF m 26 #[.val (.ref so), .val (.long x), .second, .val (.int ((Int32.ofNat i) + (1 : Int32)))] [])) _
          refine XS.goto X5.here hx rfl (pc0 := 26) (pc' := 2) rfl (hb hby d19_26) (by decide) (by decide) ?_
          show Steps p.tables e below (T5.setTop (mkF m 2 #[.val (.ref so), .val (.long x), .second, .val (.int ((Int32.ofNat i) + (1 : Int32)))] [])) _
          exact κ)
        rw [show ((Int32.ofNat i) + (1 : Int32)) = (Int32.ofNat (i + 1)) from (own_addN _ 1)] at pre11
        obtain ⟨a1, a2, a3, a4, a5, b1, b2, b3, b4, b5, a9⟩ := ih (i + 1) _ _ (by omega) (by omega) (fun j hj => by
          by_cases q9 : j = i
          · rw [q9]; exact fun z9 => q1 ((lw_eq _ _).mpr z9)
          · exact hall j (by omega)) X5 e5 N0
        exact ⟨a1, a2, a3, a4, a5, b1, b2, b3, b4, b5, fun τ κ => pre11 τ (a9 τ κ)⟩
    · skip
      have pre0 := fun τ (κ : Steps p.tables e below (T0.setTop (mkF m 2 #[.val (.ref so), .val (.long x), .second, .val (.int (Int32.ofNat i))] [])) τ) => κ
      obtain ⟨pa, kp, Fp, Fk, Va, hne, gp⟩ := PB
      have Kp0 : Keep h0 h0 [so, pa] := Keep.refl _ _
      have pre1 := fun τ (κ : Steps p.tables e below (T0.setTop (mkF m 4 #[.val (.ref so), .val (.long x), .second, .val (.int (Int32.ofNat i))] [(.ref so), (.int (Int32.ofNat i))])) τ) => pre0 τ (by
        refine XS.iloadN X0.here hx rfl (hb hby d19_2) rfl ?_
        refine XS.aloadN X0.here hx rfl (hb hby d19_3) rfl rfl ?_
        show Steps p.tables e below (T0.setTop (mkF m 4 #[.val (.ref so), .val (.long x), .second, .val (.int (Int32.ofNat i))] [(.ref so), (.int (Int32.ofNat i))])) _
        exact κ)
      obtain ⟨T2, X2, e2, st2⟩ := getF X0 hx hZ hown (host := "") (Or.inl (hw _ (List.mem_of_getElem? (i := 157) rfl))) Via.refl e0 Fk (g := (mkF m 4 #[.val (.ref so), .val (.long x), .second, .val (.int (Int32.ofNat i))] [(.ref so), (.int (Int32.ofNat i))])) rfl rfl (hb hby d19_4)
      have pre3 := fun τ (κ : Steps p.tables e below (T2.setTop (mkF m 7 #[.val (.ref so), .val (.long x), .second, .val (.int (Int32.ofNat i))] [(.int (Int32.ofNat k)), (.int (Int32.ofNat i))])) τ) => pre1 τ (st2 _ κ)
      have pre4 := fun τ (κ : Steps p.tables e below (T2.setTop (mkF m 30 #[.val (.ref so), .val (.long x), .second, .val (.int (Int32.ofNat i))] [(.int (0 : Int32))])) τ) => pre3 τ (by
        refine XS.icmpYes X2.here hx rfl (pc0 := 7) (pc' := 29) rfl (hb hby d19_7) rfl (flt (fun q => hgt ((own_ltN (by omega) (by omega)).mp q))).2.1 (by decide) (by decide) ?_
        show Steps p.tables e below (T2.setTop (mkF m 29 #[.val (.ref so), .val (.long x), .second, .val (.int (Int32.ofNat i))] [])) _
        refine XS.iconst X2.here hx rfl (hb hby d19_29) ?_
        show Steps p.tables e below (T2.setTop (mkF m 30 #[.val (.ref so), .val (.long x), .second, .val (.int (Int32.ofNat i))] [(.int (0 : Int32))])) _
        exact κ)
      exact ⟨T2, _, 30, _, 0, X2, e2, N0, Or.inr ⟨fun ⟨j, hj, e9⟩ => hall j (by omega) e9, rfl⟩, (hb hby d19_30), pre4⟩

theorem ef_19 (m : MethodId) (so : Addr) (x : Int64) (k : Nat) (z : Nat) : entryFrame m #[(.ref so), (.long x)] 4 = mkF m 0 #[.val (.ref so), .val (.long x), .second, .unset] [] := by first | (simp [entryFrame, mkF, argsToLocals, Value.category]; done) | rfl
def Q19 (Z : State) (so : Addr) (x : Int64) (k : Nat) (z : Nat) (g : Nat → Int64) (h0 : Heap) (n0 : Nat) (v : Option Value) (h : Heap) (L : List Loc) : Prop := ∃ r9 : Int32, v = some (.int r9) ∧ Fr n0 L ∧ h = h0 ∧ ((own_in k g x ∧ r9 = 1) ∨ (¬ own_in k g x ∧ r9 = 0))
set_option maxRecDepth 65536 in
set_option maxHeartbeats 40000000 in
theorem rm19 (l : Launch) (Z : State) (a0 : Array Value) (hw : ∀ d ∈ tables_1, d.before a0 Z = true) (ws : List Jvm.Cond) (so : Addr) (x : Int64) (k : Nat) (z : Nat) (g : Nat → Int64) (h0 : Heap) (n0 : Nat) (Z0 : n0 ≤ h0.size) (E_s : Exa Z h0 so "com/example/earmark/earmark/ledger/HoldStates") (gs : n0 ≤ so) (PB : own_PB Z h0 n0 so k z g) (hkz : k ≤ z) (hz4 : z ≤ 4) :
    MetFree l (⟨"com/example/earmark/earmark/ledger/HoldStates", "hasPassed", "(J)Z"⟩ : MethodName) (head1 (Jvm.Cond.code (⟨"com/example/earmark/earmark/ledger/HoldStates", "hasPassed", "(J)Z"⟩ : MethodName) prog_73_method_20_code 4 (some .boolean) :: ws) ({ frames := 0, cells := 0, slots := 0, locals := 0 } : Room)) (fun α υ => α = #[(.ref so), (.long x)] ∧ Z.Warmed39 υ.vm ∧ υ.heap = h0) (fun _ _ _ _ _ => True) (fun _ υ ω υ' => ∃ v L, ω = .returned v ∧ Q19 Z so x k z g h0 n0 v υ'.heap L ∧ FrameEnd υ ω υ' L ({ frames := 0, cells := 0, slots := 0, locals := 0 } : Room).cells ({ frames := 0, cells := 0, slots := 0, locals := 0 } : Room).slots) := by
  refine MetFree.of_bodySF (plainFor_of_name pn_com_example_earmark_earmark_ledger_HoldStates) hisR ?_
  intro p e s m args below meth c s₁ Bd hml0 hP hK
  obtain ⟨rfl, hZ, hh⟩ := hP
  have hx := Bd.exec
  have hby := Bd.bytes
  have hml : c.maxLocals = 4 := hml0
  have hown : s.vm.findClass "com/example/earmark/earmark/ledger/HoldStates" = some m.cls := findClass_of_methodNamed Bd.named
  have hnm := (name_of_methodNamed Bd.named Bd.method).1
  have X0 : Stand p l e ({ frames := 0, cells := 0, slots := 0, locals := 0 } : Room) s m #[(.ref so), (.long x)] below meth c s₁ [] 0 0 := Stand.of_body Bd
  have e0 : s₁.heap = h0 := by rw [← hh, Bd.state]; rfl
  have N0 := Fr.nil n0
  have pre0 : ∀ τ, Steps p.tables e below (s₁.setTop (mkF m 0 #[.val (.ref so), .val (.long x), .second, .unset] [])) τ → Steps p.tables e below (s₁.setTop (entryFrame m #[(.ref so), (.long x)] 4)) τ := fun τ κ => castTop (ef_19 m so x k z) κ
  have pre1 := fun τ (κ : Steps p.tables e below (s₁.setTop (mkF m 2 #[.val (.ref so), .val (.long x), .second, .val (.int (0 : Int32))] [])) τ) => pre0 τ (by
    refine XS.iconst X0.here hx rfl (hb hby d19_0) ?_
    refine XS.istoreN X0.here hx rfl (hb hby d19_1) rfl (l' := #[.val (.ref so), .val (.long x), .second, .val (.int (0 : Int32))]) rfl ?_
    show Steps p.tables e below (s₁.setTop (mkF m 2 #[.val (.ref so), .val (.long x), .second, .val (.int (0 : Int32))] [])) _
    exact κ)
  obtain ⟨T9, lo9, pc9, L9, r9, X9, e9, N9, hr9, d9, st9⟩ := loopH hx hZ hw hby hml hown so x k z g Z0 E_s gs PB hkz hz4 k 0 _ _ (by omega) (by omega) (fun j hj => absurd hj (by omega)) X0 e0 N0
  have pre99 := fun τ (κ : Steps p.tables e below (T9.setTop (mkF m pc9 L9 [.int r9])) τ) => pre1 τ (st9 τ κ)
  obtain ⟨fs, hr, hrun, hended, hW, hsame⟩ := X9.leave (v := some (.int (nar .boolean r9))) (fun h => by rw [Bd.returns] at h; cases h)
  refine ⟨_, _, pre99 _ ?_, hrun, hended, _, _, rfl, ?_, ⟨_, rfl⟩, hW, hsame.mono (by decide) (by decide)⟩
  · exact retN X9 hx (t := .boolean) Bd.returns (by simp) d9 hr
  · show Q19 Z so x k z g h0 n0 _ T9.heap _
    rw [e9]
    exact ⟨r9, (by rcases hr9 with ⟨-, q⟩ | ⟨-, q⟩ <;> rw [q] <;> rfl), N9, rfl, hr9⟩

theorem own_eq9 {P C : Prop} {r e : Int32} (h : (P ∧ r = 1) ∨ (¬ P ∧ r = 0)) (h2 : (C ∧ e = 1) ∨ (¬ C ∧ e = 0)) (q : P ↔ C) : r = e := by
  rcases h with ⟨p, rfl⟩ | ⟨p, rfl⟩
  · rcases h2 with ⟨_, rfl⟩ | ⟨c, _⟩
    · rfl
    · exact absurd (q.mp p) c
  · rcases h2 with ⟨c, _⟩ | ⟨_, rfl⟩
    · exact absurd (q.mpr c) p
    · rfl
theorem own_z9 {P : Prop} {r : Int32} (h : (P ∧ r = 1) ∨ (¬ P ∧ r = 0)) (q : ¬ P) : r = 0 := by
  rcases h with ⟨p, _⟩ | ⟨_, h⟩
  · exact absurd p q
  · exact h
section
variable {i0 i1 i2 xx yy : Int64} {nq : Nat}
theorem own_no0 (d0 : ¬ lcmpW i0 i1 = 0) (d1 : ¬ lcmpW i0 i2 = 0) (d2 : ¬ lcmpW i1 i2 = 0) (h : False) : False := h
theorem own_no1 (d0 : ¬ lcmpW i0 i1 = 0) (d1 : ¬ lcmpW i0 i2 = 0) (d2 : ¬ lcmpW i1 i2 = 0) (h : False ∨ (1 ≤ nq ∧ i1 = i0)) : False := by
  rcases h with h | ⟨-, h⟩
  · exact h
  · exact d0 ((lw_eq _ _).mpr h.symm)
theorem own_no2 (d0 : ¬ lcmpW i0 i1 = 0) (d1 : ¬ lcmpW i0 i2 = 0) (d2 : ¬ lcmpW i1 i2 = 0) (h : (False ∨ (1 ≤ nq ∧ i2 = i0)) ∨ (2 ≤ nq ∧ i2 = i1)) : False := by
  rcases h with (h | ⟨-, h⟩) | ⟨-, h⟩
  · exact h
  · exact d1 ((lw_eq _ _).mpr h.symm)
  · exact d2 ((lw_eq _ _).mpr h.symm)
theorem own_c0 (d0 : ¬ lcmpW i0 i1 = 0) (d1 : ¬ lcmpW i0 i2 = 0) (d2 : ¬ lcmpW i1 i2 = 0) : (((((False) ∨ (1 ≤ nq ∧ i0 = i0)) ∨ (2 ≤ nq ∧ i0 = i1)) ∨ (3 ≤ nq ∧ i0 = i2)) ∧ ¬ i0 = xx) ∧ ¬ i0 = yy ↔ 1 ≤ nq ∧ ¬ i0 = xx ∧ ¬ i0 = yy := by
  rw [lw_eq] at d0 d1 d2
  constructor
  · rintro ⟨⟨((h | h) | h) | h, h2⟩, h3⟩
    · exact h.elim
    · exact ⟨h.1, h2, h3⟩
    · exact absurd h.2 d0
    · exact absurd h.2 d1
  · rintro ⟨h1, h2, h3⟩
    exact ⟨⟨Or.inl (Or.inl (Or.inr ⟨h1, rfl⟩)), h2⟩, h3⟩
theorem own_c1 (d0 : ¬ lcmpW i0 i1 = 0) (d1 : ¬ lcmpW i0 i2 = 0) (d2 : ¬ lcmpW i1 i2 = 0) : (((((False) ∨ (1 ≤ nq ∧ i1 = i0)) ∨ (2 ≤ nq ∧ i1 = i1)) ∨ (3 ≤ nq ∧ i1 = i2)) ∧ ¬ i1 = xx) ∧ ¬ i1 = yy ↔ 2 ≤ nq ∧ ¬ i1 = xx ∧ ¬ i1 = yy := by
  rw [lw_eq] at d0 d1 d2
  constructor
  · rintro ⟨⟨((h | h) | h) | h, h2⟩, h3⟩
    · exact h.elim
    · exact absurd h.2.symm d0
    · exact ⟨h.1, h2, h3⟩
    · exact absurd h.2 d2
  · rintro ⟨h1, h2, h3⟩
    exact ⟨⟨Or.inl (Or.inr ⟨h1, rfl⟩), h2⟩, h3⟩
theorem own_c2 (d0 : ¬ lcmpW i0 i1 = 0) (d1 : ¬ lcmpW i0 i2 = 0) (d2 : ¬ lcmpW i1 i2 = 0) : (((((False) ∨ (1 ≤ nq ∧ i2 = i0)) ∨ (2 ≤ nq ∧ i2 = i1)) ∨ (3 ≤ nq ∧ i2 = i2)) ∧ ¬ i2 = xx) ∧ ¬ i2 = yy ↔ 3 ≤ nq ∧ ¬ i2 = xx ∧ ¬ i2 = yy := by
  rw [lw_eq] at d0 d1 d2
  constructor
  · rintro ⟨⟨((h | h) | h) | h, h2⟩, h3⟩
    · exact h.elim
    · exact absurd h.2.symm d1
    · exact absurd h.2.symm d2
    · exact ⟨h.1, h2, h3⟩
  · rintro ⟨h1, h2, h3⟩
    exact ⟨⟨Or.inr ⟨h1, rfl⟩, h2⟩, h3⟩
end

theorem ef_0 (m : MethodId) (i0 : Int64) (i1 : Int64) (i2 : Int64) (i3 : Int64) (i4 : Int64) (i5 : Int32) (zc : Int32) (cs : Addr) (u8 : Addr) (nn : Addr) : entryFrame m #[(.long i0), (.long i1), (.long i2), (.long i3), (.long i4), (.int i5)] maxLocals = mkF m 0 #[.val (.long i0), .second, .val (.long i1), .second, .val (.long i2), .second, .val (.long i3), .second, .val (.long i4), .second, .val (.int i5), .unset, .unset, .unset, .unset, .unset, .unset, .unset, .unset, .unset] [] := by first | (simp [entryFrame, mkF, argsToLocals, Value.category, maxLocals]; done) | rfl
def Q0 (Z : State) (i0 : Int64) (i1 : Int64) (i2 : Int64) (i3 : Int64) (i4 : Int64) (i5 : Int32) (zc : Int32) (cs : Addr) (u8 : Addr) (nn : Addr) (h0 : Heap) (n0 : Nat) (v : Option Value) (h : Heap) (L : List Loc) : Prop := v = some (.int 1) ∧ Fr n0 L
set_option maxRecDepth 65536 in
set_option maxHeartbeats 40000000 in
theorem rm0 (l : Launch) (Z : State) (a0 : Array Value) (hw : ∀ d ∈ tables_1, d.before a0 Z = true) (ws : List Jvm.Cond) (i0 : Int64) (i1 : Int64) (i2 : Int64) (i3 : Int64) (i4 : Int64) (i5 : Int32) (zc : Int32) (cs : Addr) (u8 : Addr) (nn : Addr) (h0 : Heap) (n0 : Nat) (Z0 : n0 ≤ h0.size) (O0 : Old Z n0 h0) (S8 : Sta Z Z.heap "java/lang/String" "COMPACT_STRINGS" "Z" (.int zc)) (c9 : ¬ zc = 0) (S1 : Sta Z Z.heap "sun/nio/cs/UTF_8" "INSTANCE" "Lsun/nio/cs/UTF_8;" (.ref u8)) (S2 : Sta Z Z.heap "sun/nio/cs/ISO_8859_1" "INSTANCE" "Lsun/nio/cs/ISO_8859_1;" (.ref cs)) (hcu : cs ≠ u8) (S0 : Sta Z Z.heap "java/nio/charset/StandardCharsets" "ISO_8859_1" "Ljava/nio/charset/Charset;" (.ref cs)) (Sn : Sta Z Z.heap "com/example/earmark/earmark/ledger/RowIndex" "NONE" "[I" (.ref nn)) (En : Exa Z Z.heap nn "[I") :
    MetFree l x (head1 (Jvm.Cond.code x code maxLocals ret :: ws) room_1) (fun α υ => α = #[(.long i0), (.long i1), (.long i2), (.long i3), (.long i4), (.int i5)] ∧ Z.Warmed39 υ.vm ∧ υ.heap = h0 ∧ CHv Z consts_1 υ.vm h0) (fun _ _ _ _ _ => True) (fun _ υ ω υ' => ∃ v L, ω = .returned v ∧ Q0 Z i0 i1 i2 i3 i4 i5 zc cs u8 nn h0 n0 v υ'.heap L ∧ ReturnedEndW υ ω υ' L room_1.cells room_1.slots) := by
  refine MetFree.of_bodySF (plainFor_of_name pn_com_example_earmark_earmark_ledger_HoldStatesBatchClosedPinLaw) hisR ?_
  intro p e s m args below meth c s₁ Bd hml0 hP hK
  obtain ⟨rfl, hZ, hh, hC0⟩ := hP
  have hx := Bd.exec
  have hby := Bd.bytes
  have hml : c.maxLocals = 20 := hml0
  have hown : s.vm.findClass "com/example/earmark/earmark/ledger/HoldStatesBatchClosedPinLaw" = some m.cls := findClass_of_methodNamed Bd.named
  have hnm := (name_of_methodNamed Bd.named Bd.method).1
  have X0 : Stand p l e room_1 s m #[(.long i0), (.long i1), (.long i2), (.long i3), (.long i4), (.int i5)] below meth c s₁ [] 0 0 := Stand.of_body Bd
  have e0 : s₁.heap = h0 := by rw [← hh, Bd.state]; rfl
  have N0 := Fr.nil n0
  have pre0 : ∀ τ, Steps p.tables e below (s₁.setTop (mkF m 0 #[.val (.long i0), .second, .val (.long i1), .second, .val (.long i2), .second, .val (.long i3), .second, .val (.long i4), .second, .val (.int i5), .unset, .unset, .unset, .unset, .unset, .unset, .unset, .unset, .unset] [])) τ → Steps p.tables e below (s₁.setTop (entryFrame m #[(.long i0), (.long i1), (.long i2), (.long i3), (.long i4), (.int i5)] maxLocals)) τ := fun τ κ => castTop (ef_0 m i0 i1 i2 i3 i4 i5 zc cs u8 nn) κ
  have hS0 : s.Since s.vm 0 := (State.WarmedH.refl s).since 0
  have hks : 0 ≤ h0.size := Nat.zero_le _
  have hEL := own_EL hw
  have Kp0 : Keep h0 h0 [] := Keep.refl _ _
  have pre1 := fun τ (κ : Steps p.tables e below (s₁.setTop (mkF m 3 #[.val (.long i0), .second, .val (.long i1), .second, .val (.long i2), .second, .val (.long i3), .second, .val (.long i4), .second, .val (.int i5), .unset, .unset, .unset, .unset, .unset, .unset, .unset, .unset, .unset] [(.int (lcmpW i0 i1))])) τ) => pre0 τ (by
    refine XS.lloadN X0.here hx rfl (hb hby at_0) rfl ?_
    refine XS.lloadN X0.here hx rfl (hb hby at_1) rfl ?_
    refine XS.lcmp X0.here hx rfl (hb hby at_2) rfl ?_
    show Steps p.tables e below (s₁.setTop (mkF m 3 #[.val (.long i0), .second, .val (.long i1), .second, .val (.long i2), .second, .val (.long i3), .second, .val (.long i4), .second, .val (.int i5), .unset, .unset, .unset, .unset, .unset, .unset, .unset, .unset, .unset] [(.int (lcmpW i0 i1))])) _
    exact κ)
  by_cases d0 : (lcmpW i0 i1) = (0 : Int32)
  · have pre2 := fun τ (κ : Steps p.tables e below (s₁.setTop (mkF m 21 #[.val (.long i0), .second, .val (.long i1), .second, .val (.long i2), .second, .val (.long i3), .second, .val (.long i4), .second, .val (.int i5), .unset, .unset, .unset, .unset, .unset, .unset, .unset, .unset, .unset] [(.int (1 : Int32))])) τ) => pre1 τ (by
      refine XS.ifYes X0.here hx rfl (pc0 := 3) (pc' := 20) rfl (hb hby at_3) rfl ((if0 _ _).trans (teq d0).1) (by decide) (by decide) ?_
      show Steps p.tables e below (s₁.setTop (mkF m 20 #[.val (.long i0), .second, .val (.long i1), .second, .val (.long i2), .second, .val (.long i3), .second, .val (.long i4), .second, .val (.int i5), .unset, .unset, .unset, .unset, .unset, .unset, .unset, .unset, .unset] [])) _
      refine XS.iconst X0.here hx rfl (hb hby at_20) ?_
      show Steps p.tables e below (s₁.setTop (mkF m 21 #[.val (.long i0), .second, .val (.long i1), .second, .val (.long i2), .second, .val (.long i3), .second, .val (.long i4), .second, .val (.int i5), .unset, .unset, .unset, .unset, .unset, .unset, .unset, .unset, .unset] [(.int (1 : Int32))])) _
      exact κ)
    obtain ⟨fs, hr, hrun, hended, hEnd⟩ := Stand.leaveW (s := s) (vm₁ := s.vm) X0 hS0 (Nat.zero_le _) (v := some (.int (1 : Int32))) (fun h => by rw [Bd.returns] at h; cases h)
    refine ⟨_, _, pre2 _ ?_, hrun, hended, _, _, rfl, ?_, ⟨hEnd.1, hEnd.2.1, hEnd.2.2.1, hEnd.2.2.2.mono (by decide) (by decide)⟩⟩
    · exact retN X0 hx (t := .boolean) Bd.returns (by simp) (hb hby at_21) hr
    · show Q0 Z i0 i1 i2 i3 i4 i5 zc cs u8 nn h0 n0 _ s₁.heap _
      rw [e0]
      exact ⟨rfl, N0⟩
  · have pre3 := fun τ (κ : Steps p.tables e below (s₁.setTop (mkF m 10 #[.val (.long i0), .second, .val (.long i1), .second, .val (.long i2), .second, .val (.long i3), .second, .val (.long i4), .second, .val (.int i5), .unset, .unset, .unset, .unset, .unset, .unset, .unset, .unset, .unset] [(.int (lcmpW i0 i2))])) τ) => pre1 τ (by
      refine XS.ifNo X0.here hx rfl (hb hby at_3) rfl ((if0 _ _).trans (feq d0).1) ?_
      show Steps p.tables e below (s₁.setTop (mkF m 6 #[.val (.long i0), .second, .val (.long i1), .second, .val (.long i2), .second, .val (.long i3), .second, .val (.long i4), .second, .val (.int i5), .unset, .unset, .unset, .unset, .unset, .unset, .unset, .unset, .unset] [])) _
      refine XS.lloadN X0.here hx rfl (hb hby at_6) rfl ?_
      refine XS.lload X0.here hx rfl (hb hby at_7) rfl ?_
      refine XS.lcmp X0.here hx rfl (hb hby at_9) rfl ?_
      show Steps p.tables e below (s₁.setTop (mkF m 10 #[.val (.long i0), .second, .val (.long i1), .second, .val (.long i2), .second, .val (.long i3), .second, .val (.long i4), .second, .val (.int i5), .unset, .unset, .unset, .unset, .unset, .unset, .unset, .unset, .unset] [(.int (lcmpW i0 i2))])) _
      exact κ)
    by_cases d1 : (lcmpW i0 i2) = (0 : Int32)
    · have pre4 := fun τ (κ : Steps p.tables e below (s₁.setTop (mkF m 21 #[.val (.long i0), .second, .val (.long i1), .second, .val (.long i2), .second, .val (.long i3), .second, .val (.long i4), .second, .val (.int i5), .unset, .unset, .unset, .unset, .unset, .unset, .unset, .unset, .unset] [(.int (1 : Int32))])) τ) => pre3 τ (by
        refine XS.ifYes X0.here hx rfl (pc0 := 10) (pc' := 20) rfl (hb hby at_10) rfl ((if0 _ _).trans (teq d1).1) (by decide) (by decide) ?_
        show Steps p.tables e below (s₁.setTop (mkF m 20 #[.val (.long i0), .second, .val (.long i1), .second, .val (.long i2), .second, .val (.long i3), .second, .val (.long i4), .second, .val (.int i5), .unset, .unset, .unset, .unset, .unset, .unset, .unset, .unset, .unset] [])) _
        refine XS.iconst X0.here hx rfl (hb hby at_20) ?_
        show Steps p.tables e below (s₁.setTop (mkF m 21 #[.val (.long i0), .second, .val (.long i1), .second, .val (.long i2), .second, .val (.long i3), .second, .val (.long i4), .second, .val (.int i5), .unset, .unset, .unset, .unset, .unset, .unset, .unset, .unset, .unset] [(.int (1 : Int32))])) _
        exact κ)
      obtain ⟨fs, hr, hrun, hended, hEnd⟩ := Stand.leaveW (s := s) (vm₁ := s.vm) X0 hS0 (Nat.zero_le _) (v := some (.int (1 : Int32))) (fun h => by rw [Bd.returns] at h; cases h)
      refine ⟨_, _, pre4 _ ?_, hrun, hended, _, _, rfl, ?_, ⟨hEnd.1, hEnd.2.1, hEnd.2.2.1, hEnd.2.2.2.mono (by decide) (by decide)⟩⟩
      · exact retN X0 hx (t := .boolean) Bd.returns (by simp) (hb hby at_21) hr
      · show Q0 Z i0 i1 i2 i3 i4 i5 zc cs u8 nn h0 n0 _ s₁.heap _
        rw [e0]
        exact ⟨rfl, N0⟩
    · have pre5 := fun τ (κ : Steps p.tables e below (s₁.setTop (mkF m 17 #[.val (.long i0), .second, .val (.long i1), .second, .val (.long i2), .second, .val (.long i3), .second, .val (.long i4), .second, .val (.int i5), .unset, .unset, .unset, .unset, .unset, .unset, .unset, .unset, .unset] [(.int (lcmpW i1 i2))])) τ) => pre3 τ (by
        refine XS.ifNo X0.here hx rfl (hb hby at_10) rfl ((if0 _ _).trans (feq d1).1) ?_
        show Steps p.tables e below (s₁.setTop (mkF m 13 #[.val (.long i0), .second, .val (.long i1), .second, .val (.long i2), .second, .val (.long i3), .second, .val (.long i4), .second, .val (.int i5), .unset, .unset, .unset, .unset, .unset, .unset, .unset, .unset, .unset] [])) _
        refine XS.lloadN X0.here hx rfl (hb hby at_13) rfl ?_
        refine XS.lload X0.here hx rfl (hb hby at_14) rfl ?_
        refine XS.lcmp X0.here hx rfl (hb hby at_16) rfl ?_
        show Steps p.tables e below (s₁.setTop (mkF m 17 #[.val (.long i0), .second, .val (.long i1), .second, .val (.long i2), .second, .val (.long i3), .second, .val (.long i4), .second, .val (.int i5), .unset, .unset, .unset, .unset, .unset, .unset, .unset, .unset, .unset] [(.int (lcmpW i1 i2))])) _
        exact κ)
      by_cases d2 : (lcmpW i1 i2) = (0 : Int32)
      · have pre6 := fun τ (κ : Steps p.tables e below (s₁.setTop (mkF m 21 #[.val (.long i0), .second, .val (.long i1), .second, .val (.long i2), .second, .val (.long i3), .second, .val (.long i4), .second, .val (.int i5), .unset, .unset, .unset, .unset, .unset, .unset, .unset, .unset, .unset] [(.int (1 : Int32))])) τ) => pre5 τ (by
          refine XS.ifNo X0.here hx rfl (hb hby at_17) rfl ((if0 _ _).trans (teq d2).2) ?_
          show Steps p.tables e below (s₁.setTop (mkF m 20 #[.val (.long i0), .second, .val (.long i1), .second, .val (.long i2), .second, .val (.long i3), .second, .val (.long i4), .second, .val (.int i5), .unset, .unset, .unset, .unset, .unset, .unset, .unset, .unset, .unset] [])) _
          refine XS.iconst X0.here hx rfl (hb hby at_20) ?_
          show Steps p.tables e below (s₁.setTop (mkF m 21 #[.val (.long i0), .second, .val (.long i1), .second, .val (.long i2), .second, .val (.long i3), .second, .val (.long i4), .second, .val (.int i5), .unset, .unset, .unset, .unset, .unset, .unset, .unset, .unset, .unset] [(.int (1 : Int32))])) _
          exact κ)
        obtain ⟨fs, hr, hrun, hended, hEnd⟩ := Stand.leaveW (s := s) (vm₁ := s.vm) X0 hS0 (Nat.zero_le _) (v := some (.int (1 : Int32))) (fun h => by rw [Bd.returns] at h; cases h)
        refine ⟨_, _, pre6 _ ?_, hrun, hended, _, _, rfl, ?_, ⟨hEnd.1, hEnd.2.1, hEnd.2.2.1, hEnd.2.2.2.mono (by decide) (by decide)⟩⟩
        · exact retN X0 hx (t := .boolean) Bd.returns (by simp) (hb hby at_21) hr
        · show Q0 Z i0 i1 i2 i3 i4 i5 zc cs u8 nn h0 n0 _ s₁.heap _
          rw [e0]
          exact ⟨rfl, N0⟩
      · obtain ⟨nq, hn3, en⟩ : ∃ z, z ≤ 3 ∧ (i5 &&& (3 : Int32)) = Int32.ofNat z := own_and _ _ 3 (by decide) (by decide) (by decide)
        have pre7 := fun τ (κ : Steps p.tables e below (s₁.setTop (mkF m 26 #[.val (.long i0), .second, .val (.long i1), .second, .val (.long i2), .second, .val (.long i3), .second, .val (.long i4), .second, .val (.int i5), .unset, .unset, .unset, .unset, .unset, .unset, .unset, .unset, .unset] [(.int (i5 &&& (3 : Int32)))])) τ) => pre5 τ (by
          refine XS.ifYes X0.here hx rfl (pc0 := 17) (pc' := 22) rfl (hb hby at_17) rfl ((if0 _ _).trans (feq d2).2) (by decide) (by decide) ?_
          show Steps p.tables e below (s₁.setTop (mkF m 22 #[.val (.long i0), .second, .val (.long i1), .second, .val (.long i2), .second, .val (.long i3), .second, .val (.long i4), .second, .val (.int i5), .unset, .unset, .unset, .unset, .unset, .unset, .unset, .unset, .unset] [])) _
          refine XS.iload X0.here hx rfl (hb hby at_22) rfl ?_
          refine XS.iconst X0.here hx rfl (hb hby at_24) ?_
          refine XS.iand X0.here hx rfl (hb hby at_25) rfl ?_
          show Steps p.tables e below (s₁.setTop (mkF m 26 #[.val (.long i0), .second, .val (.long i1), .second, .val (.long i2), .second, .val (.long i3), .second, .val (.long i4), .second, .val (.int i5), .unset, .unset, .unset, .unset, .unset, .unset, .unset, .unset, .unset] [(.int (i5 &&& (3 : Int32)))])) _
          exact κ)
        rw [show (i5 &&& (3 : Int32)) = (Int32.ofNat nq) from en] at pre7
        have pre8 := fun τ (κ : Steps p.tables e below (s₁.setTop (mkF m 40 #[.val (.long i0), .second, .val (.long i1), .second, .val (.long i2), .second, .val (.long i3), .second, .val (.long i4), .second, .val (.int i5), .val (.int (Int32.ofNat nq)), .unset, .unset, .unset, .unset, .unset, .unset, .unset, .unset] [(.long i3), (.long i2), (.long i1), (.long i0), (.int (((i5.toUInt32 >>> ((2 : Int32) &&& 31).toUInt32).toInt32) &&& (3 : Int32)))])) τ) => pre7 τ (by
          refine XS.istore X0.here hx rfl (hb hby at_26) rfl (l' := #[.val (.long i0), .second, .val (.long i1), .second, .val (.long i2), .second, .val (.long i3), .second, .val (.long i4), .second, .val (.int i5), .val (.int (Int32.ofNat nq)), .unset, .unset, .unset, .unset, .unset, .unset, .unset, .unset]) rfl ?_
          show Steps p.tables e below (s₁.setTop (mkF m 28 #[.val (.long i0), .second, .val (.long i1), .second, .val (.long i2), .second, .val (.long i3), .second, .val (.long i4), .second, .val (.int i5), .val (.int (Int32.ofNat nq)), .unset, .unset, .unset, .unset, .unset, .unset, .unset, .unset] [])) _
          refine XS.iload X0.here hx rfl (hb hby at_28) rfl ?_
          refine XS.iconst X0.here hx rfl (hb hby at_30) ?_
          refine XS.iushr X0.here hx rfl (hb hby at_31) rfl ?_
          show Steps p.tables e below (s₁.setTop (mkF m 32 #[.val (.long i0), .second, .val (.long i1), .second, .val (.long i2), .second, .val (.long i3), .second, .val (.long i4), .second, .val (.int i5), .val (.int (Int32.ofNat nq)), .unset, .unset, .unset, .unset, .unset, .unset, .unset, .unset] [(.int ((i5.toUInt32 >>> ((2 : Int32) &&& 31).toUInt32).toInt32))])) _
          refine XS.iconst X0.here hx rfl (hb hby at_32) ?_
          refine XS.iand X0.here hx rfl (hb hby at_33) rfl ?_
          show Steps p.tables e below (s₁.setTop (mkF m 34 #[.val (.long i0), .second, .val (.long i1), .second, .val (.long i2), .second, .val (.long i3), .second, .val (.long i4), .second, .val (.int i5), .val (.int (Int32.ofNat nq)), .unset, .unset, .unset, .unset, .unset, .unset, .unset, .unset] [(.int (((i5.toUInt32 >>> ((2 : Int32) &&& 31).toUInt32).toInt32) &&& (3 : Int32)))])) _
          refine XS.lloadN X0.here hx rfl (hb hby at_34) rfl ?_
          refine XS.lloadN X0.here hx rfl (hb hby at_35) rfl ?_
          refine XS.lload X0.here hx rfl (hb hby at_36) rfl ?_
          refine XS.lload X0.here hx rfl (hb hby at_38) rfl ?_
          show Steps p.tables e below (s₁.setTop (mkF m 40 #[.val (.long i0), .second, .val (.long i1), .second, .val (.long i2), .second, .val (.long i3), .second, .val (.long i4), .second, .val (.int i5), .val (.int (Int32.ofNat nq)), .unset, .unset, .unset, .unset, .unset, .unset, .unset, .unset] [(.long i3), (.long i2), (.long i1), (.long i0), (.int (((i5.toUInt32 >>> ((2 : Int32) &&& 31).toUInt32).toInt32) &&& (3 : Int32)))])) _
          exact κ)
        obtain ⟨_, _, ⟨T9, L9, k9, n9⟩, -, X9, ⟨Lc9, hQ9, l9, y9, z9⟩, st9⟩ := Jvm.LawKit.callS X0 hx (y := (⟨"com/example/earmark/earmark/ledger/HoldStatesBatchClosedPinLaw", "pick", "(IJJJJ)J"⟩ : MethodName)) hown (mvT hZ (hw _ (List.mem_of_getElem? (i := 0) rfl))) (mvT hZ (hw _ (List.mem_of_getElem? (i := 1) rfl))) (mvT hZ (hw _ (List.mem_of_getElem? (i := 2) rfl))) (mvT hZ (hw _ (List.mem_of_getElem? (i := 3) rfl))) (by decide) (backOf (W := 0) (rm1 l Z a0 hw [] (((i5.toUInt32 >>> ((2 : Int32) &&& 31).toUInt32).toInt32) &&& (3 : Int32)) i0 i1 i2 i3 h0 n0 Z0) hZ (hw _ (List.mem_of_getElem? (i := 3) rfl)) (hw _ (List.mem_of_getElem? (i := 2) rfl)) (Nat.le_of_ble_eq_true rfl) (Nat.le_of_ble_eq_true rfl)) (g := (mkF m 40 #[.val (.long i0), .second, .val (.long i1), .second, .val (.long i2), .second, .val (.long i3), .second, .val (.long i4), .second, .val (.int i5), .val (.int (Int32.ofNat nq)), .unset, .unset, .unset, .unset, .unset, .unset, .unset, .unset] [(.long i3), (.long i2), (.long i1), (.long i0), (.int (((i5.toUInt32 >>> ((2 : Int32) &&& 31).toUInt32).toInt32) &&& (3 : Int32)))])) rfl (by rw [hml]; rfl) (argsL := [(.int (((i5.toUInt32 >>> ((2 : Int32) &&& 31).toUInt32).toInt32) &&& (3 : Int32))), (.long i0), (.long i1), (.long i2), (.long i3)]) (rest := []) (lenOf pd_12 rfl) rfl (by show 2 * 0 + _ ≤ _; exact Nat.le_of_eq rfl) (hb hby at_40) (fun _ _ => ⟨rfl, e0, (by decide : 0 + 0 ≤ _), (by decide : 0 + 0 ≤ _)⟩)
        dsimp only [Pt.U, Pt.locs, Pt.cells, Pt.slots] at X9 l9 y9 z9 st9 hQ9
        subst l9 y9 z9
        obtain ⟨xx, rfl, Nq9, hh9⟩ := hQ9
        have O0_9 : Old Z n0 T9.heap := by rw [hh9]; exact O0
        have Z9 : n0 ≤ T9.heap.size := by rw [hh9]; exact Z0
        have Kp9 : Keep h0 T9.heap [] := by rw [hh9]; exact Kp0
        have N9 := Fr.app N0 Nq9
        have pre10 := fun τ (κ : Steps p.tables e below (T9.setTop (mkF m 43 #[.val (.long i0), .second, .val (.long i1), .second, .val (.long i2), .second, .val (.long i3), .second, .val (.long i4), .second, .val (.int i5), .val (.int (Int32.ofNat nq)), .unset, .unset, .unset, .unset, .unset, .unset, .unset, .unset] [(.long xx)])) τ) => pre8 τ (st9 _ κ)
        have pre11 := fun τ (κ : Steps p.tables e below (T9.setTop (mkF m 57 #[.val (.long i0), .second, .val (.long i1), .second, .val (.long i2), .second, .val (.long i3), .second, .val (.long i4), .second, .val (.int i5), .val (.int (Int32.ofNat nq)), .val (.long xx), .second, .unset, .unset, .unset, .unset, .unset, .unset] [(.long i4), (.long i2), (.long i1), (.long i0), (.int (((i5.toUInt32 >>> ((4 : Int32) &&& 31).toUInt32).toInt32) &&& (3 : Int32)))])) τ) => pre10 τ (by
          refine XS.lstore X9.here hx rfl (hb hby at_43) rfl (l' := #[.val (.long i0), .second, .val (.long i1), .second, .val (.long i2), .second, .val (.long i3), .second, .val (.long i4), .second, .val (.int i5), .val (.int (Int32.ofNat nq)), .val (.long xx), .second, .unset, .unset, .unset, .unset, .unset, .unset]) rfl ?_
          show Steps p.tables e below (T9.setTop (mkF m 45 #[.val (.long i0), .second, .val (.long i1), .second, .val (.long i2), .second, .val (.long i3), .second, .val (.long i4), .second, .val (.int i5), .val (.int (Int32.ofNat nq)), .val (.long xx), .second, .unset, .unset, .unset, .unset, .unset, .unset] [])) _
          refine XS.iload X9.here hx rfl (hb hby at_45) rfl ?_
          refine XS.iconst X9.here hx rfl (hb hby at_47) ?_
          refine XS.iushr X9.here hx rfl (hb hby at_48) rfl ?_
          show Steps p.tables e below (T9.setTop (mkF m 49 #[.val (.long i0), .second, .val (.long i1), .second, .val (.long i2), .second, .val (.long i3), .second, .val (.long i4), .second, .val (.int i5), .val (.int (Int32.ofNat nq)), .val (.long xx), .second, .unset, .unset, .unset, .unset, .unset, .unset] [(.int ((i5.toUInt32 >>> ((4 : Int32) &&& 31).toUInt32).toInt32))])) _
          refine XS.iconst X9.here hx rfl (hb hby at_49) ?_
          refine XS.iand X9.here hx rfl (hb hby at_50) rfl ?_
          show Steps p.tables e below (T9.setTop (mkF m 51 #[.val (.long i0), .second, .val (.long i1), .second, .val (.long i2), .second, .val (.long i3), .second, .val (.long i4), .second, .val (.int i5), .val (.int (Int32.ofNat nq)), .val (.long xx), .second, .unset, .unset, .unset, .unset, .unset, .unset] [(.int (((i5.toUInt32 >>> ((4 : Int32) &&& 31).toUInt32).toInt32) &&& (3 : Int32)))])) _
          refine XS.lloadN X9.here hx rfl (hb hby at_51) rfl ?_
          refine XS.lloadN X9.here hx rfl (hb hby at_52) rfl ?_
          refine XS.lload X9.here hx rfl (hb hby at_53) rfl ?_
          refine XS.lload X9.here hx rfl (hb hby at_55) rfl ?_
          show Steps p.tables e below (T9.setTop (mkF m 57 #[.val (.long i0), .second, .val (.long i1), .second, .val (.long i2), .second, .val (.long i3), .second, .val (.long i4), .second, .val (.int i5), .val (.int (Int32.ofNat nq)), .val (.long xx), .second, .unset, .unset, .unset, .unset, .unset, .unset] [(.long i4), (.long i2), (.long i1), (.long i0), (.int (((i5.toUInt32 >>> ((4 : Int32) &&& 31).toUInt32).toInt32) &&& (3 : Int32)))])) _
          exact κ)
        obtain ⟨_, _, ⟨T12, L12, k12, n12⟩, -, X12, ⟨Lc12, hQ12, l12, y12, z12⟩, st12⟩ := Jvm.LawKit.callS X9 hx (y := (⟨"com/example/earmark/earmark/ledger/HoldStatesBatchClosedPinLaw", "pick", "(IJJJJ)J"⟩ : MethodName)) hown (mvT hZ (hw _ (List.mem_of_getElem? (i := 0) rfl))) (mvT hZ (hw _ (List.mem_of_getElem? (i := 1) rfl))) (mvT hZ (hw _ (List.mem_of_getElem? (i := 2) rfl))) (mvT hZ (hw _ (List.mem_of_getElem? (i := 3) rfl))) (by decide) (backOf (W := 0) (rm1 l Z a0 hw [] (((i5.toUInt32 >>> ((4 : Int32) &&& 31).toUInt32).toInt32) &&& (3 : Int32)) i0 i1 i2 i4 T9.heap n0 Z9) hZ (hw _ (List.mem_of_getElem? (i := 3) rfl)) (hw _ (List.mem_of_getElem? (i := 2) rfl)) (Nat.le_of_ble_eq_true rfl) (Nat.le_of_ble_eq_true rfl)) (g := (mkF m 57 #[.val (.long i0), .second, .val (.long i1), .second, .val (.long i2), .second, .val (.long i3), .second, .val (.long i4), .second, .val (.int i5), .val (.int (Int32.ofNat nq)), .val (.long xx), .second, .unset, .unset, .unset, .unset, .unset, .unset] [(.long i4), (.long i2), (.long i1), (.long i0), (.int (((i5.toUInt32 >>> ((4 : Int32) &&& 31).toUInt32).toInt32) &&& (3 : Int32)))])) rfl (by rw [hml]; rfl) (argsL := [(.int (((i5.toUInt32 >>> ((4 : Int32) &&& 31).toUInt32).toInt32) &&& (3 : Int32))), (.long i0), (.long i1), (.long i2), (.long i4)]) (rest := []) (lenOf pd_12 rfl) rfl (by show 2 * 0 + _ ≤ _; exact Nat.le_of_eq rfl) (hb hby at_57) (fun _ _ => ⟨rfl, rfl, (by decide : 0 + 0 ≤ _), (by decide : 0 + 0 ≤ _)⟩)
        dsimp only [Pt.U, Pt.locs, Pt.cells, Pt.slots] at X12 l12 y12 z12 st12 hQ12
        subst l12 y12 z12
        obtain ⟨yy, rfl, Nq12, hh12⟩ := hQ12
        have O0_12 : Old Z n0 T12.heap := by rw [hh12]; exact O0_9
        have Z12 : n0 ≤ T12.heap.size := by rw [hh12]; exact Z9
        have Kp12 : Keep h0 T12.heap [] := by rw [hh12]; exact Kp9
        have N12 := Fr.app N9 Nq12
        have pre13 := fun τ (κ : Steps p.tables e below (T12.setTop (mkF m 60 #[.val (.long i0), .second, .val (.long i1), .second, .val (.long i2), .second, .val (.long i3), .second, .val (.long i4), .second, .val (.int i5), .val (.int (Int32.ofNat nq)), .val (.long xx), .second, .unset, .unset, .unset, .unset, .unset, .unset] [(.long yy)])) τ) => pre11 τ (st12 _ κ)
        have pre14 := fun τ (κ : Steps p.tables e below (T12.setTop (mkF m 62 #[.val (.long i0), .second, .val (.long i1), .second, .val (.long i2), .second, .val (.long i3), .second, .val (.long i4), .second, .val (.int i5), .val (.int (Int32.ofNat nq)), .val (.long xx), .second, .val (.long yy), .second, .unset, .unset, .unset, .unset] [])) τ) => pre13 τ (by
          refine XS.lstore X12.here hx rfl (hb hby at_60) rfl (l' := #[.val (.long i0), .second, .val (.long i1), .second, .val (.long i2), .second, .val (.long i3), .second, .val (.long i4), .second, .val (.int i5), .val (.int (Int32.ofNat nq)), .val (.long xx), .second, .val (.long yy), .second, .unset, .unset, .unset, .unset]) rfl ?_
          show Steps p.tables e below (T12.setTop (mkF m 62 #[.val (.long i0), .second, .val (.long i1), .second, .val (.long i2), .second, .val (.long i3), .second, .val (.long i4), .second, .val (.int i5), .val (.int (Int32.ofNat nq)), .val (.long xx), .second, .val (.long yy), .second, .unset, .unset, .unset, .unset] [])) _
          exact κ)
        obtain ⟨T15, h15, X15, e15, E15, A15, D15, -, st15⟩ := newO X12 hx hZ hown (hw _ (List.mem_of_getElem? (i := 4) rfl)) (hw _ (List.mem_of_getElem? (i := 5) rfl)) (hw _ (List.mem_of_getElem? (i := 6) rfl)) rfl (g := (mkF m 62 #[.val (.long i0), .second, .val (.long i1), .second, .val (.long i2), .second, .val (.long i3), .second, .val (.long i4), .second, .val (.int i5), .val (.int (Int32.ofNat nq)), .val (.long xx), .second, .val (.long yy), .second, .unset, .unset, .unset, .unset] [])) rfl (hb hby at_62) (by decide) (by decide)
        obtain ⟨so, g15⟩ : ∃ z, z = T12.heap.size := ⟨_, rfl⟩
        rw [← g15] at A15 D15 st15
        have g_so : n0 ≤ so := Nat.le_trans Z12 (Nat.le_of_eq g15.symm)
        have O0_15 : Old Z n0 h15 := O0_12.ext E15
        have sz_so : h0.size ≤ so := Nat.le_trans Kp12.1 (Nat.le_of_eq g15.symm)
        have Kp15 : Keep h0 h15 [] := Kp12.ext E15
        have Z15 : n0 ≤ h15.size := Nat.le_trans Z12 E15.1
        have F_chunks_so_15 : Fld Z h15 so "com/example/earmark/earmark/ledger/HoldStates" "chunks" "[Lcom/example/earmark/earmark/ledger/HoldStates$Chunk;" .null := D15 (Or.inl (hw _ (List.mem_of_getElem? (i := 53) rfl))) (ty := (.array (.object "com/example/earmark/earmark/ledger/HoldStates$Chunk"))) (by decide)
        have F_index_so_15 : Fld Z h15 so "com/example/earmark/earmark/ledger/HoldStates" "index" "Lcom/example/earmark/earmark/ledger/RowIndex;" .null := D15 (Or.inr (hw _ (List.mem_of_getElem? (i := 84) rfl))) (ty := (.object "com/example/earmark/earmark/ledger/RowIndex")) (by decide)
        have F_otherNumbers_so_15 : Fld Z h15 so "com/example/earmark/earmark/ledger/HoldStates" "otherNumbers" "Ljava/util/Map;" .null := D15 (Or.inr (hw _ (List.mem_of_getElem? (i := 102) rfl))) (ty := (.object "java/util/Map")) (by decide)
        have F_otherIds_so_15 : Fld Z h15 so "com/example/earmark/earmark/ledger/HoldStates" "otherIds" "Ljava/util/Map;" .null := D15 (Or.inr (hw _ (List.mem_of_getElem? (i := 104) rfl))) (ty := (.object "java/util/Map")) (by decide)
        have F_batched_so_15 : Fld Z h15 so "com/example/earmark/earmark/ledger/HoldStates" "batched" "[[J" .null := D15 (Or.inl (hw _ (List.mem_of_getElem? (i := 108) rfl))) (ty := (.array (.array .long))) (by decide)
        have F_passed_so_15 : Fld Z h15 so "com/example/earmark/earmark/ledger/HoldStates" "passed" "[J" .null := D15 (Or.inl (hw _ (List.mem_of_getElem? (i := 110) rfl))) (ty := (.array .long)) (by decide)
        have F_prefix_so_15 : Fld Z h15 so "com/example/earmark/earmark/ledger/HoldStates" "prefix" "Ljava/lang/String;" .null := D15 (Or.inr (hw _ (List.mem_of_getElem? (i := 112) rfl))) (ty := (.object "java/lang/String")) (by decide)
        have F_prefixText_so_15 : Fld Z h15 so "com/example/earmark/earmark/ledger/HoldStates" "prefixText" "[B" .null := D15 (Or.inr (hw _ (List.mem_of_getElem? (i := 151) rfl))) (ty := (.array .byte)) (by decide)
        have F_passedCount_so_15 : Fld Z h15 so "com/example/earmark/earmark/ledger/HoldStates" "passedCount" "I" (.int (0 : Int32)) := D15 (Or.inl (hw _ (List.mem_of_getElem? (i := 158) rfl))) (ty := .int) (by decide)
        have pre16 := fun τ (κ : Steps p.tables e below (T15.setTop (mkF m 65 #[.val (.long i0), .second, .val (.long i1), .second, .val (.long i2), .second, .val (.long i3), .second, .val (.long i4), .second, .val (.int i5), .val (.int (Int32.ofNat nq)), .val (.long xx), .second, .val (.long yy), .second, .unset, .unset, .unset, .unset] [(.ref so)])) τ) => pre14 τ (st15 _ κ)
        have Sf0 : Safe Z consts_1 s.vm h15 so := Safe.exa hZ.alike A15 (by decide) (by decide)
        have hZ0 := hZ
        obtain ⟨cO9, hO9⟩ : ∃ q, Z.vm.findClass "com/example/earmark/earmark/ledger/HoldStatesBatchClosedPinLaw" = some q := ⟨m.cls, by rw [← hZ.alike.findClass]; exact hown⟩
        have pre17 := fun τ (κ : Steps p.tables e below (T15.setTop (mkF m 66 #[.val (.long i0), .second, .val (.long i1), .second, .val (.long i2), .second, .val (.long i3), .second, .val (.long i4), .second, .val (.int i5), .val (.int (Int32.ofNat nq)), .val (.long xx), .second, .val (.long yy), .second, .unset, .unset, .unset, .unset] [(.ref so), (.ref so)])) τ) => pre16 τ (by
          refine XS.dup X15.here hx rfl (hb hby at_65) rfl rfl ?_
          show Steps p.tables e below (T15.setTop (mkF m 66 #[.val (.long i0), .second, .val (.long i1), .second, .val (.long i2), .second, .val (.long i3), .second, .val (.long i4), .second, .val (.int i5), .val (.int (Int32.ofNat nq)), .val (.long xx), .second, .val (.long yy), .second, .unset, .unset, .unset, .unset] [(.ref so), (.ref so)])) _
          exact κ)
        obtain ⟨li, T18, h18, ks18, eb, kb18, X18, e18, E18, hS18, hks, hZ, hown, A18, Fc18, Fv18, V18, lta18, ltb18, C18, Lit18, Ne18, st18⟩ := ldcCH (s := s) (vm0 := s.vm) X15 hx hZ hown (hw _ (List.mem_of_getElem? (i := 7) rfl)) (own_wS hw) e15 hS0 (Nat.zero_le _) hEL (List.mem_of_getElem? (i := 0) rfl) (CHv.keep Kp15 sf0 hC0) (vs := [(.int (104 : Int32))]) (z := 1) ⟨by decide, by decide⟩ (by decide) rfl (g := (mkF m 66 #[.val (.long i0), .second, .val (.long i1), .second, .val (.long i2), .second, .val (.long i3), .second, .val (.long i4), .second, .val (.int i5), .val (.int (Int32.ofNat nq)), .val (.long xx), .second, .val (.long yy), .second, .unset, .unset, .unset, .unset] [(.ref so), (.ref so)])) rfl (hb hby at_66) (n := 4) (by decide) (by decide) (by decide) (by decide)
        have O0_18 : Old Z n0 h18 := O0_15.ext E18
        have A15_18 : Exa Z h18 so "com/example/earmark/earmark/ledger/HoldStates" := A15.ext E18
        have F_chunks_so_18 : Fld Z h18 so "com/example/earmark/earmark/ledger/HoldStates" "chunks" "[Lcom/example/earmark/earmark/ledger/HoldStates$Chunk;" .null := F_chunks_so_15.ext E18
        have F_index_so_18 : Fld Z h18 so "com/example/earmark/earmark/ledger/HoldStates" "index" "Lcom/example/earmark/earmark/ledger/RowIndex;" .null := F_index_so_15.ext E18
        have F_otherNumbers_so_18 : Fld Z h18 so "com/example/earmark/earmark/ledger/HoldStates" "otherNumbers" "Ljava/util/Map;" .null := F_otherNumbers_so_15.ext E18
        have F_otherIds_so_18 : Fld Z h18 so "com/example/earmark/earmark/ledger/HoldStates" "otherIds" "Ljava/util/Map;" .null := F_otherIds_so_15.ext E18
        have F_batched_so_18 : Fld Z h18 so "com/example/earmark/earmark/ledger/HoldStates" "batched" "[[J" .null := F_batched_so_15.ext E18
        have F_passed_so_18 : Fld Z h18 so "com/example/earmark/earmark/ledger/HoldStates" "passed" "[J" .null := F_passed_so_15.ext E18
        have F_prefix_so_18 : Fld Z h18 so "com/example/earmark/earmark/ledger/HoldStates" "prefix" "Ljava/lang/String;" .null := F_prefix_so_15.ext E18
        have F_prefixText_so_18 : Fld Z h18 so "com/example/earmark/earmark/ledger/HoldStates" "prefixText" "[B" .null := F_prefixText_so_15.ext E18
        have F_passedCount_so_18 : Fld Z h18 so "com/example/earmark/earmark/ledger/HoldStates" "passedCount" "I" (.int (0 : Int32)) := F_passedCount_so_15.ext E18
        have Kp18 : Keep h0 h18 [] := Kp15.ext E18
        have Z18 : n0 ≤ h18.size := Nat.le_trans Z15 E18.1
        have pre19 := fun τ (κ : Steps p.tables e below (T18.setTop (mkF m 68 #[.val (.long i0), .second, .val (.long i1), .second, .val (.long i2), .second, .val (.long i3), .second, .val (.long i4), .second, .val (.int i5), .val (.int (Int32.ofNat nq)), .val (.long xx), .second, .val (.long yy), .second, .unset, .unset, .unset, .unset] [(.ref li), (.ref so), (.ref so)])) τ) => pre17 τ (st18 _ κ)
        have Sf1 := C18.safe A15.lt Sf0
        obtain ⟨ne_so_li, ne_so_eb⟩ := Ne18 so Sf1
        have E_b : Exa Z h18 eb "[B" := own_exaB hZ hO9 (hw _ (List.mem_of_getElem? (i := 7) rfl)) C18.1 (List.mem_of_getElem? (i := 0) rfl) Lit18 Fv18 V18
        obtain ⟨sx18, hsx18⟩ : ∃ z, z = s.setVm T18.vm := ⟨_, rfl⟩
        rw [← hsx18] at X18 hZ hown
        obtain ⟨_, _, ⟨T20, L20, k20, n20⟩, -, X20, ⟨Lc20, hQ20, l20, y20, z20⟩, st20⟩ := X18.specialBack hx (y := (⟨"com/example/earmark/earmark/ledger/HoldStates", "<init>", "(Ljava/lang/String;)V"⟩ : MethodName)) rfl hown (mvT hZ (hw _ (List.mem_of_getElem? (i := 15) rfl))) (mvT hZ (hw _ (List.mem_of_getElem? (i := 16) rfl))) (mvT hZ (hw _ (List.mem_of_getElem? (i := 17) rfl))) (by decide) (backOf (W := 1) (rm2 l Z a0 hw [] so li eb kb18 zc cs u8 nn h18 n0 Z18 O0_18 S8 c9 S1 S2 hcu S0 Sn En V18 E_b A18 Fc18 Fv18 A15_18 g_so (Ne.symm ne_so_li) (Ne.symm ne_so_eb) F_chunks_so_18 F_index_so_18 F_otherNumbers_so_18 F_otherIds_so_18 F_batched_so_18 F_passed_so_18 F_prefix_so_18 F_prefixText_so_18 F_passedCount_so_18) hZ (hw _ (List.mem_of_getElem? (i := 17) rfl)) (hw _ (List.mem_of_getElem? (i := 6) rfl)) (Nat.le_of_ble_eq_true rfl) (Nat.le_of_ble_eq_true rfl)) (g := (mkF m 68 #[.val (.long i0), .second, .val (.long i1), .second, .val (.long i2), .second, .val (.long i3), .second, .val (.long i4), .second, .val (.int i5), .val (.int (Int32.ofNat nq)), .val (.long xx), .second, .val (.long yy), .second, .unset, .unset, .unset, .unset] [(.ref li), (.ref so), (.ref so)])) rfl (by rw [hml]; rfl) (Steps.refl _) (a := so) (argsL := [(.ref li)]) (rest := [(.ref so)]) (lenOf pd_13 rfl) rfl (by show 2 * 0 + _ ≤ _; exact Nat.le_of_eq rfl) (hb hby at_68) (fun _ _ => ⟨rfl, e18, (by decide : 3 + 20 ≤ _), (by decide : 18 + 700 ≤ _)⟩)
        dsimp only [Pt.U, Pt.locs, Pt.cells, Pt.slots] at X20 l20 y20 z20 st20 hQ20
        subst l20 y20 z20
        obtain ⟨rfl, Nq20, K20, PB20⟩ := hQ20
        have O0_20 : Old Z n0 T20.heap := O0_18.keep K20 (allS g_so all0)
        have A15_20 : Exa Z T20.heap so "com/example/earmark/earmark/ledger/HoldStates" := A15_18.keep K20
        have A18_20 : Exa Z T20.heap li "java/lang/String" := A18.keep K20
        have Fc18_20 : Fld Z T20.heap li "java/lang/String" "coder" "B" (.int (0 : Int32)) := Fc18.keep K20 (ninS (Ne.symm ne_so_li) nin0)
        have Fv18_20 : Fld Z T20.heap li "java/lang/String" "value" "[B" (.ref eb) := Fv18.keep K20 (ninS (Ne.symm ne_so_li) nin0)
        have V18_20 : Arv Z T20.heap eb kb18 .byte (1 : Int32) [(.int (104 : Int32))] (.int (0 : Int32)) := V18.keep K20 (ninS (Ne.symm ne_so_eb) nin0)
        have Z20 : n0 ≤ T20.heap.size := Nat.le_trans Z18 K20.1
        have hks : ks18 ≤ T20.heap.size := Nat.le_trans hks K20.1
        have Kp20 : Keep h0 T20.heap [] := Kp18.trans K20 (allS (Or.inr sz_so) all0)
        have N20 := Fr.app N12 Nq20
        have pre21 := fun τ (κ : Steps p.tables e below (T20.setTop (mkF m 71 #[.val (.long i0), .second, .val (.long i1), .second, .val (.long i2), .second, .val (.long i3), .second, .val (.long i4), .second, .val (.int i5), .val (.int (Int32.ofNat nq)), .val (.long xx), .second, .val (.long yy), .second, .unset, .unset, .unset, .unset] [(.ref so)])) τ) => pre19 τ (st20.trans κ)
        have hinj0 : own_inj 0 (fun _ => 0) := fun i j hi => absurd hi (by omega)
        have hm0 : ∀ v9, own_in 0 (fun _ => 0) v9 ↔ False := (fun v9 => ⟨fun ⟨j, hj, _⟩ => absurd hj (by omega), fun q => q.elim⟩)
        have hk0 : 0 ≤ 1 := by omega
        have hzb0 : 1 ≤ 1 := by omega
        have hzt0 : 1 ≤ 1 := by omega
        have pre22 := fun τ (κ : Steps p.tables e below (T20.setTop (mkF m 76 #[.val (.long i0), .second, .val (.long i1), .second, .val (.long i2), .second, .val (.long i3), .second, .val (.long i4), .second, .val (.int i5), .val (.int (Int32.ofNat nq)), .val (.long xx), .second, .val (.long yy), .second, .val (.ref so), .unset, .unset, .unset] [(.int (1 : Int32)), (.int (Int32.ofNat nq))])) τ) => pre21 τ (by
          refine XS.astore X20.here hx rfl (hb hby at_71) rfl rfl (l' := #[.val (.long i0), .second, .val (.long i1), .second, .val (.long i2), .second, .val (.long i3), .second, .val (.long i4), .second, .val (.int i5), .val (.int (Int32.ofNat nq)), .val (.long xx), .second, .val (.long yy), .second, .val (.ref so), .unset, .unset, .unset]) rfl ?_
          show Steps p.tables e below (T20.setTop (mkF m 73 #[.val (.long i0), .second, .val (.long i1), .second, .val (.long i2), .second, .val (.long i3), .second, .val (.long i4), .second, .val (.int i5), .val (.int (Int32.ofNat nq)), .val (.long xx), .second, .val (.long yy), .second, .val (.ref so), .unset, .unset, .unset] [])) _
          refine XS.iload X20.here hx rfl (hb hby at_73) rfl ?_
          refine XS.iconst X20.here hx rfl (hb hby at_75) ?_
          show Steps p.tables e below (T20.setTop (mkF m 76 #[.val (.long i0), .second, .val (.long i1), .second, .val (.long i2), .second, .val (.long i3), .second, .val (.long i4), .second, .val (.int i5), .val (.int (Int32.ofNat nq)), .val (.long xx), .second, .val (.long yy), .second, .val (.ref so), .unset, .unset, .unset] [(.int (1 : Int32)), (.int (Int32.ofNat nq))])) _
          exact κ)
        obtain ⟨T23, h23, lo23, kk0, zz0, ff0, X23, e23, N23, Z23, A15_23, PB_23, hks, hk1, hzb1, hzt1, hinj1, hm1, pre23⟩ : ∃ (T23 : State) (h23 : Heap) (lo23 : List Loc) (kk0 zz0 : Nat) (ff0 : Nat → Int64), Stand p l e room_1 sx18 m #[(.long i0), (.long i1), (.long i2), (.long i3), (.long i4), (.int i5)] below meth c T23 lo23 (24) (722) ∧ T23.heap = h23 ∧ Fr n0 lo23 ∧ n0 ≤ h23.size ∧ (Exa Z h23 so "com/example/earmark/earmark/ledger/HoldStates") ∧ (own_PB Z h23 n0 so kk0 zz0 ff0) ∧ (ks18 ≤ h23.size) ∧ (kk0 ≤ zz0) ∧ (1 ≤ zz0) ∧ (zz0 ≤ 1) ∧ (own_inj kk0 ff0) ∧ (∀ v9, own_in kk0 ff0 v9 ↔ (False) ∨ (1 ≤ nq ∧ v9 = i0)) ∧ ∀ τ, Steps p.tables e below (T23.setTop (mkF m 85 #[.val (.long i0), .second, .val (.long i1), .second, .val (.long i2), .second, .val (.long i3), .second, .val (.long i4), .second, .val (.int i5), .val (.int (Int32.ofNat nq)), .val (.long xx), .second, .val (.long yy), .second, .val (.ref so), .unset, .unset, .unset] [])) τ → Steps p.tables e below (s₁.setTop (entryFrame m #[(.long i0), (.long i1), (.long i2), (.long i3), (.long i4), (.int i5)] maxLocals)) τ := by
          by_cases hn0 : (Int32.ofNat nq) < (1 : Int32)
          · have hlt9 : nq < 1 := (own_ltN (j := 1) (by omega) (by omega)).mp hn0
            have pre24 := fun τ (κ : Steps p.tables e below (T20.setTop (mkF m 85 #[.val (.long i0), .second, .val (.long i1), .second, .val (.long i2), .second, .val (.long i3), .second, .val (.long i4), .second, .val (.int i5), .val (.int (Int32.ofNat nq)), .val (.long xx), .second, .val (.long yy), .second, .val (.ref so), .unset, .unset, .unset] [])) τ) => pre22 τ (by
              refine XS.icmpYes X20.here hx rfl (pc0 := 76) (pc' := 85) rfl (hb hby at_76) rfl (tlt hn0).1 (by decide) (by decide) ?_
              show Steps p.tables e below (T20.setTop (mkF m 85 #[.val (.long i0), .second, .val (.long i1), .second, .val (.long i2), .second, .val (.long i3), .second, .val (.long i4), .second, .val (.int i5), .val (.int (Int32.ofNat nq)), .val (.long xx), .second, .val (.long yy), .second, .val (.ref so), .unset, .unset, .unset] [])) _
              exact κ)
            exact ⟨T20, T20.heap, _, 0, 1, (fun _ => 0), X20.more (by decide) (by decide), rfl, N20, Z20, A15_20, PB20, hks, hk0, hzb0, by omega, hinj0, fun v9 => ⟨fun q => Or.inl ((hm0 v9).mp q), fun q => q.elim (fun q => (hm0 v9).mpr q) (fun q => absurd q.1 (by omega))⟩, pre24⟩
          · have hge9 : 1 ≤ nq := by have : ¬ nq < 1 := fun q => hn0 ((own_ltN (i := nq) (j := 1) (by omega) (by omega)).mpr q); omega
            have pre25 := fun τ (κ : Steps p.tables e below (T20.setTop (mkF m 82 #[.val (.long i0), .second, .val (.long i1), .second, .val (.long i2), .second, .val (.long i3), .second, .val (.long i4), .second, .val (.int i5), .val (.int (Int32.ofNat nq)), .val (.long xx), .second, .val (.long yy), .second, .val (.ref so), .unset, .unset, .unset] [(.long i0), (.ref so)])) τ) => pre22 τ (by
              refine XS.icmpNo X20.here hx rfl (hb hby at_76) rfl (flt hn0).1 ?_
              show Steps p.tables e below (T20.setTop (mkF m 79 #[.val (.long i0), .second, .val (.long i1), .second, .val (.long i2), .second, .val (.long i3), .second, .val (.long i4), .second, .val (.int i5), .val (.int (Int32.ofNat nq)), .val (.long xx), .second, .val (.long yy), .second, .val (.ref so), .unset, .unset, .unset] [])) _
              refine XS.aload X20.here hx rfl (hb hby at_79) rfl rfl ?_
              refine XS.lloadN X20.here hx rfl (hb hby at_81) rfl ?_
              show Steps p.tables e below (T20.setTop (mkF m 82 #[.val (.long i0), .second, .val (.long i1), .second, .val (.long i2), .second, .val (.long i3), .second, .val (.long i4), .second, .val (.int i5), .val (.int (Int32.ofNat nq)), .val (.long xx), .second, .val (.long yy), .second, .val (.ref so), .unset, .unset, .unset] [(.long i0), (.ref so)])) _
              exact κ)
            obtain ⟨cq26, kq26, q26a, q26b, q26c⟩ := isOf hZ rfl A15_20
            obtain ⟨_, _, ⟨T26, L26, k26, n26⟩, -, X26, ⟨Lc26, hQ26, l26, y26, z26⟩, st26⟩ := X20.virtualBack hx (y := (⟨"com/example/earmark/earmark/ledger/HoldStates", "passBatch", "(J)V"⟩ : MethodName)) (z := (⟨"com/example/earmark/earmark/ledger/HoldStates", "passBatch", "(J)V"⟩ : MethodName)) hown (mvT hZ (hw _ (List.mem_of_getElem? (i := 152) rfl))) (mvT hZ (hw _ (List.mem_of_getElem? (i := 153) rfl))) (notFace_of_selects (args := #[]) (mvT hZ (hw _ (List.mem_of_getElem? (i := 155) rfl)))) (mvT hZ (hw _ (List.mem_of_getElem? (i := 155) rfl))) (mvT hZ (hw _ (List.mem_of_getElem? (i := 154) rfl))) (by decide) (backOf (W := 0) (rm15 l Z a0 hw [] so i0 0 1 (fun _ => 0) T20.heap n0 Z20 A15_20 g_so PB20 hk0 hzb0 (by omega)) hZ (hw _ (List.mem_of_getElem? (i := 156) rfl)) (hw _ (List.mem_of_getElem? (i := 6) rfl)) (Nat.le_of_ble_eq_true rfl) (Nat.le_of_ble_eq_true rfl)) q26a q26c (g := (mkF m 82 #[.val (.long i0), .second, .val (.long i1), .second, .val (.long i2), .second, .val (.long i3), .second, .val (.long i4), .second, .val (.int i5), .val (.int (Int32.ofNat nq)), .val (.long xx), .second, .val (.long yy), .second, .val (.ref so), .unset, .unset, .unset] [(.long i0), (.ref so)])) rfl (by rw [hml]; rfl) (Steps.refl _) (argsL := [(.long i0)]) (rest := []) (lenOf pd_14 rfl) rfl (by show 2 * 0 + _ ≤ _; exact Nat.le_of_eq rfl) (hb hby at_82) (fun _ _ => ⟨rfl, rfl, (by decide : 23 + 1 ≤ _), (by decide : 718 + 4 ≤ _)⟩)
            dsimp only [Pt.U, Pt.locs, Pt.cells, Pt.slots] at X26 l26 y26 z26 st26 hQ26
            subst l26 y26 z26
            obtain ⟨rfl, Nq26, hs9, Ez, zq, gq, hq1, hq2, hq5, hq3, hq4, PBq⟩ := hQ26
            have N26 := Fr.app N20 Nq26
            have pre27 := fun τ (κ : Steps p.tables e below (T26.setTop (mkF m 85 #[.val (.long i0), .second, .val (.long i1), .second, .val (.long i2), .second, .val (.long i3), .second, .val (.long i4), .second, .val (.int i5), .val (.int (Int32.ofNat nq)), .val (.long xx), .second, .val (.long yy), .second, .val (.ref so), .unset, .unset, .unset] [])) τ) => pre25 τ (st26.trans κ)
            have hks := Nat.le_trans hks hs9
            have Zq : n0 ≤ T26.heap.size := Nat.le_trans Z20 hs9
            have hno : ¬ own_in 0 (fun _ => 0) i0 := fun q => own_no0 d0 d1 d2 ((hm0 _).mp q)
            exact ⟨T26, T26.heap, _, (0 + 1), zq, gq, X26, rfl, N26, Zq, Ez, PBq, hks, hq1, by omega, by omega, own_injS hq3 hq4 hinj0 hno, fun v9 => (own_inS hq3 hq4).trans ⟨fun q => q.elim (fun q => Or.inl ((hm0 v9).mp q)) (fun q => Or.inr ⟨hge9, q⟩), fun q => q.elim (fun q => Or.inl ((hm0 v9).mpr q)) (fun q => Or.inr q.2)⟩, pre27⟩
        have pre28 := fun τ (κ : Steps p.tables e below (T23.setTop (mkF m 88 #[.val (.long i0), .second, .val (.long i1), .second, .val (.long i2), .second, .val (.long i3), .second, .val (.long i4), .second, .val (.int i5), .val (.int (Int32.ofNat nq)), .val (.long xx), .second, .val (.long yy), .second, .val (.ref so), .unset, .unset, .unset] [(.int (2 : Int32)), (.int (Int32.ofNat nq))])) τ) => pre23 τ (by
          refine XS.iload X23.here hx rfl (hb hby at_85) rfl ?_
          refine XS.iconst X23.here hx rfl (hb hby at_87) ?_
          show Steps p.tables e below (T23.setTop (mkF m 88 #[.val (.long i0), .second, .val (.long i1), .second, .val (.long i2), .second, .val (.long i3), .second, .val (.long i4), .second, .val (.int i5), .val (.int (Int32.ofNat nq)), .val (.long xx), .second, .val (.long yy), .second, .val (.ref so), .unset, .unset, .unset] [(.int (2 : Int32)), (.int (Int32.ofNat nq))])) _
          exact κ)
        obtain ⟨T29, h29, lo29, kk1, zz1, ff1, X29, e29, N29, Z29, A15_29, PB_29, hks, hk2, hzb2, hzt2, hinj2, hm2, pre29⟩ : ∃ (T29 : State) (h29 : Heap) (lo29 : List Loc) (kk1 zz1 : Nat) (ff1 : Nat → Int64), Stand p l e room_1 sx18 m #[(.long i0), (.long i1), (.long i2), (.long i3), (.long i4), (.int i5)] below meth c T29 lo29 (25) (726) ∧ T29.heap = h29 ∧ Fr n0 lo29 ∧ n0 ≤ h29.size ∧ (Exa Z h29 so "com/example/earmark/earmark/ledger/HoldStates") ∧ (own_PB Z h29 n0 so kk1 zz1 ff1) ∧ (ks18 ≤ h29.size) ∧ (kk1 ≤ zz1) ∧ (1 ≤ zz1) ∧ (zz1 ≤ 2) ∧ (own_inj kk1 ff1) ∧ (∀ v9, own_in kk1 ff1 v9 ↔ ((False) ∨ (1 ≤ nq ∧ v9 = i0)) ∨ (2 ≤ nq ∧ v9 = i1)) ∧ ∀ τ, Steps p.tables e below (T29.setTop (mkF m 97 #[.val (.long i0), .second, .val (.long i1), .second, .val (.long i2), .second, .val (.long i3), .second, .val (.long i4), .second, .val (.int i5), .val (.int (Int32.ofNat nq)), .val (.long xx), .second, .val (.long yy), .second, .val (.ref so), .unset, .unset, .unset] [])) τ → Steps p.tables e below (s₁.setTop (entryFrame m #[(.long i0), (.long i1), (.long i2), (.long i3), (.long i4), (.int i5)] maxLocals)) τ := by
          by_cases hn1 : (Int32.ofNat nq) < (2 : Int32)
          · have hlt9 : nq < 2 := (own_ltN (j := 2) (by omega) (by omega)).mp hn1
            have pre30 := fun τ (κ : Steps p.tables e below (T23.setTop (mkF m 97 #[.val (.long i0), .second, .val (.long i1), .second, .val (.long i2), .second, .val (.long i3), .second, .val (.long i4), .second, .val (.int i5), .val (.int (Int32.ofNat nq)), .val (.long xx), .second, .val (.long yy), .second, .val (.ref so), .unset, .unset, .unset] [])) τ) => pre28 τ (by
              refine XS.icmpYes X23.here hx rfl (pc0 := 88) (pc' := 97) rfl (hb hby at_88) rfl (tlt hn1).1 (by decide) (by decide) ?_
              show Steps p.tables e below (T23.setTop (mkF m 97 #[.val (.long i0), .second, .val (.long i1), .second, .val (.long i2), .second, .val (.long i3), .second, .val (.long i4), .second, .val (.int i5), .val (.int (Int32.ofNat nq)), .val (.long xx), .second, .val (.long yy), .second, .val (.ref so), .unset, .unset, .unset] [])) _
              exact κ)
            exact ⟨T23, h23, _, kk0, zz0, ff0, X23.more (by decide) (by decide), e23, N23, Z23, A15_23, PB_23, hks, hk1, hzb1, by omega, hinj1, fun v9 => ⟨fun q => Or.inl ((hm1 v9).mp q), fun q => q.elim (fun q => (hm1 v9).mpr q) (fun q => absurd q.1 (by omega))⟩, pre30⟩
          · have hge9 : 2 ≤ nq := by have : ¬ nq < 2 := fun q => hn1 ((own_ltN (i := nq) (j := 2) (by omega) (by omega)).mpr q); omega
            have pre31 := fun τ (κ : Steps p.tables e below (T23.setTop (mkF m 94 #[.val (.long i0), .second, .val (.long i1), .second, .val (.long i2), .second, .val (.long i3), .second, .val (.long i4), .second, .val (.int i5), .val (.int (Int32.ofNat nq)), .val (.long xx), .second, .val (.long yy), .second, .val (.ref so), .unset, .unset, .unset] [(.long i1), (.ref so)])) τ) => pre28 τ (by
              refine XS.icmpNo X23.here hx rfl (hb hby at_88) rfl (flt hn1).1 ?_
              show Steps p.tables e below (T23.setTop (mkF m 91 #[.val (.long i0), .second, .val (.long i1), .second, .val (.long i2), .second, .val (.long i3), .second, .val (.long i4), .second, .val (.int i5), .val (.int (Int32.ofNat nq)), .val (.long xx), .second, .val (.long yy), .second, .val (.ref so), .unset, .unset, .unset] [])) _
              refine XS.aload X23.here hx rfl (hb hby at_91) rfl rfl ?_
              refine XS.lloadN X23.here hx rfl (hb hby at_93) rfl ?_
              show Steps p.tables e below (T23.setTop (mkF m 94 #[.val (.long i0), .second, .val (.long i1), .second, .val (.long i2), .second, .val (.long i3), .second, .val (.long i4), .second, .val (.int i5), .val (.int (Int32.ofNat nq)), .val (.long xx), .second, .val (.long yy), .second, .val (.ref so), .unset, .unset, .unset] [(.long i1), (.ref so)])) _
              exact κ)
            obtain ⟨cq32, kq32, q32a, q32b, q32c⟩ := isOf hZ e23 A15_23
            obtain ⟨_, _, ⟨T32, L32, k32, n32⟩, -, X32, ⟨Lc32, hQ32, l32, y32, z32⟩, st32⟩ := X23.virtualBack hx (y := (⟨"com/example/earmark/earmark/ledger/HoldStates", "passBatch", "(J)V"⟩ : MethodName)) (z := (⟨"com/example/earmark/earmark/ledger/HoldStates", "passBatch", "(J)V"⟩ : MethodName)) hown (mvT hZ (hw _ (List.mem_of_getElem? (i := 152) rfl))) (mvT hZ (hw _ (List.mem_of_getElem? (i := 153) rfl))) (notFace_of_selects (args := #[]) (mvT hZ (hw _ (List.mem_of_getElem? (i := 155) rfl)))) (mvT hZ (hw _ (List.mem_of_getElem? (i := 155) rfl))) (mvT hZ (hw _ (List.mem_of_getElem? (i := 154) rfl))) (by decide) (backOf (W := 0) (rm15 l Z a0 hw [] so i1 kk0 zz0 ff0 h23 n0 Z23 A15_23 g_so PB_23 hk1 hzb1 (by omega)) hZ (hw _ (List.mem_of_getElem? (i := 156) rfl)) (hw _ (List.mem_of_getElem? (i := 6) rfl)) (Nat.le_of_ble_eq_true rfl) (Nat.le_of_ble_eq_true rfl)) q32a q32c (g := (mkF m 94 #[.val (.long i0), .second, .val (.long i1), .second, .val (.long i2), .second, .val (.long i3), .second, .val (.long i4), .second, .val (.int i5), .val (.int (Int32.ofNat nq)), .val (.long xx), .second, .val (.long yy), .second, .val (.ref so), .unset, .unset, .unset] [(.long i1), (.ref so)])) rfl (by rw [hml]; rfl) (Steps.refl _) (argsL := [(.long i1)]) (rest := []) (lenOf pd_14 rfl) rfl (by show 2 * 0 + _ ≤ _; exact Nat.le_of_eq rfl) (hb hby at_94) (fun _ _ => ⟨rfl, e23, (by decide : 24 + 1 ≤ _), (by decide : 722 + 4 ≤ _)⟩)
            dsimp only [Pt.U, Pt.locs, Pt.cells, Pt.slots] at X32 l32 y32 z32 st32 hQ32
            subst l32 y32 z32
            obtain ⟨rfl, Nq32, hs9, Ez, zq, gq, hq1, hq2, hq5, hq3, hq4, PBq⟩ := hQ32
            have N32 := Fr.app N23 Nq32
            have pre33 := fun τ (κ : Steps p.tables e below (T32.setTop (mkF m 97 #[.val (.long i0), .second, .val (.long i1), .second, .val (.long i2), .second, .val (.long i3), .second, .val (.long i4), .second, .val (.int i5), .val (.int (Int32.ofNat nq)), .val (.long xx), .second, .val (.long yy), .second, .val (.ref so), .unset, .unset, .unset] [])) τ) => pre31 τ (st32.trans κ)
            have hks := Nat.le_trans hks hs9
            have Zq : n0 ≤ T32.heap.size := Nat.le_trans Z23 hs9
            have hno : ¬ own_in kk0 ff0 i1 := fun q => own_no1 d0 d1 d2 ((hm1 _).mp q)
            exact ⟨T32, T32.heap, _, (kk0 + 1), zq, gq, X32, rfl, N32, Zq, Ez, PBq, hks, hq1, by omega, by omega, own_injS hq3 hq4 hinj1 hno, fun v9 => (own_inS hq3 hq4).trans ⟨fun q => q.elim (fun q => Or.inl ((hm1 v9).mp q)) (fun q => Or.inr ⟨hge9, q⟩), fun q => q.elim (fun q => Or.inl ((hm1 v9).mpr q)) (fun q => Or.inr q.2)⟩, pre33⟩
        have pre34 := fun τ (κ : Steps p.tables e below (T29.setTop (mkF m 100 #[.val (.long i0), .second, .val (.long i1), .second, .val (.long i2), .second, .val (.long i3), .second, .val (.long i4), .second, .val (.int i5), .val (.int (Int32.ofNat nq)), .val (.long xx), .second, .val (.long yy), .second, .val (.ref so), .unset, .unset, .unset] [(.int (3 : Int32)), (.int (Int32.ofNat nq))])) τ) => pre29 τ (by
          refine XS.iload X29.here hx rfl (hb hby at_97) rfl ?_
          refine XS.iconst X29.here hx rfl (hb hby at_99) ?_
          show Steps p.tables e below (T29.setTop (mkF m 100 #[.val (.long i0), .second, .val (.long i1), .second, .val (.long i2), .second, .val (.long i3), .second, .val (.long i4), .second, .val (.int i5), .val (.int (Int32.ofNat nq)), .val (.long xx), .second, .val (.long yy), .second, .val (.ref so), .unset, .unset, .unset] [(.int (3 : Int32)), (.int (Int32.ofNat nq))])) _
          exact κ)
        obtain ⟨T35, h35, lo35, kk2, zz2, ff2, X35, e35, N35, Z35, A15_35, PB_35, hks, hk3, hzb3, hzt3, hinj3, hm3, pre35⟩ : ∃ (T35 : State) (h35 : Heap) (lo35 : List Loc) (kk2 zz2 : Nat) (ff2 : Nat → Int64), Stand p l e room_1 sx18 m #[(.long i0), (.long i1), (.long i2), (.long i3), (.long i4), (.int i5)] below meth c T35 lo35 (26) (730) ∧ T35.heap = h35 ∧ Fr n0 lo35 ∧ n0 ≤ h35.size ∧ (Exa Z h35 so "com/example/earmark/earmark/ledger/HoldStates") ∧ (own_PB Z h35 n0 so kk2 zz2 ff2) ∧ (ks18 ≤ h35.size) ∧ (kk2 ≤ zz2) ∧ (1 ≤ zz2) ∧ (zz2 ≤ 4) ∧ (own_inj kk2 ff2) ∧ (∀ v9, own_in kk2 ff2 v9 ↔ (((False) ∨ (1 ≤ nq ∧ v9 = i0)) ∨ (2 ≤ nq ∧ v9 = i1)) ∨ (3 ≤ nq ∧ v9 = i2)) ∧ ∀ τ, Steps p.tables e below (T35.setTop (mkF m 110 #[.val (.long i0), .second, .val (.long i1), .second, .val (.long i2), .second, .val (.long i3), .second, .val (.long i4), .second, .val (.int i5), .val (.int (Int32.ofNat nq)), .val (.long xx), .second, .val (.long yy), .second, .val (.ref so), .unset, .unset, .unset] [])) τ → Steps p.tables e below (s₁.setTop (entryFrame m #[(.long i0), (.long i1), (.long i2), (.long i3), (.long i4), (.int i5)] maxLocals)) τ := by
          by_cases hn2 : (Int32.ofNat nq) < (3 : Int32)
          · have hlt9 : nq < 3 := (own_ltN (j := 3) (by omega) (by omega)).mp hn2
            have pre36 := fun τ (κ : Steps p.tables e below (T29.setTop (mkF m 110 #[.val (.long i0), .second, .val (.long i1), .second, .val (.long i2), .second, .val (.long i3), .second, .val (.long i4), .second, .val (.int i5), .val (.int (Int32.ofNat nq)), .val (.long xx), .second, .val (.long yy), .second, .val (.ref so), .unset, .unset, .unset] [])) τ) => pre34 τ (by
              refine XS.icmpYes X29.here hx rfl (pc0 := 100) (pc' := 110) rfl (hb hby at_100) rfl (tlt hn2).1 (by decide) (by decide) ?_
              show Steps p.tables e below (T29.setTop (mkF m 110 #[.val (.long i0), .second, .val (.long i1), .second, .val (.long i2), .second, .val (.long i3), .second, .val (.long i4), .second, .val (.int i5), .val (.int (Int32.ofNat nq)), .val (.long xx), .second, .val (.long yy), .second, .val (.ref so), .unset, .unset, .unset] [])) _
              exact κ)
            exact ⟨T29, h29, _, kk1, zz1, ff1, X29.more (by decide) (by decide), e29, N29, Z29, A15_29, PB_29, hks, hk2, hzb2, by omega, hinj2, fun v9 => ⟨fun q => Or.inl ((hm2 v9).mp q), fun q => q.elim (fun q => (hm2 v9).mpr q) (fun q => absurd q.1 (by omega))⟩, pre36⟩
          · have hge9 : 3 ≤ nq := by have : ¬ nq < 3 := fun q => hn2 ((own_ltN (i := nq) (j := 3) (by omega) (by omega)).mpr q); omega
            have pre37 := fun τ (κ : Steps p.tables e below (T29.setTop (mkF m 107 #[.val (.long i0), .second, .val (.long i1), .second, .val (.long i2), .second, .val (.long i3), .second, .val (.long i4), .second, .val (.int i5), .val (.int (Int32.ofNat nq)), .val (.long xx), .second, .val (.long yy), .second, .val (.ref so), .unset, .unset, .unset] [(.long i2), (.ref so)])) τ) => pre34 τ (by
              refine XS.icmpNo X29.here hx rfl (hb hby at_100) rfl (flt hn2).1 ?_
              show Steps p.tables e below (T29.setTop (mkF m 103 #[.val (.long i0), .second, .val (.long i1), .second, .val (.long i2), .second, .val (.long i3), .second, .val (.long i4), .second, .val (.int i5), .val (.int (Int32.ofNat nq)), .val (.long xx), .second, .val (.long yy), .second, .val (.ref so), .unset, .unset, .unset] [])) _
              refine XS.aload X29.here hx rfl (hb hby at_103) rfl rfl ?_
              refine XS.lload X29.here hx rfl (hb hby at_105) rfl ?_
              show Steps p.tables e below (T29.setTop (mkF m 107 #[.val (.long i0), .second, .val (.long i1), .second, .val (.long i2), .second, .val (.long i3), .second, .val (.long i4), .second, .val (.int i5), .val (.int (Int32.ofNat nq)), .val (.long xx), .second, .val (.long yy), .second, .val (.ref so), .unset, .unset, .unset] [(.long i2), (.ref so)])) _
              exact κ)
            obtain ⟨cq38, kq38, q38a, q38b, q38c⟩ := isOf hZ e29 A15_29
            obtain ⟨_, _, ⟨T38, L38, k38, n38⟩, -, X38, ⟨Lc38, hQ38, l38, y38, z38⟩, st38⟩ := X29.virtualBack hx (y := (⟨"com/example/earmark/earmark/ledger/HoldStates", "passBatch", "(J)V"⟩ : MethodName)) (z := (⟨"com/example/earmark/earmark/ledger/HoldStates", "passBatch", "(J)V"⟩ : MethodName)) hown (mvT hZ (hw _ (List.mem_of_getElem? (i := 152) rfl))) (mvT hZ (hw _ (List.mem_of_getElem? (i := 153) rfl))) (notFace_of_selects (args := #[]) (mvT hZ (hw _ (List.mem_of_getElem? (i := 155) rfl)))) (mvT hZ (hw _ (List.mem_of_getElem? (i := 155) rfl))) (mvT hZ (hw _ (List.mem_of_getElem? (i := 154) rfl))) (by decide) (backOf (W := 0) (rm15 l Z a0 hw [] so i2 kk1 zz1 ff1 h29 n0 Z29 A15_29 g_so PB_29 hk2 hzb2 (by omega)) hZ (hw _ (List.mem_of_getElem? (i := 156) rfl)) (hw _ (List.mem_of_getElem? (i := 6) rfl)) (Nat.le_of_ble_eq_true rfl) (Nat.le_of_ble_eq_true rfl)) q38a q38c (g := (mkF m 107 #[.val (.long i0), .second, .val (.long i1), .second, .val (.long i2), .second, .val (.long i3), .second, .val (.long i4), .second, .val (.int i5), .val (.int (Int32.ofNat nq)), .val (.long xx), .second, .val (.long yy), .second, .val (.ref so), .unset, .unset, .unset] [(.long i2), (.ref so)])) rfl (by rw [hml]; rfl) (Steps.refl _) (argsL := [(.long i2)]) (rest := []) (lenOf pd_14 rfl) rfl (by show 2 * 0 + _ ≤ _; exact Nat.le_of_eq rfl) (hb hby at_107) (fun _ _ => ⟨rfl, e29, (by decide : 25 + 1 ≤ _), (by decide : 726 + 4 ≤ _)⟩)
            dsimp only [Pt.U, Pt.locs, Pt.cells, Pt.slots] at X38 l38 y38 z38 st38 hQ38
            subst l38 y38 z38
            obtain ⟨rfl, Nq38, hs9, Ez, zq, gq, hq1, hq2, hq5, hq3, hq4, PBq⟩ := hQ38
            have N38 := Fr.app N29 Nq38
            have pre39 := fun τ (κ : Steps p.tables e below (T38.setTop (mkF m 110 #[.val (.long i0), .second, .val (.long i1), .second, .val (.long i2), .second, .val (.long i3), .second, .val (.long i4), .second, .val (.int i5), .val (.int (Int32.ofNat nq)), .val (.long xx), .second, .val (.long yy), .second, .val (.ref so), .unset, .unset, .unset] [])) τ) => pre37 τ (st38.trans κ)
            have hks := Nat.le_trans hks hs9
            have Zq : n0 ≤ T38.heap.size := Nat.le_trans Z29 hs9
            have hno : ¬ own_in kk1 ff1 i2 := fun q => own_no2 d0 d1 d2 ((hm2 _).mp q)
            exact ⟨T38, T38.heap, _, (kk1 + 1), zq, gq, X38, rfl, N38, Zq, Ez, PBq, hks, hq1, by omega, by omega, own_injS hq3 hq4 hinj2 hno, fun v9 => (own_inS hq3 hq4).trans ⟨fun q => q.elim (fun q => Or.inl ((hm2 v9).mp q)) (fun q => Or.inr ⟨hge9, q⟩), fun q => q.elim (fun q => Or.inl ((hm2 v9).mpr q)) (fun q => Or.inr q.2)⟩, pre39⟩
        have pre40 := fun τ (κ : Steps p.tables e below (T35.setTop (mkF m 114 #[.val (.long i0), .second, .val (.long i1), .second, .val (.long i2), .second, .val (.long i3), .second, .val (.long i4), .second, .val (.int i5), .val (.int (Int32.ofNat nq)), .val (.long xx), .second, .val (.long yy), .second, .val (.ref so), .unset, .unset, .unset] [(.long xx), (.ref so)])) τ) => pre35 τ (by
          refine XS.aload X35.here hx rfl (hb hby at_110) rfl rfl ?_
          refine XS.lload X35.here hx rfl (hb hby at_112) rfl ?_
          show Steps p.tables e below (T35.setTop (mkF m 114 #[.val (.long i0), .second, .val (.long i1), .second, .val (.long i2), .second, .val (.long i3), .second, .val (.long i4), .second, .val (.int i5), .val (.int (Int32.ofNat nq)), .val (.long xx), .second, .val (.long yy), .second, .val (.ref so), .unset, .unset, .unset] [(.long xx), (.ref so)])) _
          exact κ)
        obtain ⟨cq41, kq41, q41a, q41b, q41c⟩ := isOf hZ e35 A15_35
        obtain ⟨_, _, ⟨T41, L41, k41, n41⟩, -, X41, ⟨Lc41, hQ41, l41, y41, z41⟩, st41⟩ := X35.virtualBack hx (y := (⟨"com/example/earmark/earmark/ledger/HoldStates", "batchClosed", "(J)V"⟩ : MethodName)) (z := (⟨"com/example/earmark/earmark/ledger/HoldStates", "batchClosed", "(J)V"⟩ : MethodName)) hown (mvT hZ (hw _ (List.mem_of_getElem? (i := 170) rfl))) (mvT hZ (hw _ (List.mem_of_getElem? (i := 171) rfl))) (notFace_of_selects (args := #[]) (mvT hZ (hw _ (List.mem_of_getElem? (i := 173) rfl)))) (mvT hZ (hw _ (List.mem_of_getElem? (i := 173) rfl))) (mvT hZ (hw _ (List.mem_of_getElem? (i := 172) rfl))) (by decide) (backOf (W := 0) (rm18 l Z a0 hw [] so xx kk2 zz2 ff2 h35 n0 Z35 A15_35 g_so PB_35 hk3 (by omega) hinj3) hZ (hw _ (List.mem_of_getElem? (i := 174) rfl)) (hw _ (List.mem_of_getElem? (i := 6) rfl)) (Nat.le_of_ble_eq_true rfl) (Nat.le_of_ble_eq_true rfl)) q41a q41c (g := (mkF m 114 #[.val (.long i0), .second, .val (.long i1), .second, .val (.long i2), .second, .val (.long i3), .second, .val (.long i4), .second, .val (.int i5), .val (.int (Int32.ofNat nq)), .val (.long xx), .second, .val (.long yy), .second, .val (.ref so), .unset, .unset, .unset] [(.long xx), (.ref so)])) rfl (by rw [hml]; rfl) (Steps.refl _) (argsL := [(.long xx)]) (rest := []) (lenOf pd_14 rfl) rfl (by show 2 * 0 + _ ≤ _; exact Nat.le_of_eq rfl) (hb hby at_114) (fun _ _ => ⟨rfl, e35, (by decide : 26 + 0 ≤ _), (by decide : 730 + 0 ≤ _)⟩)
        dsimp only [Pt.U, Pt.locs, Pt.cells, Pt.slots] at X41 l41 y41 z41 st41 hQ41
        subst l41 y41 z41
        obtain ⟨rfl, Nq41, k7, f7, hs9, Ez0, PBz0, hkz0, hinjz0, hmz0⟩ := hQ41
        have N41 := Fr.app N35 Nq41
        have pre42 := fun τ (κ : Steps p.tables e below (T41.setTop (mkF m 117 #[.val (.long i0), .second, .val (.long i1), .second, .val (.long i2), .second, .val (.long i3), .second, .val (.long i4), .second, .val (.int i5), .val (.int (Int32.ofNat nq)), .val (.long xx), .second, .val (.long yy), .second, .val (.ref so), .unset, .unset, .unset] [])) τ) => pre40 τ (st41.trans κ)
        have hks := Nat.le_trans hks hs9
        have Zq0 : n0 ≤ T41.heap.size := Nat.le_trans Z35 hs9
        have hkw0 : k7 ≤ zz2 := Nat.le_trans hkz0 hk3
        have pre43 := fun τ (κ : Steps p.tables e below (T41.setTop (mkF m 121 #[.val (.long i0), .second, .val (.long i1), .second, .val (.long i2), .second, .val (.long i3), .second, .val (.long i4), .second, .val (.int i5), .val (.int (Int32.ofNat nq)), .val (.long xx), .second, .val (.long yy), .second, .val (.ref so), .unset, .unset, .unset] [(.long yy), (.ref so)])) τ) => pre42 τ (by
          refine XS.aload X41.here hx rfl (hb hby at_117) rfl rfl ?_
          refine XS.lload X41.here hx rfl (hb hby at_119) rfl ?_
          show Steps p.tables e below (T41.setTop (mkF m 121 #[.val (.long i0), .second, .val (.long i1), .second, .val (.long i2), .second, .val (.long i3), .second, .val (.long i4), .second, .val (.int i5), .val (.int (Int32.ofNat nq)), .val (.long xx), .second, .val (.long yy), .second, .val (.ref so), .unset, .unset, .unset] [(.long yy), (.ref so)])) _
          exact κ)
        obtain ⟨cq44, kq44, q44a, q44b, q44c⟩ := isOf hZ rfl Ez0
        obtain ⟨_, _, ⟨T44, L44, k44, n44⟩, -, X44, ⟨Lc44, hQ44, l44, y44, z44⟩, st44⟩ := X41.virtualBack hx (y := (⟨"com/example/earmark/earmark/ledger/HoldStates", "batchClosed", "(J)V"⟩ : MethodName)) (z := (⟨"com/example/earmark/earmark/ledger/HoldStates", "batchClosed", "(J)V"⟩ : MethodName)) hown (mvT hZ (hw _ (List.mem_of_getElem? (i := 170) rfl))) (mvT hZ (hw _ (List.mem_of_getElem? (i := 171) rfl))) (notFace_of_selects (args := #[]) (mvT hZ (hw _ (List.mem_of_getElem? (i := 173) rfl)))) (mvT hZ (hw _ (List.mem_of_getElem? (i := 173) rfl))) (mvT hZ (hw _ (List.mem_of_getElem? (i := 172) rfl))) (by decide) (backOf (W := 0) (rm18 l Z a0 hw [] so yy k7 zz2 f7 T41.heap n0 Zq0 Ez0 g_so PBz0 hkw0 (by omega) hinjz0) hZ (hw _ (List.mem_of_getElem? (i := 174) rfl)) (hw _ (List.mem_of_getElem? (i := 6) rfl)) (Nat.le_of_ble_eq_true rfl) (Nat.le_of_ble_eq_true rfl)) q44a q44c (g := (mkF m 121 #[.val (.long i0), .second, .val (.long i1), .second, .val (.long i2), .second, .val (.long i3), .second, .val (.long i4), .second, .val (.int i5), .val (.int (Int32.ofNat nq)), .val (.long xx), .second, .val (.long yy), .second, .val (.ref so), .unset, .unset, .unset] [(.long yy), (.ref so)])) rfl (by rw [hml]; rfl) (Steps.refl _) (argsL := [(.long yy)]) (rest := []) (lenOf pd_14 rfl) rfl (by show 2 * 0 + _ ≤ _; exact Nat.le_of_eq rfl) (hb hby at_121) (fun _ _ => ⟨rfl, rfl, (by decide : 26 + 0 ≤ _), (by decide : 730 + 0 ≤ _)⟩)
        dsimp only [Pt.U, Pt.locs, Pt.cells, Pt.slots] at X44 l44 y44 z44 st44 hQ44
        subst l44 y44 z44
        obtain ⟨rfl, Nq44, k8, f8, hs9, Ez1, PBz1, hkz1, hinjz1, hmz1⟩ := hQ44
        have N44 := Fr.app N41 Nq44
        have pre45 := fun τ (κ : Steps p.tables e below (T44.setTop (mkF m 124 #[.val (.long i0), .second, .val (.long i1), .second, .val (.long i2), .second, .val (.long i3), .second, .val (.long i4), .second, .val (.int i5), .val (.int (Int32.ofNat nq)), .val (.long xx), .second, .val (.long yy), .second, .val (.ref so), .unset, .unset, .unset] [])) τ) => pre43 τ (st44.trans κ)
        have hks := Nat.le_trans hks hs9
        have Zq1 : n0 ≤ T44.heap.size := Nat.le_trans Zq0 hs9
        have hkw1 : k8 ≤ zz2 := Nat.le_trans hkz1 hkw0
        have hmF : ∀ v9, own_in k8 f8 v9 ↔ (((((False) ∨ (1 ≤ nq ∧ v9 = i0)) ∨ (2 ≤ nq ∧ v9 = i1)) ∨ (3 ≤ nq ∧ v9 = i2)) ∧ ¬ v9 = xx) ∧ ¬ v9 = yy := fun v9 => (hmz1 v9).trans (and_congr_left' ((hmz0 v9).trans (and_congr_left' (hm3 v9))))
        have pre46 := fun τ (κ : Steps p.tables e below (T44.setTop (mkF m 127 #[.val (.long i0), .second, .val (.long i1), .second, .val (.long i2), .second, .val (.long i3), .second, .val (.long i4), .second, .val (.int i5), .val (.int (Int32.ofNat nq)), .val (.long xx), .second, .val (.long yy), .second, .val (.ref so), .unset, .unset, .unset] [(.int (1 : Int32)), (.int (Int32.ofNat nq))])) τ) => pre45 τ (by
          refine XS.iload X44.here hx rfl (hb hby at_124) rfl ?_
          refine XS.iconst X44.here hx rfl (hb hby at_126) ?_
          show Steps p.tables e below (T44.setTop (mkF m 127 #[.val (.long i0), .second, .val (.long i1), .second, .val (.long i2), .second, .val (.long i3), .second, .val (.long i4), .second, .val (.int i5), .val (.int (Int32.ofNat nq)), .val (.long xx), .second, .val (.long yy), .second, .val (.ref so), .unset, .unset, .unset] [(.int (1 : Int32)), (.int (Int32.ofNat nq))])) _
          exact κ)
        obtain ⟨ea, he0, pre47⟩ : ∃ (ea : Int32), (((1 ≤ nq ∧ ¬ i0 = xx ∧ ¬ i0 = yy) ∧ ea = 1) ∨ (¬ (1 ≤ nq ∧ ¬ i0 = xx ∧ ¬ i0 = yy) ∧ ea = 0)) ∧ ∀ τ, Steps p.tables e below (T44.setTop (mkF m 149 #[.val (.long i0), .second, .val (.long i1), .second, .val (.long i2), .second, .val (.long i3), .second, .val (.long i4), .second, .val (.int i5), .val (.int (Int32.ofNat nq)), .val (.long xx), .second, .val (.long yy), .second, .val (.ref so), .unset, .unset, .unset] [(.int ea)])) τ → Steps p.tables e below (s₁.setTop (entryFrame m #[(.long i0), (.long i1), (.long i2), (.long i3), (.long i4), (.int i5)] maxLocals)) τ := by
          by_cases m0 : (Int32.ofNat nq) < (1 : Int32)
          · have pre48 := fun τ (κ : Steps p.tables e below (T44.setTop (mkF m 149 #[.val (.long i0), .second, .val (.long i1), .second, .val (.long i2), .second, .val (.long i3), .second, .val (.long i4), .second, .val (.int i5), .val (.int (Int32.ofNat nq)), .val (.long xx), .second, .val (.long yy), .second, .val (.ref so), .unset, .unset, .unset] [(.int (0 : Int32))])) τ) => pre46 τ (by
              refine XS.icmpYes X44.here hx rfl (pc0 := 127) (pc' := 148) rfl (hb hby at_127) rfl (tlt m0).1 (by decide) (by decide) ?_
              show Steps p.tables e below (T44.setTop (mkF m 148 #[.val (.long i0), .second, .val (.long i1), .second, .val (.long i2), .second, .val (.long i3), .second, .val (.long i4), .second, .val (.int i5), .val (.int (Int32.ofNat nq)), .val (.long xx), .second, .val (.long yy), .second, .val (.ref so), .unset, .unset, .unset] [])) _
              refine XS.iconst X44.here hx rfl (hb hby at_148) ?_
              show Steps p.tables e below (T44.setTop (mkF m 149 #[.val (.long i0), .second, .val (.long i1), .second, .val (.long i2), .second, .val (.long i3), .second, .val (.long i4), .second, .val (.int i5), .val (.int (Int32.ofNat nq)), .val (.long xx), .second, .val (.long yy), .second, .val (.ref so), .unset, .unset, .unset] [(.int (0 : Int32))])) _
              exact κ)
            exact ⟨0, Or.inr ⟨fun q => absurd q.1 (by have := (own_ltN (j := 1) (by omega) (by omega)).mp m0; omega), rfl⟩, pre48⟩
          · have pre49 := fun τ (κ : Steps p.tables e below (T44.setTop (mkF m 134 #[.val (.long i0), .second, .val (.long i1), .second, .val (.long i2), .second, .val (.long i3), .second, .val (.long i4), .second, .val (.int i5), .val (.int (Int32.ofNat nq)), .val (.long xx), .second, .val (.long yy), .second, .val (.ref so), .unset, .unset, .unset] [(.int (lcmpW i0 xx))])) τ) => pre46 τ (by
              refine XS.icmpNo X44.here hx rfl (hb hby at_127) rfl (flt m0).1 ?_
              show Steps p.tables e below (T44.setTop (mkF m 130 #[.val (.long i0), .second, .val (.long i1), .second, .val (.long i2), .second, .val (.long i3), .second, .val (.long i4), .second, .val (.int i5), .val (.int (Int32.ofNat nq)), .val (.long xx), .second, .val (.long yy), .second, .val (.ref so), .unset, .unset, .unset] [])) _
              refine XS.lloadN X44.here hx rfl (hb hby at_130) rfl ?_
              refine XS.lload X44.here hx rfl (hb hby at_131) rfl ?_
              refine XS.lcmp X44.here hx rfl (hb hby at_133) rfl ?_
              show Steps p.tables e below (T44.setTop (mkF m 134 #[.val (.long i0), .second, .val (.long i1), .second, .val (.long i2), .second, .val (.long i3), .second, .val (.long i4), .second, .val (.int i5), .val (.int (Int32.ofNat nq)), .val (.long xx), .second, .val (.long yy), .second, .val (.ref so), .unset, .unset, .unset] [(.int (lcmpW i0 xx))])) _
              exact κ)
            by_cases m1 : (lcmpW i0 xx) = (0 : Int32)
            · have pre50 := fun τ (κ : Steps p.tables e below (T44.setTop (mkF m 149 #[.val (.long i0), .second, .val (.long i1), .second, .val (.long i2), .second, .val (.long i3), .second, .val (.long i4), .second, .val (.int i5), .val (.int (Int32.ofNat nq)), .val (.long xx), .second, .val (.long yy), .second, .val (.ref so), .unset, .unset, .unset] [(.int (0 : Int32))])) τ) => pre49 τ (by
                refine XS.ifYes X44.here hx rfl (pc0 := 134) (pc' := 148) rfl (hb hby at_134) rfl ((if0 _ _).trans (teq m1).1) (by decide) (by decide) ?_
                show Steps p.tables e below (T44.setTop (mkF m 148 #[.val (.long i0), .second, .val (.long i1), .second, .val (.long i2), .second, .val (.long i3), .second, .val (.long i4), .second, .val (.int i5), .val (.int (Int32.ofNat nq)), .val (.long xx), .second, .val (.long yy), .second, .val (.ref so), .unset, .unset, .unset] [])) _
                refine XS.iconst X44.here hx rfl (hb hby at_148) ?_
                show Steps p.tables e below (T44.setTop (mkF m 149 #[.val (.long i0), .second, .val (.long i1), .second, .val (.long i2), .second, .val (.long i3), .second, .val (.long i4), .second, .val (.int i5), .val (.int (Int32.ofNat nq)), .val (.long xx), .second, .val (.long yy), .second, .val (.ref so), .unset, .unset, .unset] [(.int (0 : Int32))])) _
                exact κ)
              exact ⟨0, Or.inr ⟨fun q => q.2.1 ((lw_eq _ _).mp m1), rfl⟩, pre50⟩
            · have pre51 := fun τ (κ : Steps p.tables e below (T44.setTop (mkF m 141 #[.val (.long i0), .second, .val (.long i1), .second, .val (.long i2), .second, .val (.long i3), .second, .val (.long i4), .second, .val (.int i5), .val (.int (Int32.ofNat nq)), .val (.long xx), .second, .val (.long yy), .second, .val (.ref so), .unset, .unset, .unset] [(.int (lcmpW i0 yy))])) τ) => pre49 τ (by
                refine XS.ifNo X44.here hx rfl (hb hby at_134) rfl ((if0 _ _).trans (feq m1).1) ?_
                show Steps p.tables e below (T44.setTop (mkF m 137 #[.val (.long i0), .second, .val (.long i1), .second, .val (.long i2), .second, .val (.long i3), .second, .val (.long i4), .second, .val (.int i5), .val (.int (Int32.ofNat nq)), .val (.long xx), .second, .val (.long yy), .second, .val (.ref so), .unset, .unset, .unset] [])) _
                refine XS.lloadN X44.here hx rfl (hb hby at_137) rfl ?_
                refine XS.lload X44.here hx rfl (hb hby at_138) rfl ?_
                refine XS.lcmp X44.here hx rfl (hb hby at_140) rfl ?_
                show Steps p.tables e below (T44.setTop (mkF m 141 #[.val (.long i0), .second, .val (.long i1), .second, .val (.long i2), .second, .val (.long i3), .second, .val (.long i4), .second, .val (.int i5), .val (.int (Int32.ofNat nq)), .val (.long xx), .second, .val (.long yy), .second, .val (.ref so), .unset, .unset, .unset] [(.int (lcmpW i0 yy))])) _
                exact κ)
              by_cases m2 : (lcmpW i0 yy) = (0 : Int32)
              · have pre52 := fun τ (κ : Steps p.tables e below (T44.setTop (mkF m 149 #[.val (.long i0), .second, .val (.long i1), .second, .val (.long i2), .second, .val (.long i3), .second, .val (.long i4), .second, .val (.int i5), .val (.int (Int32.ofNat nq)), .val (.long xx), .second, .val (.long yy), .second, .val (.ref so), .unset, .unset, .unset] [(.int (0 : Int32))])) τ) => pre51 τ (by
                  refine XS.ifYes X44.here hx rfl (pc0 := 141) (pc' := 148) rfl (hb hby at_141) rfl ((if0 _ _).trans (teq m2).1) (by decide) (by decide) ?_
                  show Steps p.tables e below (T44.setTop (mkF m 148 #[.val (.long i0), .second, .val (.long i1), .second, .val (.long i2), .second, .val (.long i3), .second, .val (.long i4), .second, .val (.int i5), .val (.int (Int32.ofNat nq)), .val (.long xx), .second, .val (.long yy), .second, .val (.ref so), .unset, .unset, .unset] [])) _
                  refine XS.iconst X44.here hx rfl (hb hby at_148) ?_
                  show Steps p.tables e below (T44.setTop (mkF m 149 #[.val (.long i0), .second, .val (.long i1), .second, .val (.long i2), .second, .val (.long i3), .second, .val (.long i4), .second, .val (.int i5), .val (.int (Int32.ofNat nq)), .val (.long xx), .second, .val (.long yy), .second, .val (.ref so), .unset, .unset, .unset] [(.int (0 : Int32))])) _
                  exact κ)
                exact ⟨0, Or.inr ⟨fun q => q.2.2 ((lw_eq _ _).mp m2), rfl⟩, pre52⟩
              · have pre53 := fun τ (κ : Steps p.tables e below (T44.setTop (mkF m 149 #[.val (.long i0), .second, .val (.long i1), .second, .val (.long i2), .second, .val (.long i3), .second, .val (.long i4), .second, .val (.int i5), .val (.int (Int32.ofNat nq)), .val (.long xx), .second, .val (.long yy), .second, .val (.ref so), .unset, .unset, .unset] [(.int (1 : Int32))])) τ) => pre51 τ (by
                  refine XS.ifNo X44.here hx rfl (hb hby at_141) rfl ((if0 _ _).trans (feq m2).1) ?_
                  show Steps p.tables e below (T44.setTop (mkF m 144 #[.val (.long i0), .second, .val (.long i1), .second, .val (.long i2), .second, .val (.long i3), .second, .val (.long i4), .second, .val (.int i5), .val (.int (Int32.ofNat nq)), .val (.long xx), .second, .val (.long yy), .second, .val (.ref so), .unset, .unset, .unset] [])) _
                  refine XS.iconst X44.here hx rfl (hb hby at_144) ?_
                  refine XS.goto X44.here hx rfl (pc0 := 145) (pc' := 149) rfl (hb hby at_145) (by decide) (by decide) ?_
                  show Steps p.tables e below (T44.setTop (mkF m 149 #[.val (.long i0), .second, .val (.long i1), .second, .val (.long i2), .second, .val (.long i3), .second, .val (.long i4), .second, .val (.int i5), .val (.int (Int32.ofNat nq)), .val (.long xx), .second, .val (.long yy), .second, .val (.ref so), .unset, .unset, .unset] [(.int (1 : Int32))])) _
                  exact κ)
                exact ⟨1, Or.inl ⟨⟨by have : ¬ nq < 1 := fun q => m0 ((own_ltN (i := nq) (j := 1) (by omega) (by omega)).mpr q); omega, fun q => m1 ((lw_eq _ _).mpr q), fun q => m2 ((lw_eq _ _).mpr q)⟩, rfl⟩, pre53⟩
        have pre54 := fun τ (κ : Steps p.tables e below (T44.setTop (mkF m 154 #[.val (.long i0), .second, .val (.long i1), .second, .val (.long i2), .second, .val (.long i3), .second, .val (.long i4), .second, .val (.int i5), .val (.int (Int32.ofNat nq)), .val (.long xx), .second, .val (.long yy), .second, .val (.ref so), .val (.int ea), .unset, .unset] [(.int (2 : Int32)), (.int (Int32.ofNat nq))])) τ) => pre47 τ (by
          refine XS.istore X44.here hx rfl (hb hby at_149) rfl (l' := #[.val (.long i0), .second, .val (.long i1), .second, .val (.long i2), .second, .val (.long i3), .second, .val (.long i4), .second, .val (.int i5), .val (.int (Int32.ofNat nq)), .val (.long xx), .second, .val (.long yy), .second, .val (.ref so), .val (.int ea), .unset, .unset]) rfl ?_
          show Steps p.tables e below (T44.setTop (mkF m 151 #[.val (.long i0), .second, .val (.long i1), .second, .val (.long i2), .second, .val (.long i3), .second, .val (.long i4), .second, .val (.int i5), .val (.int (Int32.ofNat nq)), .val (.long xx), .second, .val (.long yy), .second, .val (.ref so), .val (.int ea), .unset, .unset] [])) _
          refine XS.iload X44.here hx rfl (hb hby at_151) rfl ?_
          refine XS.iconst X44.here hx rfl (hb hby at_153) ?_
          show Steps p.tables e below (T44.setTop (mkF m 154 #[.val (.long i0), .second, .val (.long i1), .second, .val (.long i2), .second, .val (.long i3), .second, .val (.long i4), .second, .val (.int i5), .val (.int (Int32.ofNat nq)), .val (.long xx), .second, .val (.long yy), .second, .val (.ref so), .val (.int ea), .unset, .unset] [(.int (2 : Int32)), (.int (Int32.ofNat nq))])) _
          exact κ)
        obtain ⟨eb, he1, pre55⟩ : ∃ (eb : Int32), (((2 ≤ nq ∧ ¬ i1 = xx ∧ ¬ i1 = yy) ∧ eb = 1) ∨ (¬ (2 ≤ nq ∧ ¬ i1 = xx ∧ ¬ i1 = yy) ∧ eb = 0)) ∧ ∀ τ, Steps p.tables e below (T44.setTop (mkF m 176 #[.val (.long i0), .second, .val (.long i1), .second, .val (.long i2), .second, .val (.long i3), .second, .val (.long i4), .second, .val (.int i5), .val (.int (Int32.ofNat nq)), .val (.long xx), .second, .val (.long yy), .second, .val (.ref so), .val (.int ea), .unset, .unset] [(.int eb)])) τ → Steps p.tables e below (s₁.setTop (entryFrame m #[(.long i0), (.long i1), (.long i2), (.long i3), (.long i4), (.int i5)] maxLocals)) τ := by
          by_cases m0 : (Int32.ofNat nq) < (2 : Int32)
          · have pre56 := fun τ (κ : Steps p.tables e below (T44.setTop (mkF m 176 #[.val (.long i0), .second, .val (.long i1), .second, .val (.long i2), .second, .val (.long i3), .second, .val (.long i4), .second, .val (.int i5), .val (.int (Int32.ofNat nq)), .val (.long xx), .second, .val (.long yy), .second, .val (.ref so), .val (.int ea), .unset, .unset] [(.int (0 : Int32))])) τ) => pre54 τ (by
              refine XS.icmpYes X44.here hx rfl (pc0 := 154) (pc' := 175) rfl (hb hby at_154) rfl (tlt m0).1 (by decide) (by decide) ?_
              show Steps p.tables e below (T44.setTop (mkF m 175 #[.val (.long i0), .second, .val (.long i1), .second, .val (.long i2), .second, .val (.long i3), .second, .val (.long i4), .second, .val (.int i5), .val (.int (Int32.ofNat nq)), .val (.long xx), .second, .val (.long yy), .second, .val (.ref so), .val (.int ea), .unset, .unset] [])) _
              refine XS.iconst X44.here hx rfl (hb hby at_175) ?_
              show Steps p.tables e below (T44.setTop (mkF m 176 #[.val (.long i0), .second, .val (.long i1), .second, .val (.long i2), .second, .val (.long i3), .second, .val (.long i4), .second, .val (.int i5), .val (.int (Int32.ofNat nq)), .val (.long xx), .second, .val (.long yy), .second, .val (.ref so), .val (.int ea), .unset, .unset] [(.int (0 : Int32))])) _
              exact κ)
            exact ⟨0, Or.inr ⟨fun q => absurd q.1 (by have := (own_ltN (j := 2) (by omega) (by omega)).mp m0; omega), rfl⟩, pre56⟩
          · have pre57 := fun τ (κ : Steps p.tables e below (T44.setTop (mkF m 161 #[.val (.long i0), .second, .val (.long i1), .second, .val (.long i2), .second, .val (.long i3), .second, .val (.long i4), .second, .val (.int i5), .val (.int (Int32.ofNat nq)), .val (.long xx), .second, .val (.long yy), .second, .val (.ref so), .val (.int ea), .unset, .unset] [(.int (lcmpW i1 xx))])) τ) => pre54 τ (by
              refine XS.icmpNo X44.here hx rfl (hb hby at_154) rfl (flt m0).1 ?_
              show Steps p.tables e below (T44.setTop (mkF m 157 #[.val (.long i0), .second, .val (.long i1), .second, .val (.long i2), .second, .val (.long i3), .second, .val (.long i4), .second, .val (.int i5), .val (.int (Int32.ofNat nq)), .val (.long xx), .second, .val (.long yy), .second, .val (.ref so), .val (.int ea), .unset, .unset] [])) _
              refine XS.lloadN X44.here hx rfl (hb hby at_157) rfl ?_
              refine XS.lload X44.here hx rfl (hb hby at_158) rfl ?_
              refine XS.lcmp X44.here hx rfl (hb hby at_160) rfl ?_
              show Steps p.tables e below (T44.setTop (mkF m 161 #[.val (.long i0), .second, .val (.long i1), .second, .val (.long i2), .second, .val (.long i3), .second, .val (.long i4), .second, .val (.int i5), .val (.int (Int32.ofNat nq)), .val (.long xx), .second, .val (.long yy), .second, .val (.ref so), .val (.int ea), .unset, .unset] [(.int (lcmpW i1 xx))])) _
              exact κ)
            by_cases m1 : (lcmpW i1 xx) = (0 : Int32)
            · have pre58 := fun τ (κ : Steps p.tables e below (T44.setTop (mkF m 176 #[.val (.long i0), .second, .val (.long i1), .second, .val (.long i2), .second, .val (.long i3), .second, .val (.long i4), .second, .val (.int i5), .val (.int (Int32.ofNat nq)), .val (.long xx), .second, .val (.long yy), .second, .val (.ref so), .val (.int ea), .unset, .unset] [(.int (0 : Int32))])) τ) => pre57 τ (by
                refine XS.ifYes X44.here hx rfl (pc0 := 161) (pc' := 175) rfl (hb hby at_161) rfl ((if0 _ _).trans (teq m1).1) (by decide) (by decide) ?_
                show Steps p.tables e below (T44.setTop (mkF m 175 #[.val (.long i0), .second, .val (.long i1), .second, .val (.long i2), .second, .val (.long i3), .second, .val (.long i4), .second, .val (.int i5), .val (.int (Int32.ofNat nq)), .val (.long xx), .second, .val (.long yy), .second, .val (.ref so), .val (.int ea), .unset, .unset] [])) _
                refine XS.iconst X44.here hx rfl (hb hby at_175) ?_
                show Steps p.tables e below (T44.setTop (mkF m 176 #[.val (.long i0), .second, .val (.long i1), .second, .val (.long i2), .second, .val (.long i3), .second, .val (.long i4), .second, .val (.int i5), .val (.int (Int32.ofNat nq)), .val (.long xx), .second, .val (.long yy), .second, .val (.ref so), .val (.int ea), .unset, .unset] [(.int (0 : Int32))])) _
                exact κ)
              exact ⟨0, Or.inr ⟨fun q => q.2.1 ((lw_eq _ _).mp m1), rfl⟩, pre58⟩
            · have pre59 := fun τ (κ : Steps p.tables e below (T44.setTop (mkF m 168 #[.val (.long i0), .second, .val (.long i1), .second, .val (.long i2), .second, .val (.long i3), .second, .val (.long i4), .second, .val (.int i5), .val (.int (Int32.ofNat nq)), .val (.long xx), .second, .val (.long yy), .second, .val (.ref so), .val (.int ea), .unset, .unset] [(.int (lcmpW i1 yy))])) τ) => pre57 τ (by
                refine XS.ifNo X44.here hx rfl (hb hby at_161) rfl ((if0 _ _).trans (feq m1).1) ?_
                show Steps p.tables e below (T44.setTop (mkF m 164 #[.val (.long i0), .second, .val (.long i1), .second, .val (.long i2), .second, .val (.long i3), .second, .val (.long i4), .second, .val (.int i5), .val (.int (Int32.ofNat nq)), .val (.long xx), .second, .val (.long yy), .second, .val (.ref so), .val (.int ea), .unset, .unset] [])) _
                refine XS.lloadN X44.here hx rfl (hb hby at_164) rfl ?_
                refine XS.lload X44.here hx rfl (hb hby at_165) rfl ?_
                refine XS.lcmp X44.here hx rfl (hb hby at_167) rfl ?_
                show Steps p.tables e below (T44.setTop (mkF m 168 #[.val (.long i0), .second, .val (.long i1), .second, .val (.long i2), .second, .val (.long i3), .second, .val (.long i4), .second, .val (.int i5), .val (.int (Int32.ofNat nq)), .val (.long xx), .second, .val (.long yy), .second, .val (.ref so), .val (.int ea), .unset, .unset] [(.int (lcmpW i1 yy))])) _
                exact κ)
              by_cases m2 : (lcmpW i1 yy) = (0 : Int32)
              · have pre60 := fun τ (κ : Steps p.tables e below (T44.setTop (mkF m 176 #[.val (.long i0), .second, .val (.long i1), .second, .val (.long i2), .second, .val (.long i3), .second, .val (.long i4), .second, .val (.int i5), .val (.int (Int32.ofNat nq)), .val (.long xx), .second, .val (.long yy), .second, .val (.ref so), .val (.int ea), .unset, .unset] [(.int (0 : Int32))])) τ) => pre59 τ (by
                  refine XS.ifYes X44.here hx rfl (pc0 := 168) (pc' := 175) rfl (hb hby at_168) rfl ((if0 _ _).trans (teq m2).1) (by decide) (by decide) ?_
                  show Steps p.tables e below (T44.setTop (mkF m 175 #[.val (.long i0), .second, .val (.long i1), .second, .val (.long i2), .second, .val (.long i3), .second, .val (.long i4), .second, .val (.int i5), .val (.int (Int32.ofNat nq)), .val (.long xx), .second, .val (.long yy), .second, .val (.ref so), .val (.int ea), .unset, .unset] [])) _
                  refine XS.iconst X44.here hx rfl (hb hby at_175) ?_
                  show Steps p.tables e below (T44.setTop (mkF m 176 #[.val (.long i0), .second, .val (.long i1), .second, .val (.long i2), .second, .val (.long i3), .second, .val (.long i4), .second, .val (.int i5), .val (.int (Int32.ofNat nq)), .val (.long xx), .second, .val (.long yy), .second, .val (.ref so), .val (.int ea), .unset, .unset] [(.int (0 : Int32))])) _
                  exact κ)
                exact ⟨0, Or.inr ⟨fun q => q.2.2 ((lw_eq _ _).mp m2), rfl⟩, pre60⟩
              · have pre61 := fun τ (κ : Steps p.tables e below (T44.setTop (mkF m 176 #[.val (.long i0), .second, .val (.long i1), .second, .val (.long i2), .second, .val (.long i3), .second, .val (.long i4), .second, .val (.int i5), .val (.int (Int32.ofNat nq)), .val (.long xx), .second, .val (.long yy), .second, .val (.ref so), .val (.int ea), .unset, .unset] [(.int (1 : Int32))])) τ) => pre59 τ (by
                  refine XS.ifNo X44.here hx rfl (hb hby at_168) rfl ((if0 _ _).trans (feq m2).1) ?_
                  show Steps p.tables e below (T44.setTop (mkF m 171 #[.val (.long i0), .second, .val (.long i1), .second, .val (.long i2), .second, .val (.long i3), .second, .val (.long i4), .second, .val (.int i5), .val (.int (Int32.ofNat nq)), .val (.long xx), .second, .val (.long yy), .second, .val (.ref so), .val (.int ea), .unset, .unset] [])) _
                  refine XS.iconst X44.here hx rfl (hb hby at_171) ?_
                  refine XS.goto X44.here hx rfl (pc0 := 172) (pc' := 176) rfl (hb hby at_172) (by decide) (by decide) ?_
                  show Steps p.tables e below (T44.setTop (mkF m 176 #[.val (.long i0), .second, .val (.long i1), .second, .val (.long i2), .second, .val (.long i3), .second, .val (.long i4), .second, .val (.int i5), .val (.int (Int32.ofNat nq)), .val (.long xx), .second, .val (.long yy), .second, .val (.ref so), .val (.int ea), .unset, .unset] [(.int (1 : Int32))])) _
                  exact κ)
                exact ⟨1, Or.inl ⟨⟨by have : ¬ nq < 2 := fun q => m0 ((own_ltN (i := nq) (j := 2) (by omega) (by omega)).mpr q); omega, fun q => m1 ((lw_eq _ _).mpr q), fun q => m2 ((lw_eq _ _).mpr q)⟩, rfl⟩, pre61⟩
        have pre62 := fun τ (κ : Steps p.tables e below (T44.setTop (mkF m 181 #[.val (.long i0), .second, .val (.long i1), .second, .val (.long i2), .second, .val (.long i3), .second, .val (.long i4), .second, .val (.int i5), .val (.int (Int32.ofNat nq)), .val (.long xx), .second, .val (.long yy), .second, .val (.ref so), .val (.int ea), .val (.int eb), .unset] [(.int (3 : Int32)), (.int (Int32.ofNat nq))])) τ) => pre55 τ (by
          refine XS.istore X44.here hx rfl (hb hby at_176) rfl (l' := #[.val (.long i0), .second, .val (.long i1), .second, .val (.long i2), .second, .val (.long i3), .second, .val (.long i4), .second, .val (.int i5), .val (.int (Int32.ofNat nq)), .val (.long xx), .second, .val (.long yy), .second, .val (.ref so), .val (.int ea), .val (.int eb), .unset]) rfl ?_
          show Steps p.tables e below (T44.setTop (mkF m 178 #[.val (.long i0), .second, .val (.long i1), .second, .val (.long i2), .second, .val (.long i3), .second, .val (.long i4), .second, .val (.int i5), .val (.int (Int32.ofNat nq)), .val (.long xx), .second, .val (.long yy), .second, .val (.ref so), .val (.int ea), .val (.int eb), .unset] [])) _
          refine XS.iload X44.here hx rfl (hb hby at_178) rfl ?_
          refine XS.iconst X44.here hx rfl (hb hby at_180) ?_
          show Steps p.tables e below (T44.setTop (mkF m 181 #[.val (.long i0), .second, .val (.long i1), .second, .val (.long i2), .second, .val (.long i3), .second, .val (.long i4), .second, .val (.int i5), .val (.int (Int32.ofNat nq)), .val (.long xx), .second, .val (.long yy), .second, .val (.ref so), .val (.int ea), .val (.int eb), .unset] [(.int (3 : Int32)), (.int (Int32.ofNat nq))])) _
          exact κ)
        obtain ⟨ec, he2, pre63⟩ : ∃ (ec : Int32), (((3 ≤ nq ∧ ¬ i2 = xx ∧ ¬ i2 = yy) ∧ ec = 1) ∨ (¬ (3 ≤ nq ∧ ¬ i2 = xx ∧ ¬ i2 = yy) ∧ ec = 0)) ∧ ∀ τ, Steps p.tables e below (T44.setTop (mkF m 205 #[.val (.long i0), .second, .val (.long i1), .second, .val (.long i2), .second, .val (.long i3), .second, .val (.long i4), .second, .val (.int i5), .val (.int (Int32.ofNat nq)), .val (.long xx), .second, .val (.long yy), .second, .val (.ref so), .val (.int ea), .val (.int eb), .unset] [(.int ec)])) τ → Steps p.tables e below (s₁.setTop (entryFrame m #[(.long i0), (.long i1), (.long i2), (.long i3), (.long i4), (.int i5)] maxLocals)) τ := by
          by_cases m0 : (Int32.ofNat nq) < (3 : Int32)
          · have pre64 := fun τ (κ : Steps p.tables e below (T44.setTop (mkF m 205 #[.val (.long i0), .second, .val (.long i1), .second, .val (.long i2), .second, .val (.long i3), .second, .val (.long i4), .second, .val (.int i5), .val (.int (Int32.ofNat nq)), .val (.long xx), .second, .val (.long yy), .second, .val (.ref so), .val (.int ea), .val (.int eb), .unset] [(.int (0 : Int32))])) τ) => pre62 τ (by
              refine XS.icmpYes X44.here hx rfl (pc0 := 181) (pc' := 204) rfl (hb hby at_181) rfl (tlt m0).1 (by decide) (by decide) ?_
              show Steps p.tables e below (T44.setTop (mkF m 204 #[.val (.long i0), .second, .val (.long i1), .second, .val (.long i2), .second, .val (.long i3), .second, .val (.long i4), .second, .val (.int i5), .val (.int (Int32.ofNat nq)), .val (.long xx), .second, .val (.long yy), .second, .val (.ref so), .val (.int ea), .val (.int eb), .unset] [])) _
              refine XS.iconst X44.here hx rfl (hb hby at_204) ?_
              show Steps p.tables e below (T44.setTop (mkF m 205 #[.val (.long i0), .second, .val (.long i1), .second, .val (.long i2), .second, .val (.long i3), .second, .val (.long i4), .second, .val (.int i5), .val (.int (Int32.ofNat nq)), .val (.long xx), .second, .val (.long yy), .second, .val (.ref so), .val (.int ea), .val (.int eb), .unset] [(.int (0 : Int32))])) _
              exact κ)
            exact ⟨0, Or.inr ⟨fun q => absurd q.1 (by have := (own_ltN (j := 3) (by omega) (by omega)).mp m0; omega), rfl⟩, pre64⟩
          · have pre65 := fun τ (κ : Steps p.tables e below (T44.setTop (mkF m 189 #[.val (.long i0), .second, .val (.long i1), .second, .val (.long i2), .second, .val (.long i3), .second, .val (.long i4), .second, .val (.int i5), .val (.int (Int32.ofNat nq)), .val (.long xx), .second, .val (.long yy), .second, .val (.ref so), .val (.int ea), .val (.int eb), .unset] [(.int (lcmpW i2 xx))])) τ) => pre62 τ (by
              refine XS.icmpNo X44.here hx rfl (hb hby at_181) rfl (flt m0).1 ?_
              show Steps p.tables e below (T44.setTop (mkF m 184 #[.val (.long i0), .second, .val (.long i1), .second, .val (.long i2), .second, .val (.long i3), .second, .val (.long i4), .second, .val (.int i5), .val (.int (Int32.ofNat nq)), .val (.long xx), .second, .val (.long yy), .second, .val (.ref so), .val (.int ea), .val (.int eb), .unset] [])) _
              refine XS.lload X44.here hx rfl (hb hby at_184) rfl ?_
              refine XS.lload X44.here hx rfl (hb hby at_186) rfl ?_
              refine XS.lcmp X44.here hx rfl (hb hby at_188) rfl ?_
              show Steps p.tables e below (T44.setTop (mkF m 189 #[.val (.long i0), .second, .val (.long i1), .second, .val (.long i2), .second, .val (.long i3), .second, .val (.long i4), .second, .val (.int i5), .val (.int (Int32.ofNat nq)), .val (.long xx), .second, .val (.long yy), .second, .val (.ref so), .val (.int ea), .val (.int eb), .unset] [(.int (lcmpW i2 xx))])) _
              exact κ)
            by_cases m1 : (lcmpW i2 xx) = (0 : Int32)
            · have pre66 := fun τ (κ : Steps p.tables e below (T44.setTop (mkF m 205 #[.val (.long i0), .second, .val (.long i1), .second, .val (.long i2), .second, .val (.long i3), .second, .val (.long i4), .second, .val (.int i5), .val (.int (Int32.ofNat nq)), .val (.long xx), .second, .val (.long yy), .second, .val (.ref so), .val (.int ea), .val (.int eb), .unset] [(.int (0 : Int32))])) τ) => pre65 τ (by
                refine XS.ifYes X44.here hx rfl (pc0 := 189) (pc' := 204) rfl (hb hby at_189) rfl ((if0 _ _).trans (teq m1).1) (by decide) (by decide) ?_
                show Steps p.tables e below (T44.setTop (mkF m 204 #[.val (.long i0), .second, .val (.long i1), .second, .val (.long i2), .second, .val (.long i3), .second, .val (.long i4), .second, .val (.int i5), .val (.int (Int32.ofNat nq)), .val (.long xx), .second, .val (.long yy), .second, .val (.ref so), .val (.int ea), .val (.int eb), .unset] [])) _
                refine XS.iconst X44.here hx rfl (hb hby at_204) ?_
                show Steps p.tables e below (T44.setTop (mkF m 205 #[.val (.long i0), .second, .val (.long i1), .second, .val (.long i2), .second, .val (.long i3), .second, .val (.long i4), .second, .val (.int i5), .val (.int (Int32.ofNat nq)), .val (.long xx), .second, .val (.long yy), .second, .val (.ref so), .val (.int ea), .val (.int eb), .unset] [(.int (0 : Int32))])) _
                exact κ)
              exact ⟨0, Or.inr ⟨fun q => q.2.1 ((lw_eq _ _).mp m1), rfl⟩, pre66⟩
            · have pre67 := fun τ (κ : Steps p.tables e below (T44.setTop (mkF m 197 #[.val (.long i0), .second, .val (.long i1), .second, .val (.long i2), .second, .val (.long i3), .second, .val (.long i4), .second, .val (.int i5), .val (.int (Int32.ofNat nq)), .val (.long xx), .second, .val (.long yy), .second, .val (.ref so), .val (.int ea), .val (.int eb), .unset] [(.int (lcmpW i2 yy))])) τ) => pre65 τ (by
                refine XS.ifNo X44.here hx rfl (hb hby at_189) rfl ((if0 _ _).trans (feq m1).1) ?_
                show Steps p.tables e below (T44.setTop (mkF m 192 #[.val (.long i0), .second, .val (.long i1), .second, .val (.long i2), .second, .val (.long i3), .second, .val (.long i4), .second, .val (.int i5), .val (.int (Int32.ofNat nq)), .val (.long xx), .second, .val (.long yy), .second, .val (.ref so), .val (.int ea), .val (.int eb), .unset] [])) _
                refine XS.lload X44.here hx rfl (hb hby at_192) rfl ?_
                refine XS.lload X44.here hx rfl (hb hby at_194) rfl ?_
                refine XS.lcmp X44.here hx rfl (hb hby at_196) rfl ?_
                show Steps p.tables e below (T44.setTop (mkF m 197 #[.val (.long i0), .second, .val (.long i1), .second, .val (.long i2), .second, .val (.long i3), .second, .val (.long i4), .second, .val (.int i5), .val (.int (Int32.ofNat nq)), .val (.long xx), .second, .val (.long yy), .second, .val (.ref so), .val (.int ea), .val (.int eb), .unset] [(.int (lcmpW i2 yy))])) _
                exact κ)
              by_cases m2 : (lcmpW i2 yy) = (0 : Int32)
              · have pre68 := fun τ (κ : Steps p.tables e below (T44.setTop (mkF m 205 #[.val (.long i0), .second, .val (.long i1), .second, .val (.long i2), .second, .val (.long i3), .second, .val (.long i4), .second, .val (.int i5), .val (.int (Int32.ofNat nq)), .val (.long xx), .second, .val (.long yy), .second, .val (.ref so), .val (.int ea), .val (.int eb), .unset] [(.int (0 : Int32))])) τ) => pre67 τ (by
                  refine XS.ifYes X44.here hx rfl (pc0 := 197) (pc' := 204) rfl (hb hby at_197) rfl ((if0 _ _).trans (teq m2).1) (by decide) (by decide) ?_
                  show Steps p.tables e below (T44.setTop (mkF m 204 #[.val (.long i0), .second, .val (.long i1), .second, .val (.long i2), .second, .val (.long i3), .second, .val (.long i4), .second, .val (.int i5), .val (.int (Int32.ofNat nq)), .val (.long xx), .second, .val (.long yy), .second, .val (.ref so), .val (.int ea), .val (.int eb), .unset] [])) _
                  refine XS.iconst X44.here hx rfl (hb hby at_204) ?_
                  show Steps p.tables e below (T44.setTop (mkF m 205 #[.val (.long i0), .second, .val (.long i1), .second, .val (.long i2), .second, .val (.long i3), .second, .val (.long i4), .second, .val (.int i5), .val (.int (Int32.ofNat nq)), .val (.long xx), .second, .val (.long yy), .second, .val (.ref so), .val (.int ea), .val (.int eb), .unset] [(.int (0 : Int32))])) _
                  exact κ)
                exact ⟨0, Or.inr ⟨fun q => q.2.2 ((lw_eq _ _).mp m2), rfl⟩, pre68⟩
              · have pre69 := fun τ (κ : Steps p.tables e below (T44.setTop (mkF m 205 #[.val (.long i0), .second, .val (.long i1), .second, .val (.long i2), .second, .val (.long i3), .second, .val (.long i4), .second, .val (.int i5), .val (.int (Int32.ofNat nq)), .val (.long xx), .second, .val (.long yy), .second, .val (.ref so), .val (.int ea), .val (.int eb), .unset] [(.int (1 : Int32))])) τ) => pre67 τ (by
                  refine XS.ifNo X44.here hx rfl (hb hby at_197) rfl ((if0 _ _).trans (feq m2).1) ?_
                  show Steps p.tables e below (T44.setTop (mkF m 200 #[.val (.long i0), .second, .val (.long i1), .second, .val (.long i2), .second, .val (.long i3), .second, .val (.long i4), .second, .val (.int i5), .val (.int (Int32.ofNat nq)), .val (.long xx), .second, .val (.long yy), .second, .val (.ref so), .val (.int ea), .val (.int eb), .unset] [])) _
                  refine XS.iconst X44.here hx rfl (hb hby at_200) ?_
                  refine XS.goto X44.here hx rfl (pc0 := 201) (pc' := 205) rfl (hb hby at_201) (by decide) (by decide) ?_
                  show Steps p.tables e below (T44.setTop (mkF m 205 #[.val (.long i0), .second, .val (.long i1), .second, .val (.long i2), .second, .val (.long i3), .second, .val (.long i4), .second, .val (.int i5), .val (.int (Int32.ofNat nq)), .val (.long xx), .second, .val (.long yy), .second, .val (.ref so), .val (.int ea), .val (.int eb), .unset] [(.int (1 : Int32))])) _
                  exact κ)
                exact ⟨1, Or.inl ⟨⟨by have : ¬ nq < 3 := fun q => m0 ((own_ltN (i := nq) (j := 3) (by omega) (by omega)).mpr q); omega, fun q => m1 ((lw_eq _ _).mpr q), fun q => m2 ((lw_eq _ _).mpr q)⟩, rfl⟩, pre69⟩
        have pre70 := fun τ (κ : Steps p.tables e below (T44.setTop (mkF m 210 #[.val (.long i0), .second, .val (.long i1), .second, .val (.long i2), .second, .val (.long i3), .second, .val (.long i4), .second, .val (.int i5), .val (.int (Int32.ofNat nq)), .val (.long xx), .second, .val (.long yy), .second, .val (.ref so), .val (.int ea), .val (.int eb), .val (.int ec)] [(.long i0), (.ref so)])) τ) => pre63 τ (by
          refine XS.istore X44.here hx rfl (hb hby at_205) rfl (l' := #[.val (.long i0), .second, .val (.long i1), .second, .val (.long i2), .second, .val (.long i3), .second, .val (.long i4), .second, .val (.int i5), .val (.int (Int32.ofNat nq)), .val (.long xx), .second, .val (.long yy), .second, .val (.ref so), .val (.int ea), .val (.int eb), .val (.int ec)]) rfl ?_
          show Steps p.tables e below (T44.setTop (mkF m 207 #[.val (.long i0), .second, .val (.long i1), .second, .val (.long i2), .second, .val (.long i3), .second, .val (.long i4), .second, .val (.int i5), .val (.int (Int32.ofNat nq)), .val (.long xx), .second, .val (.long yy), .second, .val (.ref so), .val (.int ea), .val (.int eb), .val (.int ec)] [])) _
          refine XS.aload X44.here hx rfl (hb hby at_207) rfl rfl ?_
          refine XS.lloadN X44.here hx rfl (hb hby at_209) rfl ?_
          show Steps p.tables e below (T44.setTop (mkF m 210 #[.val (.long i0), .second, .val (.long i1), .second, .val (.long i2), .second, .val (.long i3), .second, .val (.long i4), .second, .val (.int i5), .val (.int (Int32.ofNat nq)), .val (.long xx), .second, .val (.long yy), .second, .val (.ref so), .val (.int ea), .val (.int eb), .val (.int ec)] [(.long i0), (.ref so)])) _
          exact κ)
        obtain ⟨cq71, kq71, q71a, q71b, q71c⟩ := isOf hZ rfl Ez1
        obtain ⟨_, _, ⟨T71, L71, k71, n71⟩, -, X71, ⟨Lc71, hQ71, l71, y71, z71⟩, st71⟩ := X44.virtualBack hx (y := (⟨"com/example/earmark/earmark/ledger/HoldStates", "hasPassed", "(J)Z"⟩ : MethodName)) (z := (⟨"com/example/earmark/earmark/ledger/HoldStates", "hasPassed", "(J)Z"⟩ : MethodName)) hown (mvT hZ (hw _ (List.mem_of_getElem? (i := 175) rfl))) (mvT hZ (hw _ (List.mem_of_getElem? (i := 176) rfl))) (notFace_of_selects (args := #[]) (mvT hZ (hw _ (List.mem_of_getElem? (i := 178) rfl)))) (mvT hZ (hw _ (List.mem_of_getElem? (i := 178) rfl))) (mvT hZ (hw _ (List.mem_of_getElem? (i := 177) rfl))) (by decide) (backOf (W := 0) (rm19 l Z a0 hw [] so i0 k8 zz2 f8 T44.heap n0 Zq1 Ez1 g_so PBz1 hkw1 (by omega)) hZ (hw _ (List.mem_of_getElem? (i := 179) rfl)) (hw _ (List.mem_of_getElem? (i := 6) rfl)) (Nat.le_of_ble_eq_true rfl) (Nat.le_of_ble_eq_true rfl)) q71a q71c (g := (mkF m 210 #[.val (.long i0), .second, .val (.long i1), .second, .val (.long i2), .second, .val (.long i3), .second, .val (.long i4), .second, .val (.int i5), .val (.int (Int32.ofNat nq)), .val (.long xx), .second, .val (.long yy), .second, .val (.ref so), .val (.int ea), .val (.int eb), .val (.int ec)] [(.long i0), (.ref so)])) rfl (by rw [hml]; rfl) (Steps.refl _) (argsL := [(.long i0)]) (rest := []) (lenOf pd_15 rfl) rfl (by show 2 * 0 + _ ≤ _; exact Nat.le_of_eq rfl) (hb hby at_210) (fun _ _ => ⟨rfl, rfl, (by decide : 26 + 0 ≤ _), (by decide : 730 + 0 ≤ _)⟩)
        dsimp only [Pt.U, Pt.locs, Pt.cells, Pt.slots] at X71 l71 y71 z71 st71 hQ71
        subst l71 y71 z71
        obtain ⟨r20, rfl, Nq71, hh71, hr20⟩ := hQ71
        have Ez1_71 : Exa Z T71.heap so "com/example/earmark/earmark/ledger/HoldStates" := by rw [hh71]; exact Ez1
        have PBz1_71 : own_PB Z T71.heap n0 so k8 zz2 f8 := by rw [hh71]; exact PBz1
        have Z71 : n0 ≤ T71.heap.size := by rw [hh71]; exact Zq1
        have hks : ks18 ≤ T71.heap.size := by rw [hh71]; exact hks
        have N71 := Fr.app N44 Nq71
        have pre72 := fun τ (κ : Steps p.tables e below (T71.setTop (mkF m 213 #[.val (.long i0), .second, .val (.long i1), .second, .val (.long i2), .second, .val (.long i3), .second, .val (.long i4), .second, .val (.int i5), .val (.int (Int32.ofNat nq)), .val (.long xx), .second, .val (.long yy), .second, .val (.ref so), .val (.int ea), .val (.int eb), .val (.int ec)] [(.int r20)])) τ) => pre70 τ (st71.trans κ)
        have pre73 := fun τ (κ : Steps p.tables e below (T71.setTop (mkF m 221 #[.val (.long i0), .second, .val (.long i1), .second, .val (.long i2), .second, .val (.long i3), .second, .val (.long i4), .second, .val (.int i5), .val (.int (Int32.ofNat nq)), .val (.long xx), .second, .val (.long yy), .second, .val (.ref so), .val (.int ea), .val (.int eb), .val (.int ec)] [(.long i1), (.ref so)])) τ) => pre72 τ (by
          refine XS.iload X71.here hx rfl (hb hby at_213) rfl ?_
          refine XS.icmpNo X71.here hx rfl (hb hby at_215) rfl (teq (own_eq9 hr20 he0 ((hmF _).trans (own_c0 d0 d1 d2)))).2 ?_
          show Steps p.tables e below (T71.setTop (mkF m 218 #[.val (.long i0), .second, .val (.long i1), .second, .val (.long i2), .second, .val (.long i3), .second, .val (.long i4), .second, .val (.int i5), .val (.int (Int32.ofNat nq)), .val (.long xx), .second, .val (.long yy), .second, .val (.ref so), .val (.int ea), .val (.int eb), .val (.int ec)] [])) _
          refine XS.aload X71.here hx rfl (hb hby at_218) rfl rfl ?_
          refine XS.lloadN X71.here hx rfl (hb hby at_220) rfl ?_
          show Steps p.tables e below (T71.setTop (mkF m 221 #[.val (.long i0), .second, .val (.long i1), .second, .val (.long i2), .second, .val (.long i3), .second, .val (.long i4), .second, .val (.int i5), .val (.int (Int32.ofNat nq)), .val (.long xx), .second, .val (.long yy), .second, .val (.ref so), .val (.int ea), .val (.int eb), .val (.int ec)] [(.long i1), (.ref so)])) _
          exact κ)
        obtain ⟨cq74, kq74, q74a, q74b, q74c⟩ := isOf hZ rfl Ez1_71
        obtain ⟨_, _, ⟨T74, L74, k74, n74⟩, -, X74, ⟨Lc74, hQ74, l74, y74, z74⟩, st74⟩ := X71.virtualBack hx (y := (⟨"com/example/earmark/earmark/ledger/HoldStates", "hasPassed", "(J)Z"⟩ : MethodName)) (z := (⟨"com/example/earmark/earmark/ledger/HoldStates", "hasPassed", "(J)Z"⟩ : MethodName)) hown (mvT hZ (hw _ (List.mem_of_getElem? (i := 175) rfl))) (mvT hZ (hw _ (List.mem_of_getElem? (i := 176) rfl))) (notFace_of_selects (args := #[]) (mvT hZ (hw _ (List.mem_of_getElem? (i := 178) rfl)))) (mvT hZ (hw _ (List.mem_of_getElem? (i := 178) rfl))) (mvT hZ (hw _ (List.mem_of_getElem? (i := 177) rfl))) (by decide) (backOf (W := 0) (rm19 l Z a0 hw [] so i1 k8 zz2 f8 T71.heap n0 Z71 Ez1_71 g_so PBz1_71 hkw1 (by omega)) hZ (hw _ (List.mem_of_getElem? (i := 179) rfl)) (hw _ (List.mem_of_getElem? (i := 6) rfl)) (Nat.le_of_ble_eq_true rfl) (Nat.le_of_ble_eq_true rfl)) q74a q74c (g := (mkF m 221 #[.val (.long i0), .second, .val (.long i1), .second, .val (.long i2), .second, .val (.long i3), .second, .val (.long i4), .second, .val (.int i5), .val (.int (Int32.ofNat nq)), .val (.long xx), .second, .val (.long yy), .second, .val (.ref so), .val (.int ea), .val (.int eb), .val (.int ec)] [(.long i1), (.ref so)])) rfl (by rw [hml]; rfl) (Steps.refl _) (argsL := [(.long i1)]) (rest := []) (lenOf pd_15 rfl) rfl (by show 2 * 0 + _ ≤ _; exact Nat.le_of_eq rfl) (hb hby at_221) (fun _ _ => ⟨rfl, rfl, (by decide : 26 + 0 ≤ _), (by decide : 730 + 0 ≤ _)⟩)
        dsimp only [Pt.U, Pt.locs, Pt.cells, Pt.slots] at X74 l74 y74 z74 st74 hQ74
        subst l74 y74 z74
        obtain ⟨r21, rfl, Nq74, hh74, hr21⟩ := hQ74
        have Ez1_74 : Exa Z T74.heap so "com/example/earmark/earmark/ledger/HoldStates" := by rw [hh74]; exact Ez1_71
        have PBz1_74 : own_PB Z T74.heap n0 so k8 zz2 f8 := by rw [hh74]; exact PBz1_71
        have Z74 : n0 ≤ T74.heap.size := by rw [hh74]; exact Z71
        have hks : ks18 ≤ T74.heap.size := by rw [hh74]; exact hks
        have N74 := Fr.app N71 Nq74
        have pre75 := fun τ (κ : Steps p.tables e below (T74.setTop (mkF m 224 #[.val (.long i0), .second, .val (.long i1), .second, .val (.long i2), .second, .val (.long i3), .second, .val (.long i4), .second, .val (.int i5), .val (.int (Int32.ofNat nq)), .val (.long xx), .second, .val (.long yy), .second, .val (.ref so), .val (.int ea), .val (.int eb), .val (.int ec)] [(.int r21)])) τ) => pre73 τ (st74.trans κ)
        have pre76 := fun τ (κ : Steps p.tables e below (T74.setTop (mkF m 233 #[.val (.long i0), .second, .val (.long i1), .second, .val (.long i2), .second, .val (.long i3), .second, .val (.long i4), .second, .val (.int i5), .val (.int (Int32.ofNat nq)), .val (.long xx), .second, .val (.long yy), .second, .val (.ref so), .val (.int ea), .val (.int eb), .val (.int ec)] [(.long i2), (.ref so)])) τ) => pre75 τ (by
          refine XS.iload X74.here hx rfl (hb hby at_224) rfl ?_
          refine XS.icmpNo X74.here hx rfl (hb hby at_226) rfl (teq (own_eq9 hr21 he1 ((hmF _).trans (own_c1 d0 d1 d2)))).2 ?_
          show Steps p.tables e below (T74.setTop (mkF m 229 #[.val (.long i0), .second, .val (.long i1), .second, .val (.long i2), .second, .val (.long i3), .second, .val (.long i4), .second, .val (.int i5), .val (.int (Int32.ofNat nq)), .val (.long xx), .second, .val (.long yy), .second, .val (.ref so), .val (.int ea), .val (.int eb), .val (.int ec)] [])) _
          refine XS.aload X74.here hx rfl (hb hby at_229) rfl rfl ?_
          refine XS.lload X74.here hx rfl (hb hby at_231) rfl ?_
          show Steps p.tables e below (T74.setTop (mkF m 233 #[.val (.long i0), .second, .val (.long i1), .second, .val (.long i2), .second, .val (.long i3), .second, .val (.long i4), .second, .val (.int i5), .val (.int (Int32.ofNat nq)), .val (.long xx), .second, .val (.long yy), .second, .val (.ref so), .val (.int ea), .val (.int eb), .val (.int ec)] [(.long i2), (.ref so)])) _
          exact κ)
        obtain ⟨cq77, kq77, q77a, q77b, q77c⟩ := isOf hZ rfl Ez1_74
        obtain ⟨_, _, ⟨T77, L77, k77, n77⟩, -, X77, ⟨Lc77, hQ77, l77, y77, z77⟩, st77⟩ := X74.virtualBack hx (y := (⟨"com/example/earmark/earmark/ledger/HoldStates", "hasPassed", "(J)Z"⟩ : MethodName)) (z := (⟨"com/example/earmark/earmark/ledger/HoldStates", "hasPassed", "(J)Z"⟩ : MethodName)) hown (mvT hZ (hw _ (List.mem_of_getElem? (i := 175) rfl))) (mvT hZ (hw _ (List.mem_of_getElem? (i := 176) rfl))) (notFace_of_selects (args := #[]) (mvT hZ (hw _ (List.mem_of_getElem? (i := 178) rfl)))) (mvT hZ (hw _ (List.mem_of_getElem? (i := 178) rfl))) (mvT hZ (hw _ (List.mem_of_getElem? (i := 177) rfl))) (by decide) (backOf (W := 0) (rm19 l Z a0 hw [] so i2 k8 zz2 f8 T74.heap n0 Z74 Ez1_74 g_so PBz1_74 hkw1 (by omega)) hZ (hw _ (List.mem_of_getElem? (i := 179) rfl)) (hw _ (List.mem_of_getElem? (i := 6) rfl)) (Nat.le_of_ble_eq_true rfl) (Nat.le_of_ble_eq_true rfl)) q77a q77c (g := (mkF m 233 #[.val (.long i0), .second, .val (.long i1), .second, .val (.long i2), .second, .val (.long i3), .second, .val (.long i4), .second, .val (.int i5), .val (.int (Int32.ofNat nq)), .val (.long xx), .second, .val (.long yy), .second, .val (.ref so), .val (.int ea), .val (.int eb), .val (.int ec)] [(.long i2), (.ref so)])) rfl (by rw [hml]; rfl) (Steps.refl _) (argsL := [(.long i2)]) (rest := []) (lenOf pd_15 rfl) rfl (by show 2 * 0 + _ ≤ _; exact Nat.le_of_eq rfl) (hb hby at_233) (fun _ _ => ⟨rfl, rfl, (by decide : 26 + 0 ≤ _), (by decide : 730 + 0 ≤ _)⟩)
        dsimp only [Pt.U, Pt.locs, Pt.cells, Pt.slots] at X77 l77 y77 z77 st77 hQ77
        subst l77 y77 z77
        obtain ⟨r22, rfl, Nq77, hh77, hr22⟩ := hQ77
        have Ez1_77 : Exa Z T77.heap so "com/example/earmark/earmark/ledger/HoldStates" := by rw [hh77]; exact Ez1_74
        have PBz1_77 : own_PB Z T77.heap n0 so k8 zz2 f8 := by rw [hh77]; exact PBz1_74
        have Z77 : n0 ≤ T77.heap.size := by rw [hh77]; exact Z74
        have hks : ks18 ≤ T77.heap.size := by rw [hh77]; exact hks
        have N77 := Fr.app N74 Nq77
        have pre78 := fun τ (κ : Steps p.tables e below (T77.setTop (mkF m 236 #[.val (.long i0), .second, .val (.long i1), .second, .val (.long i2), .second, .val (.long i3), .second, .val (.long i4), .second, .val (.int i5), .val (.int (Int32.ofNat nq)), .val (.long xx), .second, .val (.long yy), .second, .val (.ref so), .val (.int ea), .val (.int eb), .val (.int ec)] [(.int r22)])) τ) => pre76 τ (st77.trans κ)
        have pre79 := fun τ (κ : Steps p.tables e below (T77.setTop (mkF m 245 #[.val (.long i0), .second, .val (.long i1), .second, .val (.long i2), .second, .val (.long i3), .second, .val (.long i4), .second, .val (.int i5), .val (.int (Int32.ofNat nq)), .val (.long xx), .second, .val (.long yy), .second, .val (.ref so), .val (.int ea), .val (.int eb), .val (.int ec)] [(.long xx), (.ref so)])) τ) => pre78 τ (by
          refine XS.iload X77.here hx rfl (hb hby at_236) rfl ?_
          refine XS.icmpNo X77.here hx rfl (hb hby at_238) rfl (teq (own_eq9 hr22 he2 ((hmF _).trans (own_c2 d0 d1 d2)))).2 ?_
          show Steps p.tables e below (T77.setTop (mkF m 241 #[.val (.long i0), .second, .val (.long i1), .second, .val (.long i2), .second, .val (.long i3), .second, .val (.long i4), .second, .val (.int i5), .val (.int (Int32.ofNat nq)), .val (.long xx), .second, .val (.long yy), .second, .val (.ref so), .val (.int ea), .val (.int eb), .val (.int ec)] [])) _
          refine XS.aload X77.here hx rfl (hb hby at_241) rfl rfl ?_
          refine XS.lload X77.here hx rfl (hb hby at_243) rfl ?_
          show Steps p.tables e below (T77.setTop (mkF m 245 #[.val (.long i0), .second, .val (.long i1), .second, .val (.long i2), .second, .val (.long i3), .second, .val (.long i4), .second, .val (.int i5), .val (.int (Int32.ofNat nq)), .val (.long xx), .second, .val (.long yy), .second, .val (.ref so), .val (.int ea), .val (.int eb), .val (.int ec)] [(.long xx), (.ref so)])) _
          exact κ)
        obtain ⟨cq80, kq80, q80a, q80b, q80c⟩ := isOf hZ rfl Ez1_77
        obtain ⟨_, _, ⟨T80, L80, k80, n80⟩, -, X80, ⟨Lc80, hQ80, l80, y80, z80⟩, st80⟩ := X77.virtualBack hx (y := (⟨"com/example/earmark/earmark/ledger/HoldStates", "hasPassed", "(J)Z"⟩ : MethodName)) (z := (⟨"com/example/earmark/earmark/ledger/HoldStates", "hasPassed", "(J)Z"⟩ : MethodName)) hown (mvT hZ (hw _ (List.mem_of_getElem? (i := 175) rfl))) (mvT hZ (hw _ (List.mem_of_getElem? (i := 176) rfl))) (notFace_of_selects (args := #[]) (mvT hZ (hw _ (List.mem_of_getElem? (i := 178) rfl)))) (mvT hZ (hw _ (List.mem_of_getElem? (i := 178) rfl))) (mvT hZ (hw _ (List.mem_of_getElem? (i := 177) rfl))) (by decide) (backOf (W := 0) (rm19 l Z a0 hw [] so xx k8 zz2 f8 T77.heap n0 Z77 Ez1_77 g_so PBz1_77 hkw1 (by omega)) hZ (hw _ (List.mem_of_getElem? (i := 179) rfl)) (hw _ (List.mem_of_getElem? (i := 6) rfl)) (Nat.le_of_ble_eq_true rfl) (Nat.le_of_ble_eq_true rfl)) q80a q80c (g := (mkF m 245 #[.val (.long i0), .second, .val (.long i1), .second, .val (.long i2), .second, .val (.long i3), .second, .val (.long i4), .second, .val (.int i5), .val (.int (Int32.ofNat nq)), .val (.long xx), .second, .val (.long yy), .second, .val (.ref so), .val (.int ea), .val (.int eb), .val (.int ec)] [(.long xx), (.ref so)])) rfl (by rw [hml]; rfl) (Steps.refl _) (argsL := [(.long xx)]) (rest := []) (lenOf pd_15 rfl) rfl (by show 2 * 0 + _ ≤ _; exact Nat.le_of_eq rfl) (hb hby at_245) (fun _ _ => ⟨rfl, rfl, (by decide : 26 + 0 ≤ _), (by decide : 730 + 0 ≤ _)⟩)
        dsimp only [Pt.U, Pt.locs, Pt.cells, Pt.slots] at X80 l80 y80 z80 st80 hQ80
        subst l80 y80 z80
        obtain ⟨r23, rfl, Nq80, hh80, hr23⟩ := hQ80
        have Ez1_80 : Exa Z T80.heap so "com/example/earmark/earmark/ledger/HoldStates" := by rw [hh80]; exact Ez1_77
        have PBz1_80 : own_PB Z T80.heap n0 so k8 zz2 f8 := by rw [hh80]; exact PBz1_77
        have Z80 : n0 ≤ T80.heap.size := by rw [hh80]; exact Z77
        have hks : ks18 ≤ T80.heap.size := by rw [hh80]; exact hks
        have N80 := Fr.app N77 Nq80
        have pre81 := fun τ (κ : Steps p.tables e below (T80.setTop (mkF m 248 #[.val (.long i0), .second, .val (.long i1), .second, .val (.long i2), .second, .val (.long i3), .second, .val (.long i4), .second, .val (.int i5), .val (.int (Int32.ofNat nq)), .val (.long xx), .second, .val (.long yy), .second, .val (.ref so), .val (.int ea), .val (.int eb), .val (.int ec)] [(.int r23)])) τ) => pre79 τ (st80.trans κ)
        have pre82 := fun τ (κ : Steps p.tables e below (T80.setTop (mkF m 255 #[.val (.long i0), .second, .val (.long i1), .second, .val (.long i2), .second, .val (.long i3), .second, .val (.long i4), .second, .val (.int i5), .val (.int (Int32.ofNat nq)), .val (.long xx), .second, .val (.long yy), .second, .val (.ref so), .val (.int ea), .val (.int eb), .val (.int ec)] [(.long yy), (.ref so)])) τ) => pre81 τ (by
          refine XS.ifNo X80.here hx rfl (hb hby at_248) rfl ((if0 _ _).trans (teq (own_z9 hr23 (fun q => ((hmF _).mp q).1.2 rfl))).2) ?_
          show Steps p.tables e below (T80.setTop (mkF m 251 #[.val (.long i0), .second, .val (.long i1), .second, .val (.long i2), .second, .val (.long i3), .second, .val (.long i4), .second, .val (.int i5), .val (.int (Int32.ofNat nq)), .val (.long xx), .second, .val (.long yy), .second, .val (.ref so), .val (.int ea), .val (.int eb), .val (.int ec)] [])) _
          refine XS.aload X80.here hx rfl (hb hby at_251) rfl rfl ?_
          refine XS.lload X80.here hx rfl (hb hby at_253) rfl ?_
          show Steps p.tables e below (T80.setTop (mkF m 255 #[.val (.long i0), .second, .val (.long i1), .second, .val (.long i2), .second, .val (.long i3), .second, .val (.long i4), .second, .val (.int i5), .val (.int (Int32.ofNat nq)), .val (.long xx), .second, .val (.long yy), .second, .val (.ref so), .val (.int ea), .val (.int eb), .val (.int ec)] [(.long yy), (.ref so)])) _
          exact κ)
        obtain ⟨cq83, kq83, q83a, q83b, q83c⟩ := isOf hZ rfl Ez1_80
        obtain ⟨_, _, ⟨T83, L83, k83, n83⟩, -, X83, ⟨Lc83, hQ83, l83, y83, z83⟩, st83⟩ := X80.virtualBack hx (y := (⟨"com/example/earmark/earmark/ledger/HoldStates", "hasPassed", "(J)Z"⟩ : MethodName)) (z := (⟨"com/example/earmark/earmark/ledger/HoldStates", "hasPassed", "(J)Z"⟩ : MethodName)) hown (mvT hZ (hw _ (List.mem_of_getElem? (i := 175) rfl))) (mvT hZ (hw _ (List.mem_of_getElem? (i := 176) rfl))) (notFace_of_selects (args := #[]) (mvT hZ (hw _ (List.mem_of_getElem? (i := 178) rfl)))) (mvT hZ (hw _ (List.mem_of_getElem? (i := 178) rfl))) (mvT hZ (hw _ (List.mem_of_getElem? (i := 177) rfl))) (by decide) (backOf (W := 0) (rm19 l Z a0 hw [] so yy k8 zz2 f8 T80.heap n0 Z80 Ez1_80 g_so PBz1_80 hkw1 (by omega)) hZ (hw _ (List.mem_of_getElem? (i := 179) rfl)) (hw _ (List.mem_of_getElem? (i := 6) rfl)) (Nat.le_of_ble_eq_true rfl) (Nat.le_of_ble_eq_true rfl)) q83a q83c (g := (mkF m 255 #[.val (.long i0), .second, .val (.long i1), .second, .val (.long i2), .second, .val (.long i3), .second, .val (.long i4), .second, .val (.int i5), .val (.int (Int32.ofNat nq)), .val (.long xx), .second, .val (.long yy), .second, .val (.ref so), .val (.int ea), .val (.int eb), .val (.int ec)] [(.long yy), (.ref so)])) rfl (by rw [hml]; rfl) (Steps.refl _) (argsL := [(.long yy)]) (rest := []) (lenOf pd_15 rfl) rfl (by show 2 * 0 + _ ≤ _; exact Nat.le_of_eq rfl) (hb hby at_255) (fun _ _ => ⟨rfl, rfl, (by decide : 26 + 0 ≤ _), (by decide : 730 + 0 ≤ _)⟩)
        dsimp only [Pt.U, Pt.locs, Pt.cells, Pt.slots] at X83 l83 y83 z83 st83 hQ83
        subst l83 y83 z83
        obtain ⟨r24, rfl, Nq83, hh83, hr24⟩ := hQ83
        have Ez1_83 : Exa Z T83.heap so "com/example/earmark/earmark/ledger/HoldStates" := by rw [hh83]; exact Ez1_80
        have PBz1_83 : own_PB Z T83.heap n0 so k8 zz2 f8 := by rw [hh83]; exact PBz1_80
        have Z83 : n0 ≤ T83.heap.size := by rw [hh83]; exact Z80
        have hks : ks18 ≤ T83.heap.size := by rw [hh83]; exact hks
        have N83 := Fr.app N80 Nq83
        have pre84 := fun τ (κ : Steps p.tables e below (T83.setTop (mkF m 258 #[.val (.long i0), .second, .val (.long i1), .second, .val (.long i2), .second, .val (.long i3), .second, .val (.long i4), .second, .val (.int i5), .val (.int (Int32.ofNat nq)), .val (.long xx), .second, .val (.long yy), .second, .val (.ref so), .val (.int ea), .val (.int eb), .val (.int ec)] [(.int r24)])) τ) => pre82 τ (st83.trans κ)
        have pre85 := fun τ (κ : Steps p.tables e below (T83.setTop (mkF m 266 #[.val (.long i0), .second, .val (.long i1), .second, .val (.long i2), .second, .val (.long i3), .second, .val (.long i4), .second, .val (.int i5), .val (.int (Int32.ofNat nq)), .val (.long xx), .second, .val (.long yy), .second, .val (.ref so), .val (.int ea), .val (.int eb), .val (.int ec)] [(.int (1 : Int32))])) τ) => pre84 τ (by
          refine XS.ifNo X83.here hx rfl (hb hby at_258) rfl ((if0 _ _).trans (teq (own_z9 hr24 (fun q => ((hmF _).mp q).2 rfl))).2) ?_
          show Steps p.tables e below (T83.setTop (mkF m 261 #[.val (.long i0), .second, .val (.long i1), .second, .val (.long i2), .second, .val (.long i3), .second, .val (.long i4), .second, .val (.int i5), .val (.int (Int32.ofNat nq)), .val (.long xx), .second, .val (.long yy), .second, .val (.ref so), .val (.int ea), .val (.int eb), .val (.int ec)] [])) _
          refine XS.iconst X83.here hx rfl (hb hby at_261) ?_
          refine XS.goto X83.here hx rfl (pc0 := 262) (pc' := 266) rfl (hb hby at_262) (by decide) (by decide) ?_
          show Steps p.tables e below (T83.setTop (mkF m 266 #[.val (.long i0), .second, .val (.long i1), .second, .val (.long i2), .second, .val (.long i3), .second, .val (.long i4), .second, .val (.int i5), .val (.int (Int32.ofNat nq)), .val (.long xx), .second, .val (.long yy), .second, .val (.ref so), .val (.int ea), .val (.int eb), .val (.int ec)] [(.int (1 : Int32))])) _
          exact κ)
        rw [hsx18] at X83 hZ hown
        obtain ⟨fs, hr, hrun, hended, hEnd⟩ := Stand.leaveW (s := s) (vm₁ := T18.vm) X83 hS18 hks (v := some (.int (1 : Int32))) (fun h => by rw [Bd.returns] at h; cases h)
        refine ⟨_, _, pre85 _ ?_, hrun, hended, _, _, rfl, ?_, ⟨hEnd.1, hEnd.2.1, hEnd.2.2.1, hEnd.2.2.2.mono (by decide) (by decide)⟩⟩
        · exact retN X83 hx (t := .boolean) Bd.returns (by simp) (hb hby at_266) hr
        · show Q0 Z i0 i1 i2 i3 i4 i5 zc cs u8 nn h0 n0 _ T83.heap _
          exact ⟨rfl, N83⟩
set_option maxRecDepth 65536 in
set_option maxHeartbeats 40000000 in
theorem comes_1 {Post : Tables → Env → Array Value → State → Outcome → State → Prop} (hpost : ∀ tb e args s v u, (limb_1_1.after args s (.returned v) u = true ∧ limb_1_2.after args s (.returned v) u = true ∧ True) → FramedW s (.returned v) u (Jvm.fieldLocs frame_1_writes args s ++ Jvm.arrayLocs frame_1_arrays args s ++ Jvm.staticLocs frame_1_statics s) 56 2496 → Post tb e args s (.returned v) u) :
    ArmFor flags0 classFile x code maxLocals ret World_1 tables_1 room_1 Calls_1 rest_1 Pre_1 Post := by
  intro l hfl _ _ p e ha hc hk s m args below hf hA hF happ hP
  obtain ⟨hcalls, hrest, hpre⟩ := hP
  obtain ⟨-, -, -, hnamed, -, -, -, hat⟩ := (Spec.applies_iff hf).mp happ
  obtain ⟨hg, hn⟩ := and_e (Cond.before_iff.mp (show (Jvm.Cond.and given_1 narrow_1).before args s = true from hpre))
  obtain ⟨gc, ga⟩ := and_e hg
  obtain ⟨ga0, gr0⟩ := and_e ga
  obtain ⟨ga1, gr1⟩ := and_e gr0
  obtain ⟨ga2, gr2⟩ := and_e gr1
  obtain ⟨ga3, gr3⟩ := and_e gr2
  obtain ⟨ga4, gr4⟩ := and_e gr3
  obtain ⟨w0, w1, w2, w3, w4, w5, rfl⟩ : ∃ w0 w1 w2 w3 w4 w5 : Value, args = #[w0, w1, w2, w3, w4, w5] := by
    have hs : args.size = 6 := by simpa [Cond.value, given_1] using gc
    obtain ⟨L⟩ := args
    match L, hs with
    | [w0, w1, w2, w3, w4, w5], _ => exact ⟨w0, w1, w2, w3, w4, w5, rfl⟩
  have hw := fun d (hd : d ∈ tables_1) => atoms_spec (ws := Jvm.Cond.code x code maxLocals ret :: tables_1) hat d (List.mem_cons_of_mem _ hd)
  have hfit : Fit s := fun {y c} hc i hi => by
    obtain ⟨ha, rfl⟩ := Array.getElem?_eq_some_iff.mp hc
    have q := List.all_eq_true.mp ((Array.all_eq_true_iff_forall_mem.mp hF) _ (Array.getElem_mem ha)) i (List.mem_range.mpr hi)
    simpa [Array.getElem?_eq_getElem hi] using q
  obtain ⟨hsets, hown0⟩ := atoms_of _ (rest_1_c_eq ▸ (show rest_1_c.before _ s = true from hrest))
  have n3 := not_v (Cond.before_iff.mp (hsets _ (List.mem_of_getElem? (i := 8) rfl)))
  obtain ⟨zc, ezc⟩ := is_v (Cond.before_iff.mp (hsets _ (List.mem_of_getElem? (i := 7) rfl)))
  have S8 : Sta s s.heap "java/lang/String" "COMPACT_STRINGS" "Z" (.int zc) := Sta.start ezc (Or.inl (hsets _ (List.mem_of_getElem? (i := 6) rfl)))
  have c9 : ¬ (zc = (0 : Int32)) := gotF (Cond.eq_ints ezc (Term.int_eval (0))) n3
  have xcs := Cond.before_iff.mp (hsets _ (List.mem_of_getElem? (i := 5) rfl))
  obtain ⟨cs, ecs⟩ := exa_v xcs
  have S0 : Sta s s.heap "java/nio/charset/StandardCharsets" "ISO_8859_1" "Ljava/nio/charset/Charset;" (.ref cs) := Sta.start ecs (Or.inl (hsets _ (List.mem_of_getElem? (i := 1) rfl)))
  have xis := Cond.before_iff.mp (hsets _ (List.mem_of_getElem? (i := 20) rfl))
  obtain ⟨cs2, ecs2⟩ := exa_v xis
  have ecq : cs2 = cs := by
    have q := gotT (eq_R ecs ecs2 rfl rfl) (Cond.before_iff.mp (hsets _ (List.mem_of_getElem? (i := 4) rfl)))
    exact (Value.ref.inj q).symm
  subst ecq
  have S2 : Sta s s.heap "sun/nio/cs/ISO_8859_1" "INSTANCE" "Lsun/nio/cs/ISO_8859_1;" (.ref cs2) := Sta.start ecs2 (Or.inl (hsets _ (List.mem_of_getElem? (i := 3) rfl)))
  have xu8 := Cond.before_iff.mp (hsets _ (List.mem_of_getElem? (i := 17) rfl))
  obtain ⟨u8, eu8⟩ := exa_v xu8
  have S1 : Sta s s.heap "sun/nio/cs/UTF_8" "INSTANCE" "Lsun/nio/cs/UTF_8;" (.ref u8) := Sta.start eu8 (Or.inl (hsets _ (List.mem_of_getElem? (i := 16) rfl)))
  have hcu : cs2 ≠ u8 := ne_exa (Exa.start ecs2 xis) (Exa.start eu8 xu8) (by decide)
  obtain ⟨x0, y0⟩ := and_e hn
  obtain ⟨x1, y1⟩ := and_e y0
  obtain ⟨nn, enn⟩ := exa_v x1
  have Sn : Sta s s.heap "com/example/earmark/earmark/ledger/RowIndex" "NONE" "[I" (.ref nn) := Sta.start enn (Or.inr ⟨(hw _ (List.mem_of_getElem? (i := 56) rfl)), (hw _ (List.mem_of_getElem? (i := 74) rfl))⟩)
  have En : Exa s s.heap nn "[I" := Exa.start enn x1
  have hheld : CHv s consts_1 s.vm s.heap := CHv.start (own_EL hw) hcalls.1 (hsets _ (List.mem_of_getElem? (i := 8) rfl)) (hw _ (List.mem_of_getElem? (i := 10) rfl)) (hw _ (List.mem_of_getElem? (i := 9) rfl))
  obtain ⟨i0, ei0⟩ := isL_v ga0
  obtain rfl : w0 = (.long i0) := Option.some.inj ei0
  obtain ⟨i1, ei1⟩ := isL_v ga1
  obtain rfl : w1 = (.long i1) := Option.some.inj ei1
  obtain ⟨i2, ei2⟩ := isL_v ga2
  obtain rfl : w2 = (.long i2) := Option.some.inj ei2
  obtain ⟨i3, ei3⟩ := isL_v ga3
  obtain rfl : w3 = (.long i3) := Option.some.inj ei3
  obtain ⟨i4, ei4⟩ := isL_v ga4
  obtain rfl : w4 = (.long i4) := Option.some.inj ei4
  obtain ⟨i5, ei5⟩ := is_v gr4
  obtain rfl : w5 = (.int i5) := Option.some.inj ei5
  obtain ⟨n, o, h1, h2, h3, _, L, rfl, ⟨rfl, N⟩, hq⟩ := rm0 l s _ hw tables_1 i0 i1 i2 i3 i4 i5 zc cs2 u8 nn s.heap s.heap.size (Nat.le_refl _) (Old.start s) S8 c9 S1 S2 hcu S0 Sn En p e ha hc hk s m _ below hf ((Spec.applies_iff_loose hf).mp happ).1 ⟨rfl, State.Warmed39.refl s, rfl, hheld⟩ trivial
  refine ⟨n, _, h1, h2, h3, hpost _ _ _ _ _ _ ⟨Cond.after_iff.mpr rfl, Cond.after_iff.mpr (eq_i res_at (Term.int_eval (1)) rfl), trivial⟩ ⟨hq.1, hq.2.1, hq.2.2.1, (hq.2.2.2.sift fun y hy => Or.inr (N y hy)).mono (by decide) (by decide)⟩⟩
theorem main_1_1 : Claimed_1_1 := comes_1 fun _ _ _ _ _ _ h hF => ⟨h.1, hF⟩
theorem main_1_2 : Claimed_1_2 := comes_1 fun _ _ _ _ _ _ h hF => ⟨h.2.1, hF⟩
end Jvm.Pilot.@@N@@
namespace Jvm.Pilot.@@N@@
open Jvm Jvm.ClassFile Sem Op Lib Jvm.Free Jvm.Stand Jvm.Pilot.@@N@@.Jvm.D
/-! MADE BY PROGRAM (witnessworld.py) out of the Statement's table words and the real class files: 39 classes; the members and pool entries that the words name. The judged class is class 1, her method 1. -/
namespace start1
open Jvm.ClassFile
def u (s : String) : CpInfo := .utf8 (stringToUtf16 s)
/-- a pool by its gaps: so many unusable entries, then the entry; so many at the end -/
def gap : Nat → List CpInfo → List CpInfo
  | 0, r => r
  | n + 1, r => .unusable :: gap n r
def poolList (es : List (Nat × CpInfo)) (last : Nat) : List CpInfo := es.foldr (fun e r => gap e.1 (e.2 :: r)) (gap last [])
def pool (es : List (Nat × CpInfo)) (last : Nat) : Array CpInfo := ⟨poolList es last⟩
def fileOf (pool : Array CpInfo) (this : Nat) (attrs : Array Attribute := #[]) (ms : Array MethodInfo := #[]) (fl : Nat := 33) (sup : Nat := 0) (ifs : Array Nat := #[]) (fds : Array FieldInfo := #[]) : ClassFile where
  minorVersion := 0
  majorVersion := 65
  constantPool := pool
  accessFlags := fl
  thisClass := this
  superClass := sup
  interfaces := ifs
  fields := fds
  methods := ms
  attributes := attrs
def plain (name : String) (sup : Option ClassId) : Class where
  name := name
  kind := .ordinary
  loader := none
  accessFlags := 33
  super := sup
  interfaces := #[]
  cf := none
  fields := #[]
  methods := #[]
  instanceTypes := #[]
  staticTypes := #[]
  resolved := #[]
  callSites := []
  init := .initialized
  statics := none
  mirror := none

def pool0 : Array CpInfo := pool [(5, u "<init>"), (0, u "()V"), (1, .class_ 10), (1, u "java/lang/Object"), (85, u "clone"), (0, u "()Ljava/lang/Object;")] 26

def k0c0 : Code := { maxStack := 0, maxLocals := 1, code := object_method_1_code, exceptionTable := #[], attributes := #[] }
def k0m0 : Method := { name := "<init>", desc := "()V", sig := { parameters := [], returnType := none }, accessFlags := 1, code := some k0c0 }
def k0m1 : Method := { name := "clone", desc := "()Ljava/lang/Object;", sig := { parameters := [], returnType := some (.object "java/lang/Object") }, accessFlags := 260, code := none }
/-- java/lang/Object -/
def k0 : Class := { plain "java/lang/Object" none with
  accessFlags := 33
  interfaces := #[]
  cf := some (fileOf pool0 8 #[] #[{ accessFlags := 1, nameIndex := 5, descriptorIndex := 6, attributes := #[] }, { accessFlags := 260, nameIndex := 96, descriptorIndex := 97, attributes := #[] }] 33 0 #[] #[])
  fields := #[]
  methods := #[k0m0, k0m1]
  instanceTypes := #[]
  staticTypes := #[]
  resolved := Array.replicate 124 none
  statics := none }

def pool1 : Array CpInfo := pool [(2, .class_ 4), (1, u "java/lang/Object"), (0, u "<init>"), (0, u "()V"), (0, .methodref 8 9), (0, .class_ 10), (0, .nameAndType 11 12), (0, u "com/example/earmark/earmark/ledger/HoldStatesBatchClosedPinLaw"), (0, u "pick"), (0, u "(IJJJJ)J"), (0, .class_ 14), (0, u "com/example/earmark/earmark/ledger/HoldStates"), (0, .string 16), (0, u "h"), (0, .methodref 13 18), (0, .nameAndType 5 19), (0, u "(Ljava/lang/String;)V"), (0, .methodref 13 21), (0, .nameAndType 22 23), (0, u "passBatch"), (0, u "(J)V"), (0, .methodref 13 25), (0, .nameAndType 26 23), (0, u "batchClosed"), (0, .methodref 13 28), (0, .nameAndType 29 30), (0, u "hasPassed"), (0, u "(J)Z"), (2, u "law"), (0, u "(JJJJJI)Z")] 3

def k1m0 : Method := { name := "<init>", desc := "()V", sig := { parameters := [], returnType := none }, accessFlags := 1, code := none }
def k1c1 : Code := { maxStack := 9, maxLocals := 20, code := code, exceptionTable := #[], attributes := #[] }
def k1m1 : Method := { name := "law", desc := "(JJJJJI)Z", sig := { parameters := [.long, .long, .long, .long, .long, .int], returnType := some .boolean }, accessFlags := 9, code := some k1c1 }
def k1c2 : Code := { maxStack := 2, maxLocals := 9, code := method_3_code, exceptionTable := #[], attributes := #[] }
def k1m2 : Method := { name := "pick", desc := "(IJJJJ)J", sig := { parameters := [.int, .long, .long, .long, .long], returnType := some .long }, accessFlags := 10, code := some k1c2 }
/-- com/example/earmark/earmark/ledger/HoldStatesBatchClosedPinLaw -/
def k1 : Class := { plain "com/example/earmark/earmark/ledger/HoldStatesBatchClosedPinLaw" (some 0) with
  accessFlags := 49
  interfaces := #[]
  cf := some (fileOf pool1 8 #[] #[{ accessFlags := 1, nameIndex := 5, descriptorIndex := 6, attributes := #[] }, { accessFlags := 9, nameIndex := 33, descriptorIndex := 34, attributes := #[] }, { accessFlags := 10, nameIndex := 11, descriptorIndex := 12, attributes := #[] }] 49 2 #[] #[])
  fields := #[]
  methods := #[k1m0, k1m1, k1m2]
  instanceTypes := #[]
  staticTypes := #[]
  resolved := Array.replicate 38 none
  statics := none }

def pool2 : Array CpInfo := pool [(1, .class_ 2), (0, u "com/example/earmark/earmark/ledger/Register$States"), (0, .class_ 4), (0, u "java/lang/Object"), (26, .class_ 32), (0, u "com/example/earmark/earmark/ledger/Register")] 2

/-- com/example/earmark/earmark/ledger/Register$States -/
def k2 : Class := { plain "com/example/earmark/earmark/ledger/Register$States" (some 0) with
  accessFlags := 1536
  interfaces := #[]
  cf := some (fileOf pool2 1 #[.nestHost 31] #[] 1536 3 #[] #[])
  fields := #[]
  methods := #[]
  instanceTypes := #[]
  staticTypes := #[]
  resolved := Array.replicate 35 none
  statics := none }

def pool3 : Array CpInfo := pool [(1, .class_ 2), (0, u "com/example/earmark/earmark/ledger/HoldStates"), (2, .methodref 6 7), (0, .class_ 8), (0, .nameAndType 9 10), (0, u "java/lang/Object"), (0, u "<init>"), (0, u "()V"), (0, .class_ 12), (0, u "com/example/earmark/earmark/ledger/HoldStates$Chunk"), (0, .methodref 11 14), (0, .nameAndType 9 15), (0, u "(I)V"), (0, .fieldref 1 17), (0, .nameAndType 18 19), (0, u "chunks"), (0, u "[Lcom/example/earmark/earmark/ledger/HoldStates$Chunk;"), (0, .class_ 21), (0, u "com/example/earmark/earmark/ledger/RowIndex"), (0, .invokeDynamic 0 23), (0, .nameAndType 24 25), (0, u "hash"), (0, u "(Lcom/example/earmark/earmark/ledger/HoldStates;)Lcom/example/earmark/earmark/ledger/RowIndex$Hashes;"), (0, .methodref 20 27), (0, .nameAndType 9 28), (0, u "(ILcom/example/earmark/earmark/ledger/RowIndex$Hashes;)V"), (0, .fieldref 1 30), (0, .nameAndType 31 32), (0, u "index"), (0, u "Lcom/example/earmark/earmark/ledger/RowIndex;"), (0, .class_ 34), (0, u "java/util/HashMap"), (0, .methodref 33 7), (0, .fieldref 1 37), (0, .nameAndType 38 39), (0, u "otherNumbers"), (0, u "Ljava/util/Map;"), (0, .fieldref 1 41), (0, .nameAndType 42 39), (0, u "otherIds"), (0, .class_ 44), (0, u "[J"), (0, .fieldref 1 46), (0, .nameAndType 47 48), (0, u "batched"), (0, u "[[J"), (0, .fieldref 1 50), (0, .nameAndType 51 44), (0, u "passed"), (0, .fieldref 1 53), (0, .nameAndType 54 55), (0, u "prefix"), (0, u "Ljava/lang/String;"), (0, .fieldref 57 58), (0, .class_ 59), (0, .nameAndType 60 61), (0, u "java/nio/charset/StandardCharsets"), (0, u "ISO_8859_1"), (0, u "Ljava/nio/charset/Charset;"), (0, .methodref 63 64), (0, .class_ 65), (0, .nameAndType 66 67), (0, u "java/lang/String"), (0, u "getBytes"), (0, u "(Ljava/nio/charset/Charset;)[B"), (0, .fieldref 1 69), (0, .nameAndType 70 71), (0, u "prefixText"), (0, u "[B"), (62, u "TAKEN_BACK"), (0, u "Ljava/lang/Object;"), (3, .fieldref 1 140), (0, .nameAndType 141 142), (0, u "passedCount"), (0, u "I"), (20, u "rows"), (1, .class_ 167), (1, u "java/util/Arrays"), (0, u "copyOf"), (85, u "EXPIRED"), (10, .class_ 266), (0, u "com/example/earmark/earmark/ledger/HoldStates$Chunks"), (21, .class_ 289), (0, u "com/example/earmark/earmark/ledger/HoldStates$Listed"), (3, .class_ 294), (0, u "com/example/earmark/earmark/ledger/HoldStates$ExpiredRows"), (9, .methodref 165 305), (0, .nameAndType 168 306), (0, u "([JI)[J"), (8, u "hasPassed"), (0, u "(J)Z"), (49, u "HEX"), (53, .class_ 421), (0, u "com/example/earmark/earmark/ledger/Register$States"), (0, u "CHUNK_BITS"), (2, u "CHUNK_ROWS"), (1, u "FIRST_ROWS"), (1, u "NEVER"), (0, u "J"), (0, u "HEX_DIGITS"), (1, u "INDEX_BITS"), (4, u "(Ljava/lang/String;)V"), (12, u "passBatch"), (0, u "(J)V"), (0, u "batchClosed"), (14, u "lambda$new$0"), (0, u "(I)I"), (5, .class_ 476), (0, u "com/example/earmark/earmark/ledger/HoldStates$Keys"), (0, .class_ 478), (0, u "com/example/earmark/earmark/ledger/HoldStates$ByExpiry"), (0, .class_ 480), (0, u "com/example/earmark/earmark/ledger/HoldStates$Frozen"), (0, .class_ 482), (0, u "com/example/earmark/earmark/ledger/HoldStates$Rows"), (1, .methodType 469), (0, .methodHandle 5 486), (0, .methodref 1 487), (0, .nameAndType 468 469), (4, .methodHandle 6 493), (0, .methodref 494 495), (0, .class_ 496), (0, .nameAndType 497 498), (0, u "java/lang/invoke/LambdaMetafactory"), (0, u "metafactory"), (0, u "(Ljava/lang/invoke/MethodHandles$Lookup;Ljava/lang/String;Ljava/lang/invoke/MethodType;Ljava/lang/invoke/MethodType;Ljava/lang/invoke/MethodHandle;Ljava/lang/invoke/MethodType;)Ljava/lang/invoke/CallSite;")] 21

def k3c0 : Code := { maxStack := 7, maxLocals := 2, code := prog_73_method_1_code, exceptionTable := #[], attributes := #[] }
def k3m0 : Method := { name := "<init>", desc := "(Ljava/lang/String;)V", sig := { parameters := [(.object "java/lang/String")], returnType := none }, accessFlags := 0, code := some k3c0 }
def k3c1 : Code := { maxStack := 5, maxLocals := 3, code := prog_73_method_19_code, exceptionTable := #[], attributes := #[] }
def k3m1 : Method := { name := "passBatch", desc := "(J)V", sig := { parameters := [.long], returnType := none }, accessFlags := 0, code := some k3c1 }
def k3c2 : Code := { maxStack := 4, maxLocals := 4, code := prog_73_method_20_code, exceptionTable := #[], attributes := #[] }
def k3m2 : Method := { name := "hasPassed", desc := "(J)Z", sig := { parameters := [.long], returnType := some .boolean }, accessFlags := 0, code := some k3c2 }
def k3c3 : Code := { maxStack := 6, maxLocals := 4, code := prog_73_method_21_code, exceptionTable := #[], attributes := #[] }
def k3m3 : Method := { name := "batchClosed", desc := "(J)V", sig := { parameters := [.long], returnType := none }, accessFlags := 0, code := some k3c3 }
def k3c4 : Code := { maxStack := 4, maxLocals := 2, code := ⟨#[0x2a, 0x1b, 0xb6, 0x00, 0x7c, 0x1b, 0xb6, 0x01, 0x99, 0x2a, 0x1b, 0xb6, 0x00, 0x7c, 0x1b, 0xb6, 0x01, 0x9c, 0xb8, 0x00, 0x69, 0xac]⟩, exceptionTable := #[], attributes := #[] }
def k3m4 : Method := { name := "lambda$new$0", desc := "(I)I", sig := { parameters := [.int], returnType := some .int }, accessFlags := 4098, code := some k3c4 }
/-- com/example/earmark/earmark/ledger/HoldStates -/
def k3 : Class := { plain "com/example/earmark/earmark/ledger/HoldStates" (some 0) with
  accessFlags := 48
  interfaces := #[2]
  cf := some (fileOf pool3 1 #[.nestMembers #[475, 477, 293, 479, 288, 265, 481, 11], .bootstrapMethods #[⟨492, #[484, 485, 484]⟩, ⟨0, #[]⟩]] #[{ accessFlags := 0, nameIndex := 9, descriptorIndex := 438, attributes := #[] }, { accessFlags := 0, nameIndex := 451, descriptorIndex := 452, attributes := #[] }, { accessFlags := 0, nameIndex := 315, descriptorIndex := 316, attributes := #[] }, { accessFlags := 0, nameIndex := 453, descriptorIndex := 452, attributes := #[] }, { accessFlags := 4098, nameIndex := 468, descriptorIndex := 469, attributes := #[] }] 48 6 #[420] #[{ accessFlags := 26, nameIndex := 422, descriptorIndex := 142, attributes := #[] }, { accessFlags := 26, nameIndex := 425, descriptorIndex := 142, attributes := #[] }, { accessFlags := 26, nameIndex := 427, descriptorIndex := 142, attributes := #[] }, { accessFlags := 26, nameIndex := 429, descriptorIndex := 430, attributes := #[] }, { accessFlags := 26, nameIndex := 134, descriptorIndex := 135, attributes := #[] }, { accessFlags := 26, nameIndex := 254, descriptorIndex := 135, attributes := #[] }, { accessFlags := 26, nameIndex := 431, descriptorIndex := 142, attributes := #[] }, { accessFlags := 26, nameIndex := 433, descriptorIndex := 142, attributes := #[] }, { accessFlags := 26, nameIndex := 366, descriptorIndex := 71, attributes := #[] }, { accessFlags := 18, nameIndex := 54, descriptorIndex := 55, attributes := #[] }, { accessFlags := 18, nameIndex := 70, descriptorIndex := 71, attributes := #[] }, { accessFlags := 2, nameIndex := 18, descriptorIndex := 19, attributes := #[] }, { accessFlags := 2, nameIndex := 163, descriptorIndex := 142, attributes := #[] }, { accessFlags := 18, nameIndex := 31, descriptorIndex := 32, attributes := #[] }, { accessFlags := 18, nameIndex := 38, descriptorIndex := 39, attributes := #[] }, { accessFlags := 18, nameIndex := 42, descriptorIndex := 39, attributes := #[] }, { accessFlags := 2, nameIndex := 47, descriptorIndex := 48, attributes := #[] }, { accessFlags := 2, nameIndex := 51, descriptorIndex := 44, attributes := #[] }, { accessFlags := 2, nameIndex := 141, descriptorIndex := 142, attributes := #[] }])
  fields := #[{ name := "CHUNK_BITS", type := .int, accessFlags := 26, slot := 0, constantValue := 0 }, { name := "CHUNK_ROWS", type := .int, accessFlags := 26, slot := 1, constantValue := 0 }, { name := "FIRST_ROWS", type := .int, accessFlags := 26, slot := 2, constantValue := 0 }, { name := "NEVER", type := .long, accessFlags := 26, slot := 3, constantValue := 0 }, { name := "TAKEN_BACK", type := (.object "java/lang/Object"), accessFlags := 26, slot := 4, constantValue := 0 }, { name := "EXPIRED", type := (.object "java/lang/Object"), accessFlags := 26, slot := 5, constantValue := 0 }, { name := "HEX_DIGITS", type := .int, accessFlags := 26, slot := 6, constantValue := 0 }, { name := "INDEX_BITS", type := .int, accessFlags := 26, slot := 7, constantValue := 0 }, { name := "HEX", type := (.array .byte), accessFlags := 26, slot := 8, constantValue := 0 }, { name := "prefix", type := (.object "java/lang/String"), accessFlags := 18, slot := 0, constantValue := 0 }, { name := "prefixText", type := (.array .byte), accessFlags := 18, slot := 1, constantValue := 0 }, { name := "chunks", type := (.array (.object "com/example/earmark/earmark/ledger/HoldStates$Chunk")), accessFlags := 2, slot := 2, constantValue := 0 }, { name := "rows", type := .int, accessFlags := 2, slot := 3, constantValue := 0 }, { name := "index", type := (.object "com/example/earmark/earmark/ledger/RowIndex"), accessFlags := 18, slot := 4, constantValue := 0 }, { name := "otherNumbers", type := (.object "java/util/Map"), accessFlags := 18, slot := 5, constantValue := 0 }, { name := "otherIds", type := (.object "java/util/Map"), accessFlags := 18, slot := 6, constantValue := 0 }, { name := "batched", type := (.array (.array .long)), accessFlags := 2, slot := 7, constantValue := 0 }, { name := "passed", type := (.array .long), accessFlags := 2, slot := 8, constantValue := 0 }, { name := "passedCount", type := .int, accessFlags := 2, slot := 9, constantValue := 0 }]
  methods := #[k3m0, k3m1, k3m2, k3m3, k3m4]
  instanceTypes := #[(.object "java/lang/String"), (.array .byte), (.array (.object "com/example/earmark/earmark/ledger/HoldStates$Chunk")), .int, (.object "com/example/earmark/earmark/ledger/RowIndex"), (.object "java/util/Map"), (.object "java/util/Map"), (.array (.array .long)), (.array .long), .int]
  staticTypes := #[.int, .int, .int, .long, (.object "java/lang/Object"), (.object "java/lang/Object"), .int, .int, (.array .byte)]
  resolved := ((Array.replicate 520 none).setIfInBounds 11 (some (.cls 10))).setIfInBounds 13 (some (.method ⟨10, 0⟩))
  callSites := [(0, 32, .makes 38)]
  statics := none }

def pool4 : Array CpInfo := pool [(1, .class_ 2), (0, u "java/io/Serializable"), (0, .class_ 4), (0, u "java/lang/Object")] 2

/-- java/io/Serializable -/
def k4 : Class := { plain "java/io/Serializable" (some 0) with
  accessFlags := 1537
  interfaces := #[]
  cf := some (fileOf pool4 1 #[] #[] 1537 3 #[] #[])
  fields := #[]
  methods := #[]
  instanceTypes := #[]
  staticTypes := #[]
  resolved := Array.replicate 7 none
  statics := none }

def pool5 : Array CpInfo := pool [(1, .class_ 2), (0, u "java/lang/Comparable"), (0, .class_ 4), (0, u "java/lang/Object")] 7

/-- java/lang/Comparable -/
def k5 : Class := { plain "java/lang/Comparable" (some 0) with
  accessFlags := 1537
  interfaces := #[]
  cf := some (fileOf pool5 1 #[] #[] 1537 3 #[] #[])
  fields := #[]
  methods := #[]
  instanceTypes := #[]
  staticTypes := #[]
  resolved := Array.replicate 12 none
  statics := none }

def pool6 : Array CpInfo := pool [(2, .class_ 4), (1, u "java/lang/CharSequence"), (42, .class_ 48), (0, u "java/lang/CharSequence$1CodePointIterator"), (10, .class_ 60), (0, u "java/lang/CharSequence$1CharIterator"), (5, .class_ 67), (0, u "java/lang/Object")] 63

/-- java/lang/CharSequence -/
def k6 : Class := { plain "java/lang/CharSequence" (some 0) with
  accessFlags := 1537
  interfaces := #[]
  cf := some (fileOf pool6 2 #[.nestMembers #[47, 59]] #[] 1537 66 #[] #[])
  fields := #[]
  methods := #[]
  instanceTypes := #[]
  staticTypes := #[]
  resolved := Array.replicate 131 none
  statics := none }

def pool7 : Array CpInfo := pool [(1, .class_ 2), (0, u "java/lang/constant/Constable"), (0, .class_ 4), (0, u "java/lang/Object")] 6

/-- java/lang/constant/Constable -/
def k7 : Class := { plain "java/lang/constant/Constable" (some 0) with
  accessFlags := 1537
  interfaces := #[]
  cf := some (fileOf pool7 1 #[] #[] 1537 3 #[] #[])
  fields := #[]
  methods := #[]
  instanceTypes := #[]
  staticTypes := #[]
  resolved := Array.replicate 11 none
  statics := none }

def pool8 : Array CpInfo := pool [(1, .class_ 2), (0, u "java/lang/constant/ConstantDesc"), (0, .class_ 4), (0, u "java/lang/Object")] 32

/-- java/lang/constant/ConstantDesc -/
def k8 : Class := { plain "java/lang/constant/ConstantDesc" (some 0) with
  accessFlags := 1537
  interfaces := #[]
  cf := some (fileOf pool8 1 #[] #[] 1537 3 #[] #[])
  fields := #[]
  methods := #[]
  instanceTypes := #[]
  staticTypes := #[]
  resolved := Array.replicate 37 none
  statics := none }

def pool9 : Array CpInfo := pool [(2, .class_ 4), (1, u "java/lang/Object"), (0, u "<init>"), (0, u "()V"), (2, .fieldref 10 11), (0, .class_ 12), (0, .nameAndType 13 14), (0, u "java/lang/String"), (0, u "value"), (0, u "[B"), (0, .fieldref 10 16), (0, .nameAndType 17 18), (0, u "coder"), (0, u "B"), (2, u "hash"), (0, u "I"), (2, u "hashIsZero"), (0, u "Z"), (11, .fieldref 10 39), (0, .nameAndType 40 26), (0, u "COMPACT_STRINGS"), (45, .fieldref 87 88), (0, .class_ 89), (0, .nameAndType 90 91), (0, u "sun/nio/cs/UTF_8"), (0, u "INSTANCE"), (0, u "Lsun/nio/cs/UTF_8;"), (24, .fieldref 117 118), (0, .class_ 119), (0, .nameAndType 90 120), (0, u "sun/nio/cs/ISO_8859_1"), (0, u "Lsun/nio/cs/ISO_8859_1;"), (134, u "(B[BZ)[B"), (0, .methodref 10 257), (0, .nameAndType 258 259), (0, u "encode8859_1"), (0, u "(B[B)[B"), (19, .methodref 280 281), (0, .class_ 14), (0, .nameAndType 282 283), (0, u "clone"), (0, u "()Ljava/lang/Object;"), (33, u "encode"), (17, .methodref 10 336), (0, .nameAndType 17 337), (0, u "()B"), (13, .methodref 10 352), (0, .nameAndType 258 255), (179, u "getBytes"), (2, .methodref 10 536), (0, .nameAndType 317 537), (0, u "(Ljava/nio/charset/Charset;B[B)[B"), (37, .class_ 576), (0, u "java/lang/CharSequence"), (22, u "CASE_INSENSITIVE_ORDER"), (0, u "Ljava/util/Comparator;"), (500, u "serialPersistentFields"), (0, u "[Ljava/io/ObjectStreamField;"), (0, .class_ 1104), (0, u "java/lang/String$CaseInsensitiveComparator"), (1, .class_ 1107), (0, u "java/io/Serializable"), (0, .class_ 1109), (0, u "java/lang/Comparable"), (0, .class_ 1111), (0, u "java/lang/constant/Constable"), (0, .class_ 1113), (0, u "java/lang/constant/ConstantDesc"), (2, u "serialVersionUID"), (0, u "J"), (3, u "REPL"), (0, u "C"), (2, u "LATIN1"), (1, u "UTF16"), (117, u "(Ljava/nio/charset/Charset;)[B")] 205

def k9m0 : Method := { name := "<init>", desc := "()V", sig := { parameters := [], returnType := none }, accessFlags := 1, code := none }
def k9c1 : Code := { maxStack := 4, maxLocals := 3, code := jdk_42_method_18_code, exceptionTable := #[], attributes := #[] }
def k9m1 : Method := { name := "encode", desc := "(Ljava/nio/charset/Charset;B[B)[B", sig := { parameters := [(.object "java/nio/charset/Charset"), .byte, (.array .byte)], returnType := some (.array .byte) }, accessFlags := 10, code := some k9c1 }
def k9c2 : Code := { maxStack := 3, maxLocals := 2, code := jdk_42_method_26_code, exceptionTable := #[], attributes := #[] }
def k9m2 : Method := { name := "encode8859_1", desc := "(B[B)[B", sig := { parameters := [.byte, (.array .byte)], returnType := some (.array .byte) }, accessFlags := 10, code := some k9c2 }
def k9c3 : Code := { maxStack := 5, maxLocals := 10, code := jdk_42_method_27_code, exceptionTable := #[], attributes := #[] }
def k9m3 : Method := { name := "encode8859_1", desc := "(B[BZ)[B", sig := { parameters := [.byte, (.array .byte), .boolean], returnType := some (.array .byte) }, accessFlags := 10, code := some k9c3 }
def k9c4 : Code := { maxStack := 3, maxLocals := 2, code := jdk_42_method_64_code, exceptionTable := #[], attributes := #[] }
def k9m4 : Method := { name := "getBytes", desc := "(Ljava/nio/charset/Charset;)[B", sig := { parameters := [(.object "java/nio/charset/Charset")], returnType := some (.array .byte) }, accessFlags := 1, code := some k9c4 }
def k9c5 : Code := { maxStack := 1, maxLocals := 1, code := jdk_42_method_152_code, exceptionTable := #[], attributes := #[] }
def k9m5 : Method := { name := "coder", desc := "()B", sig := { parameters := [], returnType := some .byte }, accessFlags := 0, code := some k9c5 }
/-- java/lang/String -/
def k9 : Class := { plain "java/lang/String" (some 0) with
  accessFlags := 49
  interfaces := #[4, 5, 6, 7, 8]
  cf := some (fileOf pool9 10 #[.nestMembers #[1103]] #[{ accessFlags := 1, nameIndex := 5, descriptorIndex := 6, attributes := #[] }, { accessFlags := 10, nameIndex := 317, descriptorIndex := 537, attributes := #[] }, { accessFlags := 10, nameIndex := 258, descriptorIndex := 259, attributes := #[] }, { accessFlags := 10, nameIndex := 258, descriptorIndex := 255, attributes := #[] }, { accessFlags := 1, nameIndex := 532, descriptorIndex := 1245, attributes := #[] }, { accessFlags := 0, nameIndex := 17, descriptorIndex := 337, attributes := #[] }] 49 2 #[1106, 1108, 575, 1110, 1112] #[{ accessFlags := 18, nameIndex := 13, descriptorIndex := 14, attributes := #[] }, { accessFlags := 18, nameIndex := 17, descriptorIndex := 18, attributes := #[] }, { accessFlags := 2, nameIndex := 21, descriptorIndex := 22, attributes := #[] }, { accessFlags := 2, nameIndex := 25, descriptorIndex := 26, attributes := #[] }, { accessFlags := 26, nameIndex := 1116, descriptorIndex := 1117, attributes := #[] }, { accessFlags := 24, nameIndex := 40, descriptorIndex := 26, attributes := #[] }, { accessFlags := 26, nameIndex := 1101, descriptorIndex := 1102, attributes := #[] }, { accessFlags := 26, nameIndex := 1121, descriptorIndex := 1122, attributes := #[] }, { accessFlags := 25, nameIndex := 599, descriptorIndex := 600, attributes := #[] }, { accessFlags := 24, nameIndex := 1125, descriptorIndex := 18, attributes := #[] }, { accessFlags := 24, nameIndex := 1127, descriptorIndex := 18, attributes := #[] }])
  fields := #[{ name := "value", type := (.array .byte), accessFlags := 18, slot := 0, constantValue := 0 }, { name := "coder", type := .byte, accessFlags := 18, slot := 1, constantValue := 0 }, { name := "hash", type := .int, accessFlags := 2, slot := 2, constantValue := 0 }, { name := "hashIsZero", type := .boolean, accessFlags := 2, slot := 3, constantValue := 0 }, { name := "serialVersionUID", type := .long, accessFlags := 26, slot := 0, constantValue := 0 }, { name := "COMPACT_STRINGS", type := .boolean, accessFlags := 24, slot := 1, constantValue := 0 }, { name := "serialPersistentFields", type := (.array (.object "java/io/ObjectStreamField")), accessFlags := 26, slot := 2, constantValue := 0 }, { name := "REPL", type := .char, accessFlags := 26, slot := 3, constantValue := 0 }, { name := "CASE_INSENSITIVE_ORDER", type := (.object "java/util/Comparator"), accessFlags := 25, slot := 4, constantValue := 0 }, { name := "LATIN1", type := .byte, accessFlags := 24, slot := 5, constantValue := 0 }, { name := "UTF16", type := .byte, accessFlags := 24, slot := 6, constantValue := 0 }]
  methods := #[k9m0, k9m1, k9m2, k9m3, k9m4, k9m5]
  instanceTypes := #[(.array .byte), .byte, .int, .boolean]
  staticTypes := #[.long, .boolean, (.array (.object "java/io/ObjectStreamField")), .char, (.object "java/util/Comparator"), .byte, .byte]
  resolved := Array.replicate 1451 none
  statics := some 0 }

def pool10 : Array CpInfo := pool [(1, .class_ 2), (0, u "com/example/earmark/earmark/ledger/HoldStates"), (0, .class_ 4), (0, u "java/lang/String"), (0, .class_ 6), (0, u "java/lang/Object"), (0, .methodref 8 9), (0, .class_ 10), (0, .nameAndType 11 12), (0, u "com/example/earmark/earmark/ledger/HoldStates$Chunk"), (0, u "<init>"), (0, u "([J[J[Ljava/lang/String;[J[J[J[Ljava/lang/Object;)V"), (0, .methodref 5 14), (0, .nameAndType 11 15), (0, u "()V"), (0, .fieldref 8 17), (0, .nameAndType 18 19), (0, u "highs"), (0, u "[J"), (0, .fieldref 8 21), (0, .nameAndType 22 19), (0, u "lows"), (0, .fieldref 8 24), (0, .nameAndType 25 26), (0, u "accountIds"), (0, u "[Ljava/lang/String;"), (0, .fieldref 8 28), (0, .nameAndType 29 19), (0, u "amounts"), (0, .fieldref 8 31), (0, .nameAndType 32 19), (0, u "placedAt"), (0, .fieldref 8 34), (0, .nameAndType 35 19), (0, u "expiresAt"), (0, .fieldref 8 37), (0, .nameAndType 38 39), (0, u "states"), (0, u "[Ljava/lang/Object;"), (55, u "(I)V")] 17

def k10c0 : Code := { maxStack := 8, maxLocals := 2, code := prog_75_method_1_code, exceptionTable := #[], attributes := #[] }
def k10m0 : Method := { name := "<init>", desc := "(I)V", sig := { parameters := [.int], returnType := none }, accessFlags := 2, code := some k10c0 }
def k10c1 : Code := { maxStack := 2, maxLocals := 8, code := prog_75_method_2_code, exceptionTable := #[], attributes := #[] }
def k10m1 : Method := { name := "<init>", desc := "([J[J[Ljava/lang/String;[J[J[J[Ljava/lang/Object;)V", sig := { parameters := [(.array .long), (.array .long), (.array (.object "java/lang/String")), (.array .long), (.array .long), (.array .long), (.array (.object "java/lang/Object"))], returnType := none }, accessFlags := 2, code := some k10c1 }
/-- com/example/earmark/earmark/ledger/HoldStates$Chunk -/
def k10 : Class := { plain "com/example/earmark/earmark/ledger/HoldStates$Chunk" (some 0) with
  accessFlags := 48
  interfaces := #[]
  cf := some (fileOf pool10 8 #[.nestHost 1] #[{ accessFlags := 2, nameIndex := 11, descriptorIndex := 95, attributes := #[] }, { accessFlags := 2, nameIndex := 11, descriptorIndex := 12, attributes := #[] }] 48 5 #[] #[{ accessFlags := 18, nameIndex := 18, descriptorIndex := 19, attributes := #[] }, { accessFlags := 18, nameIndex := 22, descriptorIndex := 19, attributes := #[] }, { accessFlags := 18, nameIndex := 25, descriptorIndex := 26, attributes := #[] }, { accessFlags := 18, nameIndex := 29, descriptorIndex := 19, attributes := #[] }, { accessFlags := 18, nameIndex := 32, descriptorIndex := 19, attributes := #[] }, { accessFlags := 18, nameIndex := 35, descriptorIndex := 19, attributes := #[] }, { accessFlags := 18, nameIndex := 38, descriptorIndex := 39, attributes := #[] }])
  fields := #[{ name := "highs", type := (.array .long), accessFlags := 18, slot := 0, constantValue := 0 }, { name := "lows", type := (.array .long), accessFlags := 18, slot := 1, constantValue := 0 }, { name := "accountIds", type := (.array (.object "java/lang/String")), accessFlags := 18, slot := 2, constantValue := 0 }, { name := "amounts", type := (.array .long), accessFlags := 18, slot := 3, constantValue := 0 }, { name := "placedAt", type := (.array .long), accessFlags := 18, slot := 4, constantValue := 0 }, { name := "expiresAt", type := (.array .long), accessFlags := 18, slot := 5, constantValue := 0 }, { name := "states", type := (.array (.object "java/lang/Object")), accessFlags := 18, slot := 6, constantValue := 0 }]
  methods := #[k10m0, k10m1]
  instanceTypes := #[(.array .long), (.array .long), (.array (.object "java/lang/String")), (.array .long), (.array .long), (.array .long), (.array (.object "java/lang/Object"))]
  staticTypes := #[]
  resolved := Array.replicate 113 none
  statics := none }

def pool11 : Array CpInfo := pool [(1, .methodref 2 3), (0, .class_ 4), (0, .nameAndType 5 6), (0, u "java/lang/Object"), (0, u "<init>"), (0, u "()V"), (0, .fieldref 8 9), (0, .class_ 10), (0, .nameAndType 11 12), (0, u "com/example/earmark/earmark/ledger/RowIndex"), (0, u "partBits"), (0, u "I"), (0, .fieldref 8 14), (0, .nameAndType 15 16), (0, u "hashes"), (0, u "Lcom/example/earmark/earmark/ledger/RowIndex$Hashes;"), (0, .class_ 18), (0, u "[I"), (0, .fieldref 8 20), (0, .nameAndType 21 22), (0, u "parts"), (0, u "[[I"), (0, .fieldref 8 24), (0, .nameAndType 25 18), (0, u "NONE"), (0, .methodref 27 28), (0, .class_ 29), (0, .nameAndType 30 31), (0, u "java/util/Arrays"), (0, u "fill"), (0, u "([Ljava/lang/Object;Ljava/lang/Object;)V"), (0, .fieldref 8 33), (0, .nameAndType 34 18), (0, u "sizes"), (18, .class_ 55), (1, u "com/example/earmark/earmark/ledger/RowIndex$Hashes"), (32, u "FIRST_SLOTS"), (2, u "(ILcom/example/earmark/earmark/ledger/RowIndex$Hashes;)V")] 32

def k11c0 : Code := { maxStack := 3, maxLocals := 3, code := prog_113_method_1_code, exceptionTable := #[], attributes := #[] }
def k11m0 : Method := { name := "<init>", desc := "(ILcom/example/earmark/earmark/ledger/RowIndex$Hashes;)V", sig := { parameters := [.int, (.object "com/example/earmark/earmark/ledger/RowIndex$Hashes")], returnType := none }, accessFlags := 0, code := some k11c0 }
/-- com/example/earmark/earmark/ledger/RowIndex -/
def k11 : Class := { plain "com/example/earmark/earmark/ledger/RowIndex" (some 0) with
  accessFlags := 48
  interfaces := #[]
  cf := some (fileOf pool11 8 #[.nestMembers #[53]] #[{ accessFlags := 0, nameIndex := 5, descriptorIndex := 91, attributes := #[] }] 48 2 #[] #[{ accessFlags := 26, nameIndex := 88, descriptorIndex := 12, attributes := #[] }, { accessFlags := 26, nameIndex := 25, descriptorIndex := 18, attributes := #[] }, { accessFlags := 18, nameIndex := 11, descriptorIndex := 12, attributes := #[] }, { accessFlags := 18, nameIndex := 15, descriptorIndex := 16, attributes := #[] }, { accessFlags := 18, nameIndex := 21, descriptorIndex := 22, attributes := #[] }, { accessFlags := 18, nameIndex := 34, descriptorIndex := 18, attributes := #[] }])
  fields := #[{ name := "FIRST_SLOTS", type := .int, accessFlags := 26, slot := 0, constantValue := 0 }, { name := "NONE", type := (.array .int), accessFlags := 26, slot := 1, constantValue := 0 }, { name := "partBits", type := .int, accessFlags := 18, slot := 0, constantValue := 0 }, { name := "hashes", type := (.object "com/example/earmark/earmark/ledger/RowIndex$Hashes"), accessFlags := 18, slot := 1, constantValue := 0 }, { name := "parts", type := (.array (.array .int)), accessFlags := 18, slot := 2, constantValue := 0 }, { name := "sizes", type := (.array .int), accessFlags := 18, slot := 3, constantValue := 0 }]
  methods := #[k11m0]
  instanceTypes := #[.int, (.object "com/example/earmark/earmark/ledger/RowIndex$Hashes"), (.array (.array .int)), (.array .int)]
  staticTypes := #[.int, (.array .int)]
  resolved := Array.replicate 124 none
  statics := some 1 }

def pool12 : Array CpInfo := pool [(1, .class_ 2), (0, u "com/example/earmark/earmark/ledger/RowIndex$Hashes"), (0, .class_ 4), (0, u "java/lang/Object"), (0, u "hash"), (0, u "(I)I"), (5, .class_ 13), (0, u "com/example/earmark/earmark/ledger/RowIndex")] 2

def k12m0 : Method := { name := "hash", desc := "(I)I", sig := { parameters := [.int], returnType := some .int }, accessFlags := 1025, code := none }
/-- com/example/earmark/earmark/ledger/RowIndex$Hashes -/
def k12 : Class := { plain "com/example/earmark/earmark/ledger/RowIndex$Hashes" (some 0) with
  accessFlags := 1536
  interfaces := #[]
  cf := some (fileOf pool12 1 #[.nestHost 12] #[{ accessFlags := 1025, nameIndex := 5, descriptorIndex := 6, attributes := #[] }] 1536 3 #[] #[])
  fields := #[]
  methods := #[k12m0]
  instanceTypes := #[]
  staticTypes := #[]
  resolved := Array.replicate 16 none
  statics := none }

def pool13 : Array CpInfo := pool [(2, .class_ 4), (1, u "java/lang/Object"), (0, u "<init>"), (0, u "()V"), (7, .class_ 16), (1, u "java/util/Arrays"), (57, .class_ 76), (1, u "java/util/Arrays$NaturalOrder"), (36, .class_ 115), (1, u "java/util/Arrays$LegacyMergeSort"), (1, u "Z"), (32, .methodref 151 152), (0, .class_ 153), (0, .nameAndType 154 155), (0, u "java/lang/System"), (0, u "arraycopy"), (0, u "(Ljava/lang/Object;ILjava/lang/Object;II)V"), (146, u "copyOf"), (1, .methodref 305 306), (0, .class_ 307), (0, .nameAndType 308 309), (0, u "java/lang/Math"), (0, u "min"), (0, u "(II)I"), (65, .class_ 376), (0, u "java/util/Arrays$ArrayList"), (68, u "$assertionsDisabled"), (269, u "MIN_ARRAY_SORT_GRAN"), (0, u "I"), (2, u "INSERTIONSORT_THRESHOLD"), (120, u "fill"), (17, u "([Ljava/lang/Object;Ljava/lang/Object;)V"), (13, u "([JI)[J"), (102, .class_ 976), (0, u "java/util/Arrays$ArrayItr")] 52

def k13m0 : Method := { name := "<init>", desc := "()V", sig := { parameters := [], returnType := none }, accessFlags := 2, code := none }
def k13c1 : Code := { maxStack := 3, maxLocals := 4, code := jdk_65_method_117_code, exceptionTable := #[], attributes := #[] }
def k13m1 : Method := { name := "fill", desc := "([Ljava/lang/Object;Ljava/lang/Object;)V", sig := { parameters := [(.array (.object "java/lang/Object")), (.object "java/lang/Object")], returnType := none }, accessFlags := 9, code := some k13c1 }
def k13c2 : Code := { maxStack := 6, maxLocals := 3, code := jdk_65_method_124_code, exceptionTable := #[], attributes := #[] }
def k13m2 : Method := { name := "copyOf", desc := "([JI)[J", sig := { parameters := [(.array .long), .int], returnType := some (.array .long) }, accessFlags := 9, code := some k13c2 }
/-- java/util/Arrays -/
def k13 : Class := { plain "java/util/Arrays" (some 0) with
  accessFlags := 49
  interfaces := #[]
  cf := some (fileOf pool13 14 #[.nestMembers #[975, 375, 113, 74]] #[{ accessFlags := 2, nameIndex := 5, descriptorIndex := 6, attributes := #[] }, { accessFlags := 9, nameIndex := 840, descriptorIndex := 858, attributes := #[] }, { accessFlags := 9, nameIndex := 302, descriptorIndex := 872, attributes := #[] }] 49 2 #[] #[{ accessFlags := 26, nameIndex := 715, descriptorIndex := 716, attributes := #[] }, { accessFlags := 26, nameIndex := 719, descriptorIndex := 716, attributes := #[] }, { accessFlags := 4120, nameIndex := 445, descriptorIndex := 117, attributes := #[] }])
  fields := #[{ name := "MIN_ARRAY_SORT_GRAN", type := .int, accessFlags := 26, slot := 0, constantValue := 0 }, { name := "INSERTIONSORT_THRESHOLD", type := .int, accessFlags := 26, slot := 1, constantValue := 0 }, { name := "$assertionsDisabled", type := .boolean, accessFlags := 4120, slot := 2, constantValue := 0 }]
  methods := #[k13m0, k13m1, k13m2]
  instanceTypes := #[]
  staticTypes := #[.int, .int, .boolean]
  resolved := Array.replicate 1029 none
  statics := none }

def pool14 : Array CpInfo := pool [(2, .class_ 4), (1, u "java/util/Map"), (31, .class_ 37), (0, u "java/util/Map$Entry"), (55, .class_ 94), (0, u "java/lang/Object")] 168

/-- java/util/Map -/
def k14 : Class := { plain "java/util/Map" (some 0) with
  accessFlags := 1537
  interfaces := #[]
  cf := some (fileOf pool14 2 #[.nestMembers #[36]] #[] 1537 93 #[] #[])
  fields := #[]
  methods := #[]
  instanceTypes := #[]
  staticTypes := #[]
  resolved := Array.replicate 263 none
  statics := none }

def pool15 : Array CpInfo := pool [(1, .methodref 2 3), (0, .class_ 4), (0, .nameAndType 5 6), (0, u "java/lang/Object"), (0, u "<init>"), (0, u "()V"), (1, .class_ 10), (1, u "java/util/AbstractMap"), (42, .class_ 54), (0, u "java/util/Map"), (9, u "keySet"), (0, u "Ljava/util/Set;"), (0, .class_ 67), (0, u "java/util/AbstractMap$1"), (5, u "values"), (0, u "Ljava/util/Collection;"), (0, .class_ 76), (0, u "java/util/AbstractMap$2"), (104, .class_ 182), (0, u "java/util/AbstractMap$ViewCollection"), (0, .class_ 184), (0, u "java/util/AbstractMap$SimpleImmutableEntry"), (0, .class_ 186), (0, u "java/util/AbstractMap$SimpleEntry"), (0, .class_ 188), (0, u "java/util/AbstractMap$2$1"), (0, .class_ 190), (0, u "java/util/AbstractMap$1$1")] 5

def k15c0 : Code := { maxStack := 1, maxLocals := 1, code := jdk_71_method_1_code, exceptionTable := #[], attributes := #[] }
def k15m0 : Method := { name := "<init>", desc := "()V", sig := { parameters := [], returnType := none }, accessFlags := 4, code := some k15c0 }
/-- java/util/AbstractMap -/
def k15 : Class := { plain "java/util/AbstractMap" (some 0) with
  accessFlags := 1057
  interfaces := #[14]
  cf := some (fileOf pool15 8 #[.nestMembers #[181, 183, 185, 75, 187, 66, 189]] #[{ accessFlags := 4, nameIndex := 5, descriptorIndex := 6, attributes := #[] }] 1057 2 #[53] #[{ accessFlags := 128, nameIndex := 64, descriptorIndex := 65, attributes := #[] }, { accessFlags := 128, nameIndex := 73, descriptorIndex := 74, attributes := #[] }])
  fields := #[{ name := "keySet", type := (.object "java/util/Set"), accessFlags := 128, slot := 0, constantValue := 0 }, { name := "values", type := (.object "java/util/Collection"), accessFlags := 128, slot := 1, constantValue := 0 }]
  methods := #[k15m0]
  instanceTypes := #[(.object "java/util/Set"), (.object "java/util/Collection")]
  staticTypes := #[]
  resolved := Array.replicate 196 none
  statics := none }

def pool16 : Array CpInfo := pool [(1, .class_ 2), (0, u "java/lang/Cloneable"), (0, .class_ 4), (0, u "java/lang/Object")] 2

/-- java/lang/Cloneable -/
def k16 : Class := { plain "java/lang/Cloneable" (some 0) with
  accessFlags := 1537
  interfaces := #[]
  cf := some (fileOf pool16 1 #[] #[] 1537 3 #[] #[])
  fields := #[]
  methods := #[]
  instanceTypes := #[]
  staticTypes := #[]
  resolved := Array.replicate 7 none
  statics := none }

def pool17 : Array CpInfo := pool [(40, .class_ 41), (0, u "java/util/HashMap"), (1, .methodref 44 45), (0, .class_ 46), (0, .nameAndType 47 48), (0, u "java/util/AbstractMap"), (0, u "<init>"), (0, u "()V"), (32, .fieldref 40 82), (0, .nameAndType 83 84), (0, u "loadFactor"), (0, u "F"), (5, u "threshold"), (0, u "I"), (0, .float 1061158912), (8, .class_ 103), (1, u "java/util/Map"), (0, u "size"), (2, u "table"), (0, u "[Ljava/util/HashMap$Node;"), (14, u "entrySet"), (39, .class_ 165), (1, u "java/util/HashMap$Node"), (14, .class_ 181), (0, u "java/util/HashMap$TreeNode"), (22, u "modCount"), (37, u "Ljava/util/Set;"), (0, .class_ 244), (0, u "java/util/HashMap$KeySet"), (18, .class_ 264), (0, u "java/util/HashMap$Values"), (3, .class_ 269), (0, u "java/util/HashMap$EntrySet"), (76, .class_ 348), (1, u "java/util/HashMap$UnsafeHolder"), (43, .class_ 393), (0, u "java/lang/Cloneable"), (0, .class_ 395), (0, u "java/io/Serializable"), (0, u "serialVersionUID"), (0, u "J"), (3, u "DEFAULT_INITIAL_CAPACITY"), (1, u "MAXIMUM_CAPACITY"), (0, u "DEFAULT_LOAD_FACTOR"), (0, u "TREEIFY_THRESHOLD"), (1, u "UNTREEIFY_THRESHOLD"), (1, u "MIN_TREEIFY_CAPACITY"), (186, .class_ 597), (0, u "java/util/HashMap$EntrySpliterator"), (0, .class_ 599), (0, u "java/util/HashMap$ValueSpliterator"), (0, .class_ 601), (0, u "java/util/HashMap$KeySpliterator"), (0, .class_ 603), (0, u "java/util/HashMap$HashMapSpliterator"), (0, .class_ 605), (0, u "java/util/HashMap$EntryIterator"), (0, .class_ 607), (0, u "java/util/HashMap$ValueIterator"), (0, .class_ 609), (0, u "java/util/HashMap$KeyIterator"), (0, .class_ 611), (0, u "java/util/HashMap$HashIterator")] 17

def k17c0 : Code := { maxStack := 2, maxLocals := 1, code := jdk_69_method_7_code, exceptionTable := #[], attributes := #[] }
def k17m0 : Method := { name := "<init>", desc := "()V", sig := { parameters := [], returnType := none }, accessFlags := 1, code := some k17c0 }
/-- java/util/HashMap -/
def k17 : Class := { plain "java/util/HashMap" (some 15) with
  accessFlags := 33
  interfaces := #[14, 16, 4]
  cf := some (fileOf pool17 40 #[.nestMembers #[180, 596, 598, 600, 602, 604, 606, 608, 610, 346, 268, 263, 243, 163]] #[{ accessFlags := 1, nameIndex := 47, descriptorIndex := 48, attributes := #[] }] 33 44 #[101, 392, 394] #[{ accessFlags := 26, nameIndex := 396, descriptorIndex := 397, attributes := #[] }, { accessFlags := 24, nameIndex := 401, descriptorIndex := 91, attributes := #[] }, { accessFlags := 24, nameIndex := 403, descriptorIndex := 91, attributes := #[] }, { accessFlags := 24, nameIndex := 404, descriptorIndex := 84, attributes := #[] }, { accessFlags := 24, nameIndex := 405, descriptorIndex := 91, attributes := #[] }, { accessFlags := 24, nameIndex := 407, descriptorIndex := 91, attributes := #[] }, { accessFlags := 24, nameIndex := 409, descriptorIndex := 91, attributes := #[] }, { accessFlags := 128, nameIndex := 107, descriptorIndex := 108, attributes := #[] }, { accessFlags := 128, nameIndex := 123, descriptorIndex := 242, attributes := #[] }, { accessFlags := 128, nameIndex := 104, descriptorIndex := 91, attributes := #[] }, { accessFlags := 128, nameIndex := 204, descriptorIndex := 91, attributes := #[] }, { accessFlags := 0, nameIndex := 90, descriptorIndex := 91, attributes := #[] }, { accessFlags := 16, nameIndex := 83, descriptorIndex := 84, attributes := #[] }])
  fields := #[{ name := "serialVersionUID", type := .long, accessFlags := 26, slot := 0, constantValue := 0 }, { name := "DEFAULT_INITIAL_CAPACITY", type := .int, accessFlags := 24, slot := 1, constantValue := 0 }, { name := "MAXIMUM_CAPACITY", type := .int, accessFlags := 24, slot := 2, constantValue := 0 }, { name := "DEFAULT_LOAD_FACTOR", type := .float, accessFlags := 24, slot := 3, constantValue := 0 }, { name := "TREEIFY_THRESHOLD", type := .int, accessFlags := 24, slot := 4, constantValue := 0 }, { name := "UNTREEIFY_THRESHOLD", type := .int, accessFlags := 24, slot := 5, constantValue := 0 }, { name := "MIN_TREEIFY_CAPACITY", type := .int, accessFlags := 24, slot := 6, constantValue := 0 }, { name := "table", type := (.array (.object "java/util/HashMap$Node")), accessFlags := 128, slot := 2, constantValue := 0 }, { name := "entrySet", type := (.object "java/util/Set"), accessFlags := 128, slot := 3, constantValue := 0 }, { name := "size", type := .int, accessFlags := 128, slot := 4, constantValue := 0 }, { name := "modCount", type := .int, accessFlags := 128, slot := 5, constantValue := 0 }, { name := "threshold", type := .int, accessFlags := 0, slot := 6, constantValue := 0 }, { name := "loadFactor", type := .float, accessFlags := 16, slot := 7, constantValue := 0 }]
  methods := #[k17m0]
  instanceTypes := #[(.object "java/util/Set"), (.object "java/util/Collection"), (.array (.object "java/util/HashMap$Node")), (.object "java/util/Set"), .int, .int, .int, .float]
  staticTypes := #[.long, .int, .int, .float, .int, .int, .int]
  resolved := Array.replicate 629 none
  statics := none }

def pool18 : Array CpInfo := pool [(2, .class_ 4), (1, u "java/lang/Object"), (0, u "<init>"), (0, u "()V"), (14, .class_ 23), (1, u "java/nio/charset/StandardCharsets"), (0, u "US_ASCII"), (0, u "Ljava/nio/charset/Charset;"), (7, u "ISO_8859_1"), (7, u "UTF_8"), (5, u "UTF_16BE"), (5, u "UTF_16LE"), (5, u "UTF_16")] 8

def k18m0 : Method := { name := "<init>", desc := "()V", sig := { parameters := [], returnType := none }, accessFlags := 2, code := none }
/-- java/nio/charset/StandardCharsets -/
def k18 : Class := { plain "java/nio/charset/StandardCharsets" (some 0) with
  accessFlags := 49
  interfaces := #[]
  cf := some (fileOf pool18 21 #[] #[{ accessFlags := 2, nameIndex := 5, descriptorIndex := 6, attributes := #[] }] 49 2 #[] #[{ accessFlags := 25, nameIndex := 24, descriptorIndex := 25, attributes := #[] }, { accessFlags := 25, nameIndex := 33, descriptorIndex := 25, attributes := #[] }, { accessFlags := 25, nameIndex := 41, descriptorIndex := 25, attributes := #[] }, { accessFlags := 25, nameIndex := 47, descriptorIndex := 25, attributes := #[] }, { accessFlags := 25, nameIndex := 53, descriptorIndex := 25, attributes := #[] }, { accessFlags := 25, nameIndex := 59, descriptorIndex := 25, attributes := #[] }])
  fields := #[{ name := "US_ASCII", type := (.object "java/nio/charset/Charset"), accessFlags := 25, slot := 0, constantValue := 0 }, { name := "ISO_8859_1", type := (.object "java/nio/charset/Charset"), accessFlags := 25, slot := 1, constantValue := 0 }, { name := "UTF_8", type := (.object "java/nio/charset/Charset"), accessFlags := 25, slot := 2, constantValue := 0 }, { name := "UTF_16BE", type := (.object "java/nio/charset/Charset"), accessFlags := 25, slot := 3, constantValue := 0 }, { name := "UTF_16LE", type := (.object "java/nio/charset/Charset"), accessFlags := 25, slot := 4, constantValue := 0 }, { name := "UTF_16", type := (.object "java/nio/charset/Charset"), accessFlags := 25, slot := 5, constantValue := 0 }]
  methods := #[k18m0]
  instanceTypes := #[]
  staticTypes := #[(.object "java/nio/charset/Charset"), (.object "java/nio/charset/Charset"), (.object "java/nio/charset/Charset"), (.object "java/nio/charset/Charset"), (.object "java/nio/charset/Charset"), (.object "java/nio/charset/Charset")]
  resolved := Array.replicate 68 none
  statics := some 2 }

def pool19 : Array CpInfo := pool [(18, .class_ 20), (1, u "java/nio/charset/Charset"), (0, u "cache1"), (0, u "[Ljava/lang/Object;"), (2, u "cache2"), (0, .class_ 27), (0, u "java/lang/Object"), (0, .class_ 29), (0, u "java/nio/charset/Charset$1"), (4, .class_ 36), (1, u "java/nio/charset/Charset$ThreadTrackHolder"), (21, .class_ 59), (0, u "java/nio/charset/Charset$2"), (11, .class_ 73), (1, u "java/nio/charset/Charset$ExtendedProviderHolder"), (22, u "standardProvider"), (0, u "Ljava/nio/charset/spi/CharsetProvider;"), (29, u "name"), (7, .class_ 136), (0, u "java/nio/charset/Charset$3"), (5, u "defaultCharset"), (0, u "Ljava/nio/charset/Charset;"), (14, u "zeroAliases"), (0, u "[Ljava/lang/String;"), (29, u "Ljava/lang/String;"), (2, u "aliases"), (2, u "aliasSet"), (0, u "Ljava/util/Set;"), (82, .class_ 280), (0, u "java/lang/Comparable"), (84, .class_ 366), (0, u "java/nio/charset/Charset$ExtendedProviderHolder$1")] 3

/-- java/nio/charset/Charset -/
def k19 : Class := { plain "java/nio/charset/Charset" (some 0) with
  accessFlags := 1057
  interfaces := #[5]
  cf := some (fileOf pool19 18 #[.nestMembers #[71, 365, 34, 135, 58, 28]] #[] 1057 26 #[279] #[{ accessFlags := 26, nameIndex := 96, descriptorIndex := 97, attributes := #[] }, { accessFlags := 26, nameIndex := 158, descriptorIndex := 159, attributes := #[] }, { accessFlags := 74, nameIndex := 21, descriptorIndex := 22, attributes := #[] }, { accessFlags := 74, nameIndex := 25, descriptorIndex := 22, attributes := #[] }, { accessFlags := 10, nameIndex := 142, descriptorIndex := 143, attributes := #[] }, { accessFlags := 18, nameIndex := 127, descriptorIndex := 189, attributes := #[] }, { accessFlags := 18, nameIndex := 192, descriptorIndex := 159, attributes := #[] }, { accessFlags := 2, nameIndex := 195, descriptorIndex := 196, attributes := #[] }])
  fields := #[{ name := "standardProvider", type := (.object "java/nio/charset/spi/CharsetProvider"), accessFlags := 26, slot := 0, constantValue := 0 }, { name := "zeroAliases", type := (.array (.object "java/lang/String")), accessFlags := 26, slot := 1, constantValue := 0 }, { name := "cache1", type := (.array (.object "java/lang/Object")), accessFlags := 74, slot := 2, constantValue := 0 }, { name := "cache2", type := (.array (.object "java/lang/Object")), accessFlags := 74, slot := 3, constantValue := 0 }, { name := "defaultCharset", type := (.object "java/nio/charset/Charset"), accessFlags := 10, slot := 4, constantValue := 0 }, { name := "name", type := (.object "java/lang/String"), accessFlags := 18, slot := 0, constantValue := 0 }, { name := "aliases", type := (.array (.object "java/lang/String")), accessFlags := 18, slot := 1, constantValue := 0 }, { name := "aliasSet", type := (.object "java/util/Set"), accessFlags := 2, slot := 2, constantValue := 0 }]
  methods := #[]
  instanceTypes := #[(.object "java/lang/String"), (.array (.object "java/lang/String")), (.object "java/util/Set")]
  staticTypes := #[(.object "java/nio/charset/spi/CharsetProvider"), (.array (.object "java/lang/String")), (.array (.object "java/lang/Object")), (.array (.object "java/lang/Object")), (.object "java/nio/charset/Charset")]
  resolved := Array.replicate 370 none
  statics := none }

def pool20 : Array CpInfo := pool [(1, .class_ 2), (0, u "sun/nio/cs/HistoricallyNamedCharset"), (0, .class_ 4), (0, u "java/lang/Object")] 4

/-- sun/nio/cs/HistoricallyNamedCharset -/
def k20 : Class := { plain "sun/nio/cs/HistoricallyNamedCharset" (some 0) with
  accessFlags := 1537
  interfaces := #[]
  cf := some (fileOf pool20 1 #[] #[] 1537 3 #[] #[])
  fields := #[]
  methods := #[]
  instanceTypes := #[]
  staticTypes := #[]
  resolved := Array.replicate 9 none
  statics := none }

def pool21 : Array CpInfo := pool [(2, .class_ 4), (1, u "java/nio/charset/Charset"), (130, .class_ 136), (0, u "sun/nio/cs/Unicode"), (0, .class_ 138), (0, u "sun/nio/cs/HistoricallyNamedCharset")] 15

/-- sun/nio/cs/Unicode -/
def k21 : Class := { plain "sun/nio/cs/Unicode" (some 19) with
  accessFlags := 1056
  interfaces := #[20]
  cf := some (fileOf pool21 135 #[] #[] 1056 2 #[137] #[])
  fields := #[]
  methods := #[]
  instanceTypes := #[(.object "java/lang/String"), (.array (.object "java/lang/String")), (.object "java/util/Set")]
  staticTypes := #[]
  resolved := Array.replicate 154 none
  statics := none }

def pool22 : Array CpInfo := pool [(10, .class_ 12), (1, u "sun/nio/cs/Unicode"), (0, u "<init>"), (3, .class_ 18), (0, u "sun/nio/cs/UTF_8$Decoder"), (3, .class_ 23), (0, u "sun/nio/cs/UTF_8$Encoder"), (15, .class_ 40), (0, u "sun/nio/cs/UTF_8"), (2, u "()V"), (2, u "INSTANCE"), (0, u "Lsun/nio/cs/UTF_8;"), (8, u "JLA"), (0, u "Ljdk/internal/access/JavaLangAccess;")] 26

def k22m0 : Method := { name := "<init>", desc := "()V", sig := { parameters := [], returnType := none }, accessFlags := 1, code := none }
/-- sun/nio/cs/UTF_8 -/
def k22 : Class := { plain "sun/nio/cs/UTF_8" (some 21) with
  accessFlags := 49
  interfaces := #[]
  cf := some (fileOf pool22 39 #[.nestMembers #[22, 17]] #[{ accessFlags := 1, nameIndex := 13, descriptorIndex := 43, attributes := #[] }] 49 10 #[] #[{ accessFlags := 25, nameIndex := 46, descriptorIndex := 47, attributes := #[] }, { accessFlags := 26, nameIndex := 56, descriptorIndex := 57, attributes := #[] }])
  fields := #[{ name := "INSTANCE", type := (.object "sun/nio/cs/UTF_8"), accessFlags := 25, slot := 0, constantValue := 0 }, { name := "JLA", type := (.object "jdk/internal/access/JavaLangAccess"), accessFlags := 26, slot := 1, constantValue := 0 }]
  methods := #[k22m0]
  instanceTypes := #[(.object "java/lang/String"), (.array (.object "java/lang/String")), (.object "java/util/Set")]
  staticTypes := #[(.object "sun/nio/cs/UTF_8"), (.object "jdk/internal/access/JavaLangAccess")]
  resolved := Array.replicate 84 none
  statics := some 3 }

def pool23 : Array CpInfo := pool [(10, .class_ 12), (1, u "java/nio/charset/Charset"), (0, u "<init>"), (5, .class_ 20), (0, u "sun/nio/cs/ISO_8859_1"), (0, .class_ 22), (0, u "sun/nio/cs/ISO_8859_1$Decoder"), (3, .class_ 27), (0, u "sun/nio/cs/ISO_8859_1$Encoder"), (3, u "()V"), (2, u "INSTANCE"), (0, u "Lsun/nio/cs/ISO_8859_1;"), (0, .class_ 37), (0, u "sun/nio/cs/HistoricallyNamedCharset")] 22

def k23m0 : Method := { name := "<init>", desc := "()V", sig := { parameters := [], returnType := none }, accessFlags := 1, code := none }
/-- sun/nio/cs/ISO_8859_1 -/
def k23 : Class := { plain "sun/nio/cs/ISO_8859_1" (some 19) with
  accessFlags := 33
  interfaces := #[20]
  cf := some (fileOf pool23 19 #[.nestMembers #[26, 21]] #[{ accessFlags := 1, nameIndex := 13, descriptorIndex := 31, attributes := #[] }] 33 10 #[36] #[{ accessFlags := 25, nameIndex := 34, descriptorIndex := 35, attributes := #[] }])
  fields := #[{ name := "INSTANCE", type := (.object "sun/nio/cs/ISO_8859_1"), accessFlags := 25, slot := 0, constantValue := 0 }]
  methods := #[k23m0]
  instanceTypes := #[(.object "java/lang/String"), (.array (.object "java/lang/String")), (.object "java/util/Set")]
  staticTypes := #[(.object "sun/nio/cs/ISO_8859_1")]
  resolved := Array.replicate 60 none
  statics := some 4 }

def pool24 : Array CpInfo := pool [(1, .class_ 2), (0, u "java/lang/Math"), (1, .class_ 6), (1, u "java/lang/Object"), (0, u "<init>"), (0, u "()V"), (89, .class_ 100), (1, u "java/lang/Math$RandomNumberGeneratorHolder"), (71, u "negativeZeroFloatBits"), (0, u "J"), (2, u "negativeZeroDoubleBits"), (24, u "min"), (43, u "$assertionsDisabled"), (0, u "Z"), (88, u "(II)I"), (2, u "twoToTheDoubleScaleDown"), (0, u "D"), (4, u "twoToTheDoubleScaleUp"), (9, u "E"), (3, u "PI"), (2, u "TAU"), (2, u "DEGREES_TO_RADIANS"), (0, u "RADIANS_TO_DEGREES")] 94

def k24m0 : Method := { name := "<init>", desc := "()V", sig := { parameters := [], returnType := none }, accessFlags := 2, code := none }
def k24c1 : Code := { maxStack := 2, maxLocals := 2, code := jdk_29_method_69_code, exceptionTable := #[], attributes := #[] }
def k24m1 : Method := { name := "min", desc := "(II)I", sig := { parameters := [.int, .int], returnType := some .int }, accessFlags := 9, code := some k24c1 }
/-- java/lang/Math -/
def k24 : Class := { plain "java/lang/Math" (some 0) with
  accessFlags := 49
  interfaces := #[]
  cf := some (fileOf pool24 1 #[.nestMembers #[98]] #[{ accessFlags := 2, nameIndex := 7, descriptorIndex := 8, attributes := #[] }, { accessFlags := 9, nameIndex := 201, descriptorIndex := 335, attributes := #[] }] 49 4 #[] #[{ accessFlags := 25, nameIndex := 354, descriptorIndex := 339, attributes := #[] }, { accessFlags := 25, nameIndex := 358, descriptorIndex := 339, attributes := #[] }, { accessFlags := 25, nameIndex := 361, descriptorIndex := 339, attributes := #[] }, { accessFlags := 26, nameIndex := 364, descriptorIndex := 339, attributes := #[] }, { accessFlags := 26, nameIndex := 365, descriptorIndex := 339, attributes := #[] }, { accessFlags := 26, nameIndex := 172, descriptorIndex := 173, attributes := #[] }, { accessFlags := 26, nameIndex := 176, descriptorIndex := 173, attributes := #[] }, { accessFlags := 8, nameIndex := 344, descriptorIndex := 339, attributes := #[] }, { accessFlags := 8, nameIndex := 338, descriptorIndex := 339, attributes := #[] }, { accessFlags := 4120, nameIndex := 245, descriptorIndex := 246, attributes := #[] }])
  fields := #[{ name := "E", type := .double, accessFlags := 25, slot := 0, constantValue := 0 }, { name := "PI", type := .double, accessFlags := 25, slot := 1, constantValue := 0 }, { name := "TAU", type := .double, accessFlags := 25, slot := 2, constantValue := 0 }, { name := "DEGREES_TO_RADIANS", type := .double, accessFlags := 26, slot := 3, constantValue := 0 }, { name := "RADIANS_TO_DEGREES", type := .double, accessFlags := 26, slot := 4, constantValue := 0 }, { name := "negativeZeroFloatBits", type := .long, accessFlags := 26, slot := 5, constantValue := 0 }, { name := "negativeZeroDoubleBits", type := .long, accessFlags := 26, slot := 6, constantValue := 0 }, { name := "twoToTheDoubleScaleUp", type := .double, accessFlags := 8, slot := 7, constantValue := 0 }, { name := "twoToTheDoubleScaleDown", type := .double, accessFlags := 8, slot := 8, constantValue := 0 }, { name := "$assertionsDisabled", type := .boolean, accessFlags := 4120, slot := 9, constantValue := 0 }]
  methods := #[k24m0, k24m1]
  instanceTypes := #[]
  staticTypes := #[.double, .double, .double, .double, .double, .long, .long, .double, .double, .boolean]
  resolved := Array.replicate 460 none
  statics := none }

def pool25 : Array CpInfo := pool [(2, .class_ 4), (1, u "java/lang/Object"), (0, u "<init>"), (0, u "()V"), (1, .class_ 10), (1, u "java/lang/System"), (0, u "allowSecurityManager"), (0, u "I"), (16, u "cons"), (0, u "Ljava/io/Console;"), (77, .class_ 110), (1, u "java/lang/System$CallersHolder"), (43, u "initialErrStream"), (0, u "Ljava/io/PrintStream;"), (19, u "security"), (0, u "Ljava/lang/SecurityManager;"), (31, .class_ 209), (0, u "java/lang/System$1"), (7, u "props"), (0, u "Ljava/util/Properties;"), (2, u "lineSeparator"), (0, u "Ljava/lang/String;"), (96, .class_ 321), (1, u "java/lang/System$LoggerFinder"), (5, .class_ 328), (0, u "java/lang/System$Logger"), (67, u "err"), (2, u "out"), (91, u "notSupportedJnuEncoding"), (15, u "in"), (17, u "initialIn"), (0, u "Ljava/io/InputStream;"), (35, u "bootLayer"), (0, u "Ljava/lang/ModuleLayer;"), (99, .class_ 664), (0, u "java/lang/System$2"), (9, u "NEVER"), (2, u "MAYBE"), (49, u "arraycopy"), (0, u "(Ljava/lang/Object;ILjava/lang/Object;II)V"), (72, .class_ 802), (0, u "java/lang/System$Logger$Level")] 31

def k25m0 : Method := { name := "<init>", desc := "()V", sig := { parameters := [], returnType := none }, accessFlags := 2, code := none }
def k25m1 : Method := { name := "arraycopy", desc := "(Ljava/lang/Object;ILjava/lang/Object;II)V", sig := { parameters := [(.object "java/lang/Object"), .int, (.object "java/lang/Object"), .int, .int], returnType := none }, accessFlags := 265, code := none }
/-- java/lang/System -/
def k25 : Class := { plain "java/lang/System" (some 0) with
  accessFlags := 49
  interfaces := #[]
  cf := some (fileOf pool25 8 #[.nestMembers #[319, 327, 801, 108, 663, 208]] #[{ accessFlags := 2, nameIndex := 5, descriptorIndex := 6, attributes := #[] }, { accessFlags := 265, nameIndex := 727, descriptorIndex := 728, attributes := #[] }] 49 2 #[] #[{ accessFlags := 25, nameIndex := 507, descriptorIndex := 526, attributes := #[] }, { accessFlags := 25, nameIndex := 399, descriptorIndex := 155, attributes := #[] }, { accessFlags := 25, nameIndex := 396, descriptorIndex := 155, attributes := #[] }, { accessFlags := 10, nameIndex := 525, descriptorIndex := 526, attributes := #[] }, { accessFlags := 26, nameIndex := 674, descriptorIndex := 12, attributes := #[] }, { accessFlags := 26, nameIndex := 677, descriptorIndex := 12, attributes := #[] }, { accessFlags := 10, nameIndex := 11, descriptorIndex := 12, attributes := #[] }, { accessFlags := 74, nameIndex := 175, descriptorIndex := 176, attributes := #[] }, { accessFlags := 10, nameIndex := 491, descriptorIndex := 222, attributes := #[] }, { accessFlags := 74, nameIndex := 29, descriptorIndex := 30, attributes := #[] }, { accessFlags := 74, nameIndex := 154, descriptorIndex := 155, attributes := #[] }, { accessFlags := 10, nameIndex := 217, descriptorIndex := 218, attributes := #[] }, { accessFlags := 10, nameIndex := 221, descriptorIndex := 222, attributes := #[] }, { accessFlags := 8, nameIndex := 562, descriptorIndex := 563, attributes := #[] }])
  fields := #[{ name := "in", type := (.object "java/io/InputStream"), accessFlags := 25, slot := 0, constantValue := 0 }, { name := "out", type := (.object "java/io/PrintStream"), accessFlags := 25, slot := 1, constantValue := 0 }, { name := "err", type := (.object "java/io/PrintStream"), accessFlags := 25, slot := 2, constantValue := 0 }, { name := "initialIn", type := (.object "java/io/InputStream"), accessFlags := 10, slot := 3, constantValue := 0 }, { name := "NEVER", type := .int, accessFlags := 26, slot := 4, constantValue := 0 }, { name := "MAYBE", type := .int, accessFlags := 26, slot := 5, constantValue := 0 }, { name := "allowSecurityManager", type := .int, accessFlags := 10, slot := 6, constantValue := 0 }, { name := "security", type := (.object "java/lang/SecurityManager"), accessFlags := 74, slot := 7, constantValue := 0 }, { name := "notSupportedJnuEncoding", type := (.object "java/lang/String"), accessFlags := 10, slot := 8, constantValue := 0 }, { name := "cons", type := (.object "java/io/Console"), accessFlags := 74, slot := 9, constantValue := 0 }, { name := "initialErrStream", type := (.object "java/io/PrintStream"), accessFlags := 74, slot := 10, constantValue := 0 }, { name := "props", type := (.object "java/util/Properties"), accessFlags := 10, slot := 11, constantValue := 0 }, { name := "lineSeparator", type := (.object "java/lang/String"), accessFlags := 10, slot := 12, constantValue := 0 }, { name := "bootLayer", type := (.object "java/lang/ModuleLayer"), accessFlags := 8, slot := 13, constantValue := 0 }]
  methods := #[k25m0, k25m1]
  instanceTypes := #[]
  staticTypes := #[(.object "java/io/InputStream"), (.object "java/io/PrintStream"), (.object "java/io/PrintStream"), (.object "java/io/InputStream"), .int, .int, .int, (.object "java/lang/SecurityManager"), (.object "java/lang/String"), (.object "java/io/Console"), (.object "java/io/PrintStream"), (.object "java/util/Properties"), (.object "java/lang/String"), (.object "java/lang/ModuleLayer")]
  resolved := Array.replicate 834 none
  statics := none }

def pool26 : Array CpInfo := pool [(4, .class_ 6), (1, u "java/lang/Object"), (0, u "<init>"), (0, u "()V"), (5, .class_ 16), (1, u "java/lang/StringLatin1"), (104, u "$assertionsDisabled"), (0, u "Z"), (98, .class_ 223), (1, u "java/lang/StringLatin1$LinesSpliterator"), (166, .class_ 391), (0, u "java/lang/StringLatin1$CharsSpliterator")] 3

def k26m0 : Method := { name := "<init>", desc := "()V", sig := { parameters := [], returnType := none }, accessFlags := 0, code := none }
/-- java/lang/StringLatin1 -/
def k26 : Class := { plain "java/lang/StringLatin1" (some 0) with
  accessFlags := 48
  interfaces := #[]
  cf := some (fileOf pool26 14 #[.nestMembers #[390, 221]] #[{ accessFlags := 0, nameIndex := 7, descriptorIndex := 8, attributes := #[] }] 48 4 #[] #[{ accessFlags := 4120, nameIndex := 121, descriptorIndex := 122, attributes := #[] }])
  fields := #[{ name := "$assertionsDisabled", type := .boolean, accessFlags := 4120, slot := 0, constantValue := 0 }]
  methods := #[k26m0]
  instanceTypes := #[]
  staticTypes := #[.boolean]
  resolved := Array.replicate 395 none
  statics := none }

def pool27 : Array CpInfo := pool [(2, .class_ 4), (1, u "java/lang/Object"), (0, u "<init>"), (0, u "()V"), (17, .class_ 26), (1, u "jdk/internal/util/Preconditions"), (28, .class_ 56), (0, u "jdk/internal/util/Preconditions$4"), (57, .class_ 115), (0, u "jdk/internal/util/Preconditions$1"), (7, u "SIOOBE_FORMATTER"), (0, u "Ljava/util/function/BiFunction;"), (0, .class_ 126), (0, u "jdk/internal/util/Preconditions$2"), (3, u "AIOOBE_FORMATTER"), (0, .class_ 132), (0, u "jdk/internal/util/Preconditions$3"), (3, u "IOOBE_FORMATTER")] 57

def k27m0 : Method := { name := "<init>", desc := "()V", sig := { parameters := [], returnType := none }, accessFlags := 1, code := none }
/-- jdk/internal/util/Preconditions -/
def k27 : Class := { plain "jdk/internal/util/Preconditions" (some 0) with
  accessFlags := 33
  interfaces := #[]
  cf := some (fileOf pool27 24 #[.nestMembers #[55, 131, 125, 114]] #[{ accessFlags := 1, nameIndex := 5, descriptorIndex := 6, attributes := #[] }] 33 2 #[] #[{ accessFlags := 25, nameIndex := 123, descriptorIndex := 124, attributes := #[] }, { accessFlags := 25, nameIndex := 130, descriptorIndex := 124, attributes := #[] }, { accessFlags := 25, nameIndex := 136, descriptorIndex := 124, attributes := #[] }])
  fields := #[{ name := "SIOOBE_FORMATTER", type := (.object "java/util/function/BiFunction"), accessFlags := 25, slot := 0, constantValue := 0 }, { name := "AIOOBE_FORMATTER", type := (.object "java/util/function/BiFunction"), accessFlags := 25, slot := 1, constantValue := 0 }, { name := "IOOBE_FORMATTER", type := (.object "java/util/function/BiFunction"), accessFlags := 25, slot := 2, constantValue := 0 }]
  methods := #[k27m0]
  instanceTypes := #[]
  staticTypes := #[(.object "java/util/function/BiFunction"), (.object "java/util/function/BiFunction"), (.object "java/util/function/BiFunction")]
  resolved := Array.replicate 194 none
  statics := some 5 }

def pool28 : Array CpInfo := pool [(9, u "<init>"), (6, .class_ 18), (1, u "java/lang/Object"), (0, u "()V"), (1, .class_ 23), (1, u "jdk/internal/util/ArraysSupport"), (0, u "LOG2_ARRAY_LONG_INDEX_SCALE"), (0, u "I"), (2, u "U"), (0, u "Ljdk/internal/misc/Unsafe;"), (8, u "BIG_ENDIAN"), (0, u "Z"), (8, u "LOG2_BYTE_BIT_SIZE"), (4, u "LOG2_ARRAY_INT_INDEX_SCALE"), (54, u "JLA"), (0, u "Ljdk/internal/access/JavaLangAccess;"), (11, u "LOG2_ARRAY_BOOLEAN_INDEX_SCALE"), (9, u "LOG2_ARRAY_BYTE_INDEX_SCALE"), (5, u "LOG2_ARRAY_CHAR_INDEX_SCALE"), (5, u "LOG2_ARRAY_SHORT_INDEX_SCALE"), (18, u "LOG2_ARRAY_FLOAT_INDEX_SCALE"), (24, u "LOG2_ARRAY_DOUBLE_INDEX_SCALE"), (89, u "T_BOOLEAN"), (2, u "T_CHAR"), (1, u "T_FLOAT"), (1, u "T_DOUBLE"), (1, u "T_BYTE"), (1, u "T_SHORT"), (1, u "T_INT"), (1, u "T_LONG"), (1, u "SOFT_MAX_ARRAY_LENGTH")] 83

def k28m0 : Method := { name := "<init>", desc := "()V", sig := { parameters := [], returnType := none }, accessFlags := 2, code := none }
/-- jdk/internal/util/ArraysSupport -/
def k28 : Class := { plain "jdk/internal/util/ArraysSupport" (some 0) with
  accessFlags := 33
  interfaces := #[]
  cf := some (fileOf pool28 21 #[] #[{ accessFlags := 2, nameIndex := 9, descriptorIndex := 19, attributes := #[] }] 33 16 #[] #[{ accessFlags := 24, nameIndex := 28, descriptorIndex := 29, attributes := #[] }, { accessFlags := 26, nameIndex := 38, descriptorIndex := 39, attributes := #[] }, { accessFlags := 25, nameIndex := 121, descriptorIndex := 25, attributes := #[] }, { accessFlags := 25, nameIndex := 131, descriptorIndex := 25, attributes := #[] }, { accessFlags := 25, nameIndex := 137, descriptorIndex := 25, attributes := #[] }, { accessFlags := 25, nameIndex := 143, descriptorIndex := 25, attributes := #[] }, { accessFlags := 25, nameIndex := 53, descriptorIndex := 25, attributes := #[] }, { accessFlags := 25, nameIndex := 24, descriptorIndex := 25, attributes := #[] }, { accessFlags := 25, nameIndex := 162, descriptorIndex := 25, attributes := #[] }, { accessFlags := 25, nameIndex := 187, descriptorIndex := 25, attributes := #[] }, { accessFlags := 26, nameIndex := 48, descriptorIndex := 25, attributes := #[] }, { accessFlags := 25, nameIndex := 277, descriptorIndex := 25, attributes := #[] }, { accessFlags := 25, nameIndex := 280, descriptorIndex := 25, attributes := #[] }, { accessFlags := 25, nameIndex := 282, descriptorIndex := 25, attributes := #[] }, { accessFlags := 25, nameIndex := 284, descriptorIndex := 25, attributes := #[] }, { accessFlags := 25, nameIndex := 286, descriptorIndex := 25, attributes := #[] }, { accessFlags := 25, nameIndex := 288, descriptorIndex := 25, attributes := #[] }, { accessFlags := 25, nameIndex := 290, descriptorIndex := 25, attributes := #[] }, { accessFlags := 25, nameIndex := 292, descriptorIndex := 25, attributes := #[] }, { accessFlags := 26, nameIndex := 108, descriptorIndex := 109, attributes := #[] }, { accessFlags := 25, nameIndex := 294, descriptorIndex := 25, attributes := #[] }])
  fields := #[{ name := "U", type := (.object "jdk/internal/misc/Unsafe"), accessFlags := 24, slot := 0, constantValue := 0 }, { name := "BIG_ENDIAN", type := .boolean, accessFlags := 26, slot := 1, constantValue := 0 }, { name := "LOG2_ARRAY_BOOLEAN_INDEX_SCALE", type := .int, accessFlags := 25, slot := 2, constantValue := 0 }, { name := "LOG2_ARRAY_BYTE_INDEX_SCALE", type := .int, accessFlags := 25, slot := 3, constantValue := 0 }, { name := "LOG2_ARRAY_CHAR_INDEX_SCALE", type := .int, accessFlags := 25, slot := 4, constantValue := 0 }, { name := "LOG2_ARRAY_SHORT_INDEX_SCALE", type := .int, accessFlags := 25, slot := 5, constantValue := 0 }, { name := "LOG2_ARRAY_INT_INDEX_SCALE", type := .int, accessFlags := 25, slot := 6, constantValue := 0 }, { name := "LOG2_ARRAY_LONG_INDEX_SCALE", type := .int, accessFlags := 25, slot := 7, constantValue := 0 }, { name := "LOG2_ARRAY_FLOAT_INDEX_SCALE", type := .int, accessFlags := 25, slot := 8, constantValue := 0 }, { name := "LOG2_ARRAY_DOUBLE_INDEX_SCALE", type := .int, accessFlags := 25, slot := 9, constantValue := 0 }, { name := "LOG2_BYTE_BIT_SIZE", type := .int, accessFlags := 26, slot := 10, constantValue := 0 }, { name := "T_BOOLEAN", type := .int, accessFlags := 25, slot := 11, constantValue := 0 }, { name := "T_CHAR", type := .int, accessFlags := 25, slot := 12, constantValue := 0 }, { name := "T_FLOAT", type := .int, accessFlags := 25, slot := 13, constantValue := 0 }, { name := "T_DOUBLE", type := .int, accessFlags := 25, slot := 14, constantValue := 0 }, { name := "T_BYTE", type := .int, accessFlags := 25, slot := 15, constantValue := 0 }, { name := "T_SHORT", type := .int, accessFlags := 25, slot := 16, constantValue := 0 }, { name := "T_INT", type := .int, accessFlags := 25, slot := 17, constantValue := 0 }, { name := "T_LONG", type := .int, accessFlags := 25, slot := 18, constantValue := 0 }, { name := "JLA", type := (.object "jdk/internal/access/JavaLangAccess"), accessFlags := 26, slot := 19, constantValue := 0 }, { name := "SOFT_MAX_ARRAY_LENGTH", type := .int, accessFlags := 25, slot := 20, constantValue := 0 }]
  methods := #[k28m0]
  instanceTypes := #[]
  staticTypes := #[(.object "jdk/internal/misc/Unsafe"), .boolean, .int, .int, .int, .int, .int, .int, .int, .int, .int, .int, .int, .int, .int, .int, .int, .int, .int, (.object "jdk/internal/access/JavaLangAccess"), .int]
  resolved := Array.replicate 378 none
  statics := none }

/-- the primitive byte -/
def k29 : Class := { plain "byte" none with kind := .primitive 'B', accessFlags := 0x411 }
/-- [B -/
def k30 : Class := { plain "[B" (some 0) with kind := .array 29 .byte, interfaces := #[16, 4], accessFlags := 1041 }

/-- the primitive int -/
def k31 : Class := { plain "int" none with kind := .primitive 'I', accessFlags := 0x411 }
/-- [I -/
def k32 : Class := { plain "[I" (some 0) with kind := .array 31 .int, interfaces := #[16, 4], accessFlags := 1041 }

/-- the primitive long -/
def k33 : Class := { plain "long" none with kind := .primitive 'J', accessFlags := 0x411 }
/-- [J -/
def k34 : Class := { plain "[J" (some 0) with kind := .array 33 .long, interfaces := #[16, 4], accessFlags := 1041 }

/-- [Lcom/example/earmark/earmark/ledger/HoldStates$Chunk; -/
def k35 : Class := { plain "[Lcom/example/earmark/earmark/ledger/HoldStates$Chunk;" (some 0) with kind := .array 10 (.object "com/example/earmark/earmark/ledger/HoldStates$Chunk"), interfaces := #[16, 4], accessFlags := 1041 }

/-- [Ljava/lang/Object; -/
def k36 : Class := { plain "[Ljava/lang/Object;" (some 0) with kind := .array 0 (.object "java/lang/Object"), interfaces := #[16, 4], accessFlags := 1041 }

/-- [Ljava/lang/String; -/
def k37 : Class := { plain "[Ljava/lang/String;" (some 0) with kind := .array 9 (.object "java/lang/String"), interfaces := #[16, 4], accessFlags := 1041 }

def classes0 : Array Class := #[k0, k1, k2, k3, k4, k5, k6, k7, k8, k9, k10, k11, k12, k13, k14, k15, k16, k17, k18, k19, k20, k21, k22, k23, k24, k25, k26, k27, k28, k29, k30, k31, k32, k33, k34, k35, k36, k37]
/-- the class that the rule has made for the site at 32 of com/example/earmark/earmark/ledger/HoldStates.<init> -/
def k38 : Class := Jvm.LamKit.madeRec { classes := classes0 } "com/example/earmark/earmark/ledger/HoldStates" (Jvm.Lambda.Shape.mk "com/example/earmark/earmark/ledger/RowIndex$Hashes" "hash" (Jvm.ClassFile.MethodDescriptor.mk ([Jvm.ClassFile.FieldType.int] : List Jvm.ClassFile.FieldType) (Option.some Jvm.ClassFile.FieldType.int)) ([(Jvm.ClassFile.FieldType.object "com/example/earmark/earmark/ledger/HoldStates")] : List Jvm.ClassFile.FieldType) (5 : Nat) "com/example/earmark/earmark/ledger/HoldStates" "lambda$new$0" (Jvm.ClassFile.MethodDescriptor.mk ([Jvm.ClassFile.FieldType.int] : List Jvm.ClassFile.FieldType) (Option.some Jvm.ClassFile.FieldType.int)) false (Jvm.ClassFile.MethodDescriptor.mk ([Jvm.ClassFile.FieldType.int] : List Jvm.ClassFile.FieldType) (Option.some Jvm.ClassFile.FieldType.int))) 38

/-- [[I -/
def k39 : Class := { plain "[[I" (some 0) with kind := .array 32 (.array .int), interfaces := #[16, 4], accessFlags := 1041 }
/-- [[J -/
def k40 : Class := { plain "[[J" (some 0) with kind := .array 34 (.array .long), interfaces := #[16, 4], accessFlags := 1041 }
def heap : Heap := #[{ cls := 9, slots := #[.long 0, .int 1, .null, .int 0, .null, .int 0, .int 0], vm := .statics 9 },
  { cls := 11, slots := #[.int 0, .ref 6], vm := .statics 11 },
  { cls := 18, slots := #[.null, .ref 7, .null, .null, .null, .null], vm := .statics 18 },
  { cls := 22, slots := #[.ref 8, .null], vm := .statics 22 },
  { cls := 23, slots := #[.ref 7], vm := .statics 23 },
  { cls := 27, slots := #[.null, .null, .null], vm := .statics 27 },
  { cls := 32, slots := #[], vm := .none },
  { cls := 23, slots := #[.null, .null, .null], vm := .none },
  { cls := 22, slots := #[.null, .null, .null], vm := .none }]
def classes : Array Class := #[k0, k1, k2, k3, k4, k5, k6, k7, k8, k9, k10, k11, k12, k13, k14, k15, k16, k17, k18, k19, k20, k21, k22, k23, k24, k25, k26, k27, k28, k29, k30, k31, k32, k33, k34, k35, k36, k37, k38, k39, k40]
def interned : List (Array UInt16 × Addr) := []
def slotsUsed : Nat := 27
def theMethod : MethodId := ⟨1, 1⟩
def args0 : Array Value := #[.long 1, .long 2, .long 3, .long 4, .long 5, .int 27]
def aboutOver (below : List Frame) : State where
  vm := { classes := classes, interned := interned.toArray }
  heap := heap
  slotsUsed := slotsUsed
  threads := #[{ frames := .invoking theMethod args0 :: below }]
def below0 : List Frame := [.native { method := ⟨0, 0⟩, args := #[] }]
def about1 : State := aboutOver below0
def p0 : Program := .bare "" "" ""
def e0 : Env := launch0.env 0 0 0
theorem w_frames : about1.frames = Frame.invoking theMethod args0 :: below0 := rfl
set_option maxRecDepth 65536 in
theorem w_args : argsFit about1.vm theMethod args0 = true := by decide +kernel
set_option maxRecDepth 65536 in
theorem w_heap : heapFits about1 = true := by decide +kernel
set_option maxRecDepth 65536 in
theorem w_runnable : about1.curStatus? = some .runnable := by decide +kernel
set_option maxRecDepth 65536 in
theorem w_alone : about1.alone = true := by decide +kernel
set_option maxRecDepth 65536 in
theorem w_named : about1.methodNamed? x = some theMethod := by decide +kernel
set_option maxRecDepth 65536 in
theorem w_hears : about1.hears theMethod below0 = true := by decide +kernel
set_option maxRecDepth 65536 in
theorem w_ripe : about1.ripe theMethod args0 below0 = true := by decide +kernel
theorem w_running : about1.status = .running := rfl
set_option maxRecDepth 65536 in
theorem w_room : about1.hasRoom e0.platform room_1 = true :=
  launch0.hasRoom_least _ room_1 (by decide +kernel) (by decide +kernel) (by decide +kernel) (by decide +kernel) (by decide +kernel) (by decide +kernel)
theorem allAtoms_all (ts : List Jvm.Cond) (a : Array Jvm.Value) (st : Jvm.State) : (allAtoms ts).before a st = ts.all (fun c => c.before a st) := by
  induction ts with
  | nil => rfl
  | cons c t ih =>
    show (Jvm.Cond.and c (allAtoms t)).before a st = _
    rw [Jvm.Cond.before_and, ih, List.all_cons]
def words1 : List Jvm.Cond := Jvm.Cond.code x code maxLocals ret :: tables_1
/-- a 'code' word, met by the world's own term for the bytes: nothing is compared byte by byte -/
theorem code_word {y : MethodName} {bytes : ByteArray} {mx : Nat} {rt : Option FieldType} {a : Array Value} {s : State} {m : MethodId} {meth : Method} {c : Code} (h1 : s.methodNamed? y = some m) (h2 : s.vm.method? m = some meth) (h3 : meth.code = some c) (h4 : c.code = bytes)
    (h5 : (c.maxLocals == mx && c.exceptionTable.isEmpty && decide (c.maxStack ≤ mostOperands) && decide (meth.sig.returnType = rt) && !meth.locks && decide (parseMethodDescriptor y.desc = some meth.sig)) = true) : (Jvm.Cond.code y bytes mx rt).before a s = true := by
  simp only [Bool.and_eq_true, beq_iff_eq, Bool.not_eq_true', decide_eq_true_eq] at h5
  obtain ⟨⟨⟨⟨⟨g1, g2⟩, g3⟩, g4⟩, g5⟩, g6⟩ := h5
  simp [Cond.before, Cond.holds, Cond.value, h1, h2, h3, h4, g1, g2, g3, g4, g5, g6]
def isCode : Jvm.Cond → Bool
  | .code _ _ _ _ => true
  | _ => false
theorem all_split {L : List Jvm.Cond} {P : Jvm.Cond → Bool} (h1 : L.all (fun c => isCode c || P c) = true) (h2 : ∀ c ∈ L.filter isCode, P c = true) : L.all P = true := by
  refine List.all_eq_true.mpr fun c hc => ?_
  have h := List.all_eq_true.mp h1 c hc
  rcases Bool.eq_false_or_eq_true (isCode c) with hi | hi
  · exact h2 c (List.mem_filter.mpr ⟨hc, hi⟩)
  · simpa [hi] using h
set_option maxRecDepth 65536 in
theorem w_c0 : (Jvm.Cond.code x code maxLocals ret).before args0 about1 = true := code_word (m := ⟨1, 1⟩) (meth := k1m1) (c := k1c1) (by decide +kernel) rfl rfl rfl (by decide +kernel)
set_option maxRecDepth 65536 in
theorem w_c1 : (Jvm.Cond.code ({ cls := "com/example/earmark/earmark/ledger/HoldStatesBatchClosedPinLaw", name := "pick", desc := "(IJJJJ)J" } : Jvm.MethodName) method_3_code (9 : Nat) (Option.some Jvm.ClassFile.FieldType.long)).before args0 about1 = true := code_word (m := ⟨1, 2⟩) (meth := k1m2) (c := k1c2) (by decide +kernel) rfl rfl rfl (by decide +kernel)
set_option maxRecDepth 65536 in
theorem w_c2 : (Jvm.Cond.code ({ cls := "com/example/earmark/earmark/ledger/HoldStates", name := "<init>", desc := "(Ljava/lang/String;)V" } : Jvm.MethodName) prog_73_method_1_code (2 : Nat) (Option.none : Option Jvm.ClassFile.FieldType)).before args0 about1 = true := code_word (m := ⟨3, 0⟩) (meth := k3m0) (c := k3c0) (by decide +kernel) rfl rfl rfl (by decide +kernel)
set_option maxRecDepth 65536 in
theorem w_c3 : (Jvm.Cond.code ({ cls := "java/lang/Object", name := "<init>", desc := "()V" } : Jvm.MethodName) object_method_1_code (1 : Nat) (Option.none : Option Jvm.ClassFile.FieldType)).before args0 about1 = true := code_word (m := ⟨0, 0⟩) (meth := k0m0) (c := k0c0) (by decide +kernel) rfl rfl rfl (by decide +kernel)
set_option maxRecDepth 65536 in
theorem w_c4 : (Jvm.Cond.code ({ cls := "com/example/earmark/earmark/ledger/HoldStates$Chunk", name := "<init>", desc := "(I)V" } : Jvm.MethodName) prog_75_method_1_code (2 : Nat) (Option.none : Option Jvm.ClassFile.FieldType)).before args0 about1 = true := code_word (m := ⟨10, 0⟩) (meth := k10m0) (c := k10c0) (by decide +kernel) rfl rfl rfl (by decide +kernel)
set_option maxRecDepth 65536 in
theorem w_c5 : (Jvm.Cond.code ({ cls := "com/example/earmark/earmark/ledger/HoldStates$Chunk", name := "<init>", desc := "([J[J[Ljava/lang/String;[J[J[J[Ljava/lang/Object;)V" } : Jvm.MethodName) prog_75_method_2_code (8 : Nat) (Option.none : Option Jvm.ClassFile.FieldType)).before args0 about1 = true := code_word (m := ⟨10, 1⟩) (meth := k10m1) (c := k10c1) (by decide +kernel) rfl rfl rfl (by decide +kernel)
set_option maxRecDepth 65536 in
theorem w_c6 : (Jvm.Cond.code ({ cls := "com/example/earmark/earmark/ledger/RowIndex", name := "<init>", desc := "(ILcom/example/earmark/earmark/ledger/RowIndex$Hashes;)V" } : Jvm.MethodName) prog_113_method_1_code (3 : Nat) (Option.none : Option Jvm.ClassFile.FieldType)).before args0 about1 = true := code_word (m := ⟨11, 0⟩) (meth := k11m0) (c := k11c0) (by decide +kernel) rfl rfl rfl (by decide +kernel)
set_option maxRecDepth 65536 in
theorem w_c7 : (Jvm.Cond.code ({ cls := "java/util/Arrays", name := "fill", desc := "([Ljava/lang/Object;Ljava/lang/Object;)V" } : Jvm.MethodName) jdk_65_method_117_code (4 : Nat) (Option.none : Option Jvm.ClassFile.FieldType)).before args0 about1 = true := code_word (m := ⟨13, 1⟩) (meth := k13m1) (c := k13c1) (by decide +kernel) rfl rfl rfl (by decide +kernel)
set_option maxRecDepth 65536 in
theorem w_c8 : (Jvm.Cond.code ({ cls := "java/util/HashMap", name := "<init>", desc := "()V" } : Jvm.MethodName) jdk_69_method_7_code (1 : Nat) (Option.none : Option Jvm.ClassFile.FieldType)).before args0 about1 = true := code_word (m := ⟨17, 0⟩) (meth := k17m0) (c := k17c0) (by decide +kernel) rfl rfl rfl (by decide +kernel)
set_option maxRecDepth 65536 in
theorem w_c9 : (Jvm.Cond.code ({ cls := "java/util/AbstractMap", name := "<init>", desc := "()V" } : Jvm.MethodName) jdk_71_method_1_code (1 : Nat) (Option.none : Option Jvm.ClassFile.FieldType)).before args0 about1 = true := code_word (m := ⟨15, 0⟩) (meth := k15m0) (c := k15c0) (by decide +kernel) rfl rfl rfl (by decide +kernel)
set_option maxRecDepth 65536 in
theorem w_c10 : (Jvm.Cond.code ({ cls := "java/lang/String", name := "getBytes", desc := "(Ljava/nio/charset/Charset;)[B" } : Jvm.MethodName) jdk_42_method_64_code (2 : Nat) (Option.some (Jvm.ClassFile.FieldType.array Jvm.ClassFile.FieldType.byte))).before args0 about1 = true := code_word (m := ⟨9, 4⟩) (meth := k9m4) (c := k9c4) (by decide +kernel) rfl rfl rfl (by decide +kernel)
set_option maxRecDepth 65536 in
theorem w_c11 : (Jvm.Cond.code ({ cls := "java/lang/String", name := "coder", desc := "()B" } : Jvm.MethodName) jdk_42_method_152_code (1 : Nat) (Option.some Jvm.ClassFile.FieldType.byte)).before args0 about1 = true := code_word (m := ⟨9, 5⟩) (meth := k9m5) (c := k9c5) (by decide +kernel) rfl rfl rfl (by decide +kernel)
set_option maxRecDepth 65536 in
theorem w_c12 : (Jvm.Cond.code ({ cls := "java/lang/String", name := "encode", desc := "(Ljava/nio/charset/Charset;B[B)[B" } : Jvm.MethodName) jdk_42_method_18_code (3 : Nat) (Option.some (Jvm.ClassFile.FieldType.array Jvm.ClassFile.FieldType.byte))).before args0 about1 = true := code_word (m := ⟨9, 1⟩) (meth := k9m1) (c := k9c1) (by decide +kernel) rfl rfl rfl (by decide +kernel)
set_option maxRecDepth 65536 in
theorem w_c13 : (Jvm.Cond.code ({ cls := "java/lang/String", name := "encode8859_1", desc := "(B[B)[B" } : Jvm.MethodName) jdk_42_method_26_code (2 : Nat) (Option.some (Jvm.ClassFile.FieldType.array Jvm.ClassFile.FieldType.byte))).before args0 about1 = true := code_word (m := ⟨9, 2⟩) (meth := k9m2) (c := k9c2) (by decide +kernel) rfl rfl rfl (by decide +kernel)
set_option maxRecDepth 65536 in
theorem w_c14 : (Jvm.Cond.code ({ cls := "java/lang/String", name := "encode8859_1", desc := "(B[BZ)[B" } : Jvm.MethodName) jdk_42_method_27_code (10 : Nat) (Option.some (Jvm.ClassFile.FieldType.array Jvm.ClassFile.FieldType.byte))).before args0 about1 = true := code_word (m := ⟨9, 3⟩) (meth := k9m3) (c := k9c3) (by decide +kernel) rfl rfl rfl (by decide +kernel)
set_option maxRecDepth 65536 in
theorem w_c15 : (Jvm.Cond.code ({ cls := "com/example/earmark/earmark/ledger/HoldStates", name := "passBatch", desc := "(J)V" } : Jvm.MethodName) prog_73_method_19_code (3 : Nat) (Option.none : Option Jvm.ClassFile.FieldType)).before args0 about1 = true := code_word (m := ⟨3, 1⟩) (meth := k3m1) (c := k3c1) (by decide +kernel) rfl rfl rfl (by decide +kernel)
set_option maxRecDepth 65536 in
theorem w_c16 : (Jvm.Cond.code ({ cls := "java/util/Arrays", name := "copyOf", desc := "([JI)[J" } : Jvm.MethodName) jdk_65_method_124_code (3 : Nat) (Option.some (Jvm.ClassFile.FieldType.array Jvm.ClassFile.FieldType.long))).before args0 about1 = true := code_word (m := ⟨13, 2⟩) (meth := k13m2) (c := k13c2) (by decide +kernel) rfl rfl rfl (by decide +kernel)
set_option maxRecDepth 65536 in
theorem w_c17 : (Jvm.Cond.code ({ cls := "java/lang/Math", name := "min", desc := "(II)I" } : Jvm.MethodName) jdk_29_method_69_code (2 : Nat) (Option.some Jvm.ClassFile.FieldType.int)).before args0 about1 = true := code_word (m := ⟨24, 1⟩) (meth := k24m1) (c := k24c1) (by decide +kernel) rfl rfl rfl (by decide +kernel)
set_option maxRecDepth 65536 in
theorem w_c18 : (Jvm.Cond.code ({ cls := "com/example/earmark/earmark/ledger/HoldStates", name := "batchClosed", desc := "(J)V" } : Jvm.MethodName) prog_73_method_21_code (4 : Nat) (Option.none : Option Jvm.ClassFile.FieldType)).before args0 about1 = true := code_word (m := ⟨3, 3⟩) (meth := k3m3) (c := k3c3) (by decide +kernel) rfl rfl rfl (by decide +kernel)
set_option maxRecDepth 65536 in
theorem w_c19 : (Jvm.Cond.code ({ cls := "com/example/earmark/earmark/ledger/HoldStates", name := "hasPassed", desc := "(J)Z" } : Jvm.MethodName) prog_73_method_20_code (4 : Nat) (Option.some Jvm.ClassFile.FieldType.boolean)).before args0 about1 = true := code_word (m := ⟨3, 2⟩) (meth := k3m2) (c := k3c2) (by decide +kernel) rfl rfl rfl (by decide +kernel)
def codes1 : List Jvm.Cond := [Jvm.Cond.code x code maxLocals ret, Jvm.Cond.code ({ cls := "com/example/earmark/earmark/ledger/HoldStatesBatchClosedPinLaw", name := "pick", desc := "(IJJJJ)J" } : Jvm.MethodName) method_3_code (9 : Nat) (Option.some Jvm.ClassFile.FieldType.long), Jvm.Cond.code ({ cls := "com/example/earmark/earmark/ledger/HoldStates", name := "<init>", desc := "(Ljava/lang/String;)V" } : Jvm.MethodName) prog_73_method_1_code (2 : Nat) (Option.none : Option Jvm.ClassFile.FieldType), Jvm.Cond.code ({ cls := "java/lang/Object", name := "<init>", desc := "()V" } : Jvm.MethodName) object_method_1_code (1 : Nat) (Option.none : Option Jvm.ClassFile.FieldType), Jvm.Cond.code ({ cls := "com/example/earmark/earmark/ledger/HoldStates$Chunk", name := "<init>", desc := "(I)V" } : Jvm.MethodName) prog_75_method_1_code (2 : Nat) (Option.none : Option Jvm.ClassFile.FieldType), Jvm.Cond.code ({ cls := "com/example/earmark/earmark/ledger/HoldStates$Chunk", name := "<init>", desc := "([J[J[Ljava/lang/String;[J[J[J[Ljava/lang/Object;)V" } : Jvm.MethodName) prog_75_method_2_code (8 : Nat) (Option.none : Option Jvm.ClassFile.FieldType), Jvm.Cond.code ({ cls := "com/example/earmark/earmark/ledger/RowIndex", name := "<init>", desc := "(ILcom/example/earmark/earmark/ledger/RowIndex$Hashes;)V" } : Jvm.MethodName) prog_113_method_1_code (3 : Nat) (Option.none : Option Jvm.ClassFile.FieldType), Jvm.Cond.code ({ cls := "java/util/Arrays", name := "fill", desc := "([Ljava/lang/Object;Ljava/lang/Object;)V" } : Jvm.MethodName) jdk_65_method_117_code (4 : Nat) (Option.none : Option Jvm.ClassFile.FieldType), Jvm.Cond.code ({ cls := "java/util/HashMap", name := "<init>", desc := "()V" } : Jvm.MethodName) jdk_69_method_7_code (1 : Nat) (Option.none : Option Jvm.ClassFile.FieldType), Jvm.Cond.code ({ cls := "java/util/AbstractMap", name := "<init>", desc := "()V" } : Jvm.MethodName) jdk_71_method_1_code (1 : Nat) (Option.none : Option Jvm.ClassFile.FieldType), Jvm.Cond.code ({ cls := "java/lang/String", name := "getBytes", desc := "(Ljava/nio/charset/Charset;)[B" } : Jvm.MethodName) jdk_42_method_64_code (2 : Nat) (Option.some (Jvm.ClassFile.FieldType.array Jvm.ClassFile.FieldType.byte)), Jvm.Cond.code ({ cls := "java/lang/String", name := "coder", desc := "()B" } : Jvm.MethodName) jdk_42_method_152_code (1 : Nat) (Option.some Jvm.ClassFile.FieldType.byte), Jvm.Cond.code ({ cls := "java/lang/String", name := "encode", desc := "(Ljava/nio/charset/Charset;B[B)[B" } : Jvm.MethodName) jdk_42_method_18_code (3 : Nat) (Option.some (Jvm.ClassFile.FieldType.array Jvm.ClassFile.FieldType.byte)), Jvm.Cond.code ({ cls := "java/lang/String", name := "encode8859_1", desc := "(B[B)[B" } : Jvm.MethodName) jdk_42_method_26_code (2 : Nat) (Option.some (Jvm.ClassFile.FieldType.array Jvm.ClassFile.FieldType.byte)), Jvm.Cond.code ({ cls := "java/lang/String", name := "encode8859_1", desc := "(B[BZ)[B" } : Jvm.MethodName) jdk_42_method_27_code (10 : Nat) (Option.some (Jvm.ClassFile.FieldType.array Jvm.ClassFile.FieldType.byte)), Jvm.Cond.code ({ cls := "com/example/earmark/earmark/ledger/HoldStates", name := "passBatch", desc := "(J)V" } : Jvm.MethodName) prog_73_method_19_code (3 : Nat) (Option.none : Option Jvm.ClassFile.FieldType), Jvm.Cond.code ({ cls := "java/util/Arrays", name := "copyOf", desc := "([JI)[J" } : Jvm.MethodName) jdk_65_method_124_code (3 : Nat) (Option.some (Jvm.ClassFile.FieldType.array Jvm.ClassFile.FieldType.long)), Jvm.Cond.code ({ cls := "java/lang/Math", name := "min", desc := "(II)I" } : Jvm.MethodName) jdk_29_method_69_code (2 : Nat) (Option.some Jvm.ClassFile.FieldType.int), Jvm.Cond.code ({ cls := "com/example/earmark/earmark/ledger/HoldStates", name := "batchClosed", desc := "(J)V" } : Jvm.MethodName) prog_73_method_21_code (4 : Nat) (Option.none : Option Jvm.ClassFile.FieldType), Jvm.Cond.code ({ cls := "com/example/earmark/earmark/ledger/HoldStates", name := "hasPassed", desc := "(J)Z" } : Jvm.MethodName) prog_73_method_20_code (4 : Nat) (Option.some Jvm.ClassFile.FieldType.boolean)]
set_option maxRecDepth 65536 in
theorem codes_eq : words1.filter isCode = codes1 := rfl
theorem w_codes : ∀ c ∈ words1.filter isCode, c.before args0 about1 = true := by
  rw [codes_eq]
  intro c hc
  simp only [codes1, List.mem_cons, List.not_mem_nil, or_false] at hc
  rcases hc with rfl | rfl | rfl | rfl | rfl | rfl | rfl | rfl | rfl | rfl | rfl | rfl | rfl | rfl | rfl | rfl | rfl | rfl | rfl | rfl
  · exact w_c0
  · exact w_c1
  · exact w_c2
  · exact w_c3
  · exact w_c4
  · exact w_c5
  · exact w_c6
  · exact w_c7
  · exact w_c8
  · exact w_c9
  · exact w_c10
  · exact w_c11
  · exact w_c12
  · exact w_c13
  · exact w_c14
  · exact w_c15
  · exact w_c16
  · exact w_c17
  · exact w_c18
  · exact w_c19
set_option maxRecDepth 65536 in
theorem w_t1 : (words1.take 24).all (fun c => isCode c || c.before args0 about1) = true := by decide +kernel
set_option maxRecDepth 65536 in
theorem w_t2 : ((words1.drop 24).take 24).all (fun c => isCode c || c.before args0 about1) = true := by decide +kernel
set_option maxRecDepth 65536 in
theorem w_t3 : (((words1.drop 24).drop 24).take 24).all (fun c => isCode c || c.before args0 about1) = true := by decide +kernel
set_option maxRecDepth 65536 in
theorem w_t4 : ((((words1.drop 24).drop 24).drop 24).take 24).all (fun c => isCode c || c.before args0 about1) = true := by decide +kernel
set_option maxRecDepth 65536 in
theorem w_t5 : (((((words1.drop 24).drop 24).drop 24).drop 24).take 24).all (fun c => isCode c || c.before args0 about1) = true := by decide +kernel
set_option maxRecDepth 65536 in
theorem w_t6 : ((((((words1.drop 24).drop 24).drop 24).drop 24).drop 24).take 24).all (fun c => isCode c || c.before args0 about1) = true := by decide +kernel
set_option maxRecDepth 65536 in
theorem w_t7 : (((((((words1.drop 24).drop 24).drop 24).drop 24).drop 24).drop 24).take 24).all (fun c => isCode c || c.before args0 about1) = true := by decide +kernel
set_option maxRecDepth 65536 in
theorem w_t8 : (((((((words1.drop 24).drop 24).drop 24).drop 24).drop 24).drop 24).drop 24).all (fun c => isCode c || c.before args0 about1) = true := by decide +kernel
theorem w_tables : (allAtoms (Jvm.Cond.code x code maxLocals ret :: tables_1)).before args0 about1 = true := by
  rw [allAtoms_all]
  show words1.all (fun c => c.before args0 about1) = true
  refine all_split ?_ w_codes
  rw [← List.take_append_drop 24 words1, List.all_append, w_t1, ← List.take_append_drop 24 (words1.drop 24), List.all_append, w_t2, ← List.take_append_drop 24 ((words1.drop 24).drop 24), List.all_append, w_t3, ← List.take_append_drop 24 (((words1.drop 24).drop 24).drop 24), List.all_append, w_t4, ← List.take_append_drop 24 ((((words1.drop 24).drop 24).drop 24).drop 24), List.all_append, w_t5, ← List.take_append_drop 24 (((((words1.drop 24).drop 24).drop 24).drop 24).drop 24), List.all_append, w_t6, ← List.take_append_drop 24 ((((((words1.drop 24).drop 24).drop 24).drop 24).drop 24).drop 24), List.all_append, w_t7, w_t8]
  rfl
set_option maxRecDepth 65536 in
theorem w_rest : rest_1_c.before args0 about1 = true := by decide +kernel
set_option maxRecDepth 65536 in
theorem w_case : (Jvm.Cond.and given_1 narrow_1).before args0 about1 = true := by decide +kernel
set_option maxRecDepth 65536 in
theorem w_consts : constsHeld consts_1 about1 := Jvm.Lit.constsHeldB_iff.mp (by decide +kernel)
theorem w_applies : (headSpec (Jvm.Cond.code x code maxLocals ret :: tables_1) room_1).applies x e0.platform about1 = true :=
  (Spec.applies_iff w_frames).mpr ⟨w_running, w_runnable, w_alone, w_named, w_hears, w_ripe, w_room, w_tables⟩
theorem atStart : AtStart classFile x code maxLocals ret World_1 tables_1 room_1 Calls_1 rest_1 Pre_1 launch0 p0 e0 about1 theMethod args0 below0 :=
  ⟨lists_1, trivial, launch0.admits_env _ _ _, launch0.least_env, fairChoices_fair.cas, fairChoices_fair.clock, w_frames, w_args, w_heap, w_applies, ⟨w_consts, trivial⟩, w_rest, w_case⟩
end start1
theorem witness_1 : WitnessClaimed_1 := ⟨start1.p0, start1.e0, start1.about1, start1.theMethod, start1.args0, start1.below0, start1.atStart⟩
end Jvm.Pilot.@@N@@
