import JvmDerived
import JvmDerived.Pilot.@@N@@Statement
import JvmDerived.Pilot.@@N@@Code
set_option linter.unusedVariables false
set_option linter.unusedSimpArgs false
namespace Jvm.RoadKit
open Sem ClassFile Op Lib Jvm.Stand Jvm.Free Jvm.LawKit
section New
variable {p : Program} {l : Launch} {e : Env} {R : Room} {s : State} {m : MethodId} {args : Array Value} {below : List Frame} {meth : Method} {c : Code} {T : State} {locs : List Loc} {cells slots : Nat}
theorem retI (X : Stand p l e R s m args below meth c T locs cells slots) (hx : p.tables.exec = Jvm.exec) {pc : Nat} {Ls : Array Slot} {z : Int32} {rest : List Value} (hret : meth.sig.returnType = some .int) (hd : decode c.code pc = .ok (.ireturn, 1)) {fs : List Frame}
    (hl : ∀ (f : JFrame) (acts : List Action), f.method = m → f.locked = none → f.entered = [] → (doReturn e (T.setTop f) acts (some (.int z))).1 = T.setFrames fs) : Steps p.tables e below (T.setTop (mkF m pc Ls (.int z :: rest))) (T.setFrames fs) := by
  have hm' : T.vm.method? m = some meth := X.method'
  have hn : narrow .int (.int z) = .int z := rfl
  show Steps p.tables e below (T.setTop { method := m, pc := pc, locals := Ls, stack := _ :: rest, locked := none }) _
  jvm_step X.here [X.here.top, hx, hd, hm', hret, hn]
  first | (intro acts; rw [hl _ acts rfl rfl rfl]) | rw [hl _ _ rfl rfl rfl]
  exact Steps.refl _
theorem retL (X : Stand p l e R s m args below meth c T locs cells slots) (hx : p.tables.exec = Jvm.exec) {pc : Nat} {Ls : Array Slot} {z : Int64} {rest : List Value} (hret : meth.sig.returnType = some .long) (hd : decode c.code pc = .ok (.lreturn, 1)) {fs : List Frame}
    (hl : ∀ (f : JFrame) (acts : List Action), f.method = m → f.locked = none → f.entered = [] → (doReturn e (T.setTop f) acts (some (.long z))).1 = T.setFrames fs) : Steps p.tables e below (T.setTop (mkF m pc Ls (.long z :: rest))) (T.setFrames fs) := by
  have hm' : T.vm.method? m = some meth := X.method'
  have hn : narrow .long (.long z) = .long z := rfl
  show Steps p.tables e below (T.setTop { method := m, pc := pc, locals := Ls, stack := _ :: rest, locked := none }) _
  jvm_step X.here [X.here.top, hx, hd, hm', hret, hn]
  first | (intro acts; rw [hl _ acts rfl rfl rfl]) | rw [hl _ _ rfl rfl rfl]
  exact Steps.refl _
end New
end Jvm.RoadKit
namespace Jvm.Pilot.@@N@@
open Jvm Jvm.ClassFile Sem Op Lib Jvm.Free Jvm.Stand Jvm.LawKit Jvm.RoadKit Bundle Jvm.Pilot.@@N@@.Jvm.D

def own_pow (r : Int64) : Nat → Int64
  | 0 => r
  | k + 1 => own_pow (r * 10) k
theorem own_ten {D : Int32} (h0 : 0 ≤ D.toInt) (h1 : D.toInt < 10) : D = 0 ∨ D = 1 ∨ D = 2 ∨ D = 3 ∨ D = 4 ∨ D = 5 ∨ D = 6 ∨ D = 7 ∨ D = 8 ∨ D = 9 := by
  have e : ∀ k : Int32, D = k ↔ D.toInt = k.toInt := fun k => Int32.toInt_inj.symm
  rw [e 0, e 1, e 2, e 3, e 4, e 5, e 6, e 7, e 8, e 9]
  show D.toInt = 0 ∨ D.toInt = 1 ∨ D.toInt = 2 ∨ D.toInt = 3 ∨ D.toInt = 4 ∨ D.toInt = 5 ∨ D.toInt = 6 ∨ D.toInt = 7 ∨ D.toInt = 8 ∨ D.toInt = 9
  omega
theorem own_at {D : Int32} {k : Nat} (hk : D.toInt + k = 9) (h0 : 0 ≤ D.toInt) (h1 : D.toInt < 10) : [Value.long 1000000000, .long 100000000, .long 10000000, .long 1000000, .long 100000, .long 10000, .long 1000, .long 100, .long 10, .long 1].getD D.toNatClampNeg (.long 0) = .long (own_pow 1 k) := by
  rcases own_ten h0 h1 with h | h | h | h | h | h | h | h | h | h <;> subst h
  · obtain rfl : k = 9 := by have : (0 : Int32).toInt = 0 := by decide
                             omega
    decide +kernel
  · obtain rfl : k = 8 := by have : (1 : Int32).toInt = 1 := by decide
                             omega
    decide +kernel
  · obtain rfl : k = 7 := by have : (2 : Int32).toInt = 2 := by decide
                             omega
    decide +kernel
  · obtain rfl : k = 6 := by have : (3 : Int32).toInt = 3 := by decide
                             omega
    decide +kernel
  · obtain rfl : k = 5 := by have : (4 : Int32).toInt = 4 := by decide
                             omega
    decide +kernel
  · obtain rfl : k = 4 := by have : (5 : Int32).toInt = 5 := by decide
                             omega
    decide +kernel
  · obtain rfl : k = 3 := by have : (6 : Int32).toInt = 6 := by decide
                             omega
    decide +kernel
  · obtain rfl : k = 2 := by have : (7 : Int32).toInt = 7 := by decide
                             omega
    decide +kernel
  · obtain rfl : k = 1 := by have : (8 : Int32).toInt = 8 := by decide
                             omega
    decide +kernel
  · obtain rfl : k = 0 := by have : (9 : Int32).toInt = 9 := by decide
                             omega
    decide +kernel
theorem own_dig (x : Int32) : 0 ≤ ((x &&& 2147483647) % 10).toInt ∧ ((x &&& 2147483647) % 10).toInt < 10 := by
  have h := c_and x 2147483647 (by decide)
  rw [(c_irem (x &&& 2147483647) 10 10 (by decide)).1 h.1]
  omega

theorem d1_0 : decode prog_8_method_6_code 0 = .ok (.lconst 1, 1) := by decide +kernel
theorem d1_1 : decode prog_8_method_6_code 1 = .ok (.lstore_n 1, 1) := by decide +kernel
theorem d1_2 : decode prog_8_method_6_code 2 = .ok (.iload_n 0, 1) := by decide +kernel
theorem d1_3 : decode prog_8_method_6_code 3 = .ok (.istore_n 3, 1) := by decide +kernel
theorem d1_4 : decode prog_8_method_6_code 4 = .ok (.iload_n 3, 1) := by decide +kernel
theorem d1_5 : decode prog_8_method_6_code 5 = .ok (.bipush 9, 2) := by decide +kernel
theorem d1_7 : decode prog_8_method_6_code 7 = .ok (.if_icmp .ge 15, 3) := by decide +kernel
theorem d1_10 : decode prog_8_method_6_code 10 = .ok (.lload_n 1, 1) := by decide +kernel
theorem d1_11 : decode prog_8_method_6_code 11 = .ok (.ldc2_w 99, 3) := by decide +kernel
theorem d1_14 : decode prog_8_method_6_code 14 = .ok (.lmul, 1) := by decide +kernel
theorem d1_15 : decode prog_8_method_6_code 15 = .ok (.lstore_n 1, 1) := by decide +kernel
theorem d1_16 : decode prog_8_method_6_code 16 = .ok (.iinc 3 1, 3) := by decide +kernel
theorem d1_19 : decode prog_8_method_6_code 19 = .ok (.goto (-15), 3) := by decide +kernel
theorem d1_22 : decode prog_8_method_6_code 22 = .ok (.lload_n 1, 1) := by decide +kernel
theorem d1_23 : decode prog_8_method_6_code 23 = .ok (.lreturn, 1) := by decide +kernel
theorem pn_com_example_strict_flush_strictflush_ColumnTypeUnitPinLaw : plainName "com/example/strict_flush/strictflush/ColumnTypeUnitPinLaw" = true := by first | (simp [plainName, overriddenIn]; done) | decide +kernel
theorem pn_com_example_strict_flush_strictflush_ColumnType : plainName "com/example/strict_flush/strictflush/ColumnType" = true := by first | (simp [plainName, overriddenIn]; done) | decide +kernel
theorem pd_0 : parseMethodDescriptor "(I)J" = some ⟨[.int], some .long⟩ := by decide +kernel
set_option maxRecDepth 65536 in
set_option maxHeartbeats 40000000 in
theorem loop1 {p : Program} {l : Launch} {e : Env} {R : Room} {s : State} {m : MethodId} {args : Array Value} {below : List Frame} {meth : Method} {c : Code} {locs : List Loc} {cells slots : Nat} {Z : State} {a0 : Array Value} {h0 : Heap} (hx : p.tables.exec = Jvm.exec) (hZ : Z.Warmed39 s.vm) (hw : ∀ d ∈ tables_1, d.before a0 Z = true) (hby : c.code = prog_8_method_6_code) (hml : c.maxLocals = 4) (hown : s.vm.findClass "com/example/strict_flush/strictflush/ColumnType" = some m.cls) (d : Int32) :
    ∀ (n : Nat) (r : Int64) (i : Int32) (T0 : State), i.toInt + n = 9 → Stand p l e R s m args below meth c T0 locs cells slots → T0.heap = h0 →
      ∃ T', Stand p l e R s m args below meth c T' locs cells slots ∧ T'.heap = h0 ∧ ∀ t, Steps p.tables e below (T'.setTop (mkF m 22 #[.val (.int d), .val (.long (own_pow r n)), .second, .val (.int 9)] [])) t → Steps p.tables e below (T0.setTop (mkF m 4 #[.val (.int d), .val (.long r), .second, .val (.int i)] [])) t := by
  intro n
  induction n with
  | zero =>
    intro r i T0 hi X0 e0
    have hi9 : i = 9 := by
      apply Int32.toInt_inj.mp
      rw [show (9 : Int32).toInt = 9 from by decide]
      omega
    have pre0 := fun τ (κ : Steps p.tables e below (T0.setTop (mkF m 4 #[.val (.int d), .val (.long r), .second, .val (.int i)] [])) τ) => κ
    have pre1 := fun τ (κ : Steps p.tables e below (T0.setTop (mkF m 22 #[.val (.int d), .val (.long r), .second, .val (.int i)] [])) τ) => pre0 τ (by
      refine XS.iloadN X0.here hx rfl (hb hby d1_4) rfl ?_
      show Steps p.tables e below (T0.setTop (mkF m 5 #[.val (.int d), .val (.long r), .second, .val (.int i)] [(.int i)])) _
      refine XS.bipush X0.here hx rfl (hb hby d1_5) ?_
      show Steps p.tables e below (T0.setTop (mkF m 7 #[.val (.int d), .val (.long r), .second, .val (.int i)] [(.int (9 : Int32)), (.int i)])) _
      refine XS.icmpYes X0.here hx rfl (pc0 := 7) (pc' := 22) rfl (hb hby d1_7) rfl (flt (by rw [hi9]; decide)).2.1 (by decide) (by decide) ?_
      show Steps p.tables e below (T0.setTop (mkF m 22 #[.val (.int d), .val (.long r), .second, .val (.int i)] [])) _
      exact κ)
    rw [hi9] at pre1 ⊢
    exact ⟨T0, X0, e0, pre1⟩
  | succ n ih =>
    intro r i T0 hi X0 e0
    have hlt : i < (9 : Int32) := by
      rw [Int32.lt_iff_toInt_lt, show (9 : Int32).toInt = 9 from by decide]
      omega
    have hi1 : (i + 1).toInt + n = 9 := by
      have h1 := c_iadd i 1
      have h2 := rng32 (i + 1)
      have h3 := rng32 i
      rw [show (1 : Int32).toInt = 1 from by decide] at h1
      omega
    have pre0 := fun τ (κ : Steps p.tables e below (T0.setTop (mkF m 4 #[.val (.int d), .val (.long r), .second, .val (.int i)] [])) τ) => κ
    have pre1 := fun τ (κ : Steps p.tables e below (T0.setTop (mkF m 4 #[.val (.int d), .val (.long (r * (10 : Int64))), .second, .val (.int (i + (1 : Int32)))] [])) τ) => pre0 τ (by
      refine XS.iloadN X0.here hx rfl (hb hby d1_4) rfl ?_
      show Steps p.tables e below (T0.setTop (mkF m 5 #[.val (.int d), .val (.long r), .second, .val (.int i)] [(.int i)])) _
      refine XS.bipush X0.here hx rfl (hb hby d1_5) ?_
      show Steps p.tables e below (T0.setTop (mkF m 7 #[.val (.int d), .val (.long r), .second, .val (.int i)] [(.int (9 : Int32)), (.int i)])) _
      refine XS.icmpNo X0.here hx rfl (hb hby d1_7) rfl (tlt hlt).2.1 ?_
      show Steps p.tables e below (T0.setTop (mkF m 10 #[.val (.int d), .val (.long r), .second, .val (.int i)] [])) _
      refine XS.lloadN X0.here hx rfl (hb hby d1_10) rfl ?_
      show Steps p.tables e below (T0.setTop (mkF m 11 #[.val (.int d), .val (.long r), .second, .val (.int i)] [(.long r)])) _
      refine X0.ldc2Long hx hown (mvT hZ (hw _ (List.mem_of_getElem? (i := 15) rfl))) (g := (mkF m 11 #[.val (.int d), .val (.long r), .second, .val (.int i)] [(.long r)])) rfl (hb hby d1_11) _ ?_
      show Steps p.tables e below (T0.setTop (mkF m 14 #[.val (.int d), .val (.long r), .second, .val (.int i)] [(.long (10 : Int64)), (.long r)])) _
      refine XS.lmul X0.here hx rfl (hb hby d1_14) rfl ?_
      show Steps p.tables e below (T0.setTop (mkF m 15 #[.val (.int d), .val (.long r), .second, .val (.int i)] [(.long (r * (10 : Int64)))])) _
      refine XS.lstoreN X0.here hx rfl (hb hby d1_15) rfl (l' := #[.val (.int d), .val (.long (r * (10 : Int64))), .second, .val (.int i)]) rfl ?_
      show Steps p.tables e below (T0.setTop (mkF m 16 #[.val (.int d), .val (.long (r * (10 : Int64))), .second, .val (.int i)] [])) _
      refine XS.iinc X0.here hx rfl (hb hby d1_16) rfl (l' := #[.val (.int d), .val (.long (r * (10 : Int64))), .second, .val (.int (i + (1 : Int32)))]) rfl ?_
      show Steps p.tables e below (T0.setTop (mkF m 19 #[.val (.int d), .val (.long (r * (10 : Int64))), .second, .val (.int (i + (1 : Int32)))] [])) _
      refine XS.goto X0.here hx rfl (pc0 := 19) (pc' := 4) rfl (hb hby d1_19) (by decide) (by decide) ?_
      show Steps p.tables e below (T0.setTop (mkF m 4 #[.val (.int d), .val (.long (r * (10 : Int64))), .second, .val (.int (i + (1 : Int32)))] [])) _
      exact κ)
    obtain ⟨T', X', e', st⟩ := ih (r * 10) (i + 1) T0 hi1 X0 e0
    exact ⟨T', X', e', fun τ κ => pre1 τ (st τ κ)⟩

theorem ef_1 (m : MethodId) (d : Int32) (k : Nat) : entryFrame m #[(.int d)] 4 = mkF m 0 #[.val (.int d), .unset, .unset, .unset] [] := by first | (simp [entryFrame, mkF, argsToLocals, Value.category]; done) | rfl
def Q1 (Z : State) (d : Int32) (k : Nat) (h0 : Heap) (n0 : Nat) (v : Option Value) (h : Heap) (L : List Loc) : Prop := v = some (.long (own_pow 1 k)) ∧ Fr n0 L ∧ h = h0
set_option maxRecDepth 65536 in
set_option maxHeartbeats 40000000 in
theorem rm1 (l : Launch) (Z : State) (a0 : Array Value) (hw : ∀ d ∈ tables_1, d.before a0 Z = true) (ws : List Jvm.Cond) (d : Int32) (k : Nat) (h0 : Heap) (n0 : Nat) (Z0 : n0 ≤ h0.size) (hk : d.toInt + k = 9) :
    MetFree l (⟨"com/example/strict_flush/strictflush/ColumnType", "unit", "(I)J"⟩ : MethodName) (head1 (Jvm.Cond.code (⟨"com/example/strict_flush/strictflush/ColumnType", "unit", "(I)J"⟩ : MethodName) prog_8_method_6_code 4 (some .long) :: ws) ({ frames := 0, cells := 0, slots := 0, locals := 0 } : Room)) (fun α υ => α = #[(.int d)] ∧ Z.Warmed39 υ.vm ∧ υ.heap = h0) (fun _ _ _ _ _ => True) (fun _ υ ω υ' => ∃ v L, ω = .returned v ∧ Q1 Z d k h0 n0 v υ'.heap L ∧ FrameEnd υ ω υ' L ({ frames := 0, cells := 0, slots := 0, locals := 0 } : Room).cells ({ frames := 0, cells := 0, slots := 0, locals := 0 } : Room).slots) := by
  refine MetFree.of_bodySF (plainFor_of_name pn_com_example_strict_flush_strictflush_ColumnType) hisR ?_
  intro p e s m args below meth c s₁ Bd hml0 hP hK
  obtain ⟨rfl, hZ, hh⟩ := hP
  have hx := Bd.exec
  have hby := Bd.bytes
  have hml : c.maxLocals = 4 := hml0
  have hown : s.vm.findClass "com/example/strict_flush/strictflush/ColumnType" = some m.cls := findClass_of_methodNamed Bd.named
  have hnm := (name_of_methodNamed Bd.named Bd.method).1
  have X0 : Stand p l e ({ frames := 0, cells := 0, slots := 0, locals := 0 } : Room) s m #[(.int d)] below meth c s₁ [] 0 0 := Stand.of_body Bd
  have e0 : s₁.heap = h0 := by rw [← hh, Bd.state]; rfl
  have N0 := Fr.nil n0
  have pre0 : ∀ τ, Steps p.tables e below (s₁.setTop (mkF m 0 #[.val (.int d), .unset, .unset, .unset] [])) τ → Steps p.tables e below (s₁.setTop (entryFrame m #[(.int d)] 4)) τ := fun τ κ => castTop (ef_1 m d k) κ
  have pre1 := fun τ (κ : Steps p.tables e below (s₁.setTop (mkF m 4 #[.val (.int d), .val (.long (1 : Int64)), .second, .val (.int d)] [])) τ) => pre0 τ (by
    refine XS.lconst X0.here hx rfl (hb hby d1_0) ?_
    show Steps p.tables e below (s₁.setTop (mkF m 1 #[.val (.int d), .unset, .unset, .unset] [(.long (1 : Int64))])) _
    refine XS.lstoreN X0.here hx rfl (hb hby d1_1) rfl (l' := #[.val (.int d), .val (.long (1 : Int64)), .second, .unset]) rfl ?_
    show Steps p.tables e below (s₁.setTop (mkF m 2 #[.val (.int d), .val (.long (1 : Int64)), .second, .unset] [])) _
    refine XS.iloadN X0.here hx rfl (hb hby d1_2) rfl ?_
    show Steps p.tables e below (s₁.setTop (mkF m 3 #[.val (.int d), .val (.long (1 : Int64)), .second, .unset] [(.int d)])) _
    refine XS.istoreN X0.here hx rfl (hb hby d1_3) rfl (l' := #[.val (.int d), .val (.long (1 : Int64)), .second, .val (.int d)]) rfl ?_
    show Steps p.tables e below (s₁.setTop (mkF m 4 #[.val (.int d), .val (.long (1 : Int64)), .second, .val (.int d)] [])) _
    exact κ)
  obtain ⟨T9, X9, e9, st9⟩ := loop1 hx hZ hw hby hml hown d k 1 d s₁ hk X0 e0
  have pre99 := fun τ (κ : Steps p.tables e below (T9.setTop (mkF m 22 #[.val (.int d), .val (.long (own_pow 1 k)), .second, .val (.int (9 : Int32))] [])) τ) => pre1 τ (st9 τ κ)
  have pre2 := fun τ (κ : Steps p.tables e below (T9.setTop (mkF m 23 #[.val (.int d), .val (.long (own_pow 1 k)), .second, .val (.int (9 : Int32))] [(.long (own_pow 1 k))])) τ) => pre99 τ (by
    refine XS.lloadN X9.here hx rfl (hb hby d1_22) rfl ?_
    show Steps p.tables e below (T9.setTop (mkF m 23 #[.val (.int d), .val (.long (own_pow 1 k)), .second, .val (.int (9 : Int32))] [(.long (own_pow 1 k))])) _
    exact κ)
  obtain ⟨fs, hr, hrun, hended, hW, hsame⟩ := X9.leave (v := some (.long (own_pow 1 k))) (fun h => by rw [Bd.returns] at h; cases h)
  refine ⟨_, _, pre2 _ ?_, hrun, hended, _, _, rfl, ?_, ⟨_, rfl⟩, hW, hsame.mono (by decide) (by decide)⟩
  · exact retL X9 hx Bd.returns (hb hby d1_23) hr
  · show Q1 Z d k h0 n0 _ T9.heap _
    rw [e9]
    exact ⟨rfl, N0, rfl⟩
theorem ef_0 (m : MethodId) (p0 : Int32) : entryFrame m #[(.int p0)] maxLocals = mkF m 0 #[.val (.int p0), .unset, .unset] [] := by first | (simp [entryFrame, mkF, argsToLocals, Value.category, maxLocals]; done) | rfl
def Q0 (Z : State) (p0 : Int32) (h0 : Heap) (n0 : Nat) (v : Option Value) (h : Heap) (L : List Loc) : Prop := v = some (.int 1) ∧ Fr n0 L
set_option maxRecDepth 65536 in
set_option maxHeartbeats 40000000 in
theorem rm0 (l : Launch) (Z : State) (a0 : Array Value) (hw : ∀ d ∈ tables_1, d.before a0 Z = true) (ws : List Jvm.Cond) (p0 : Int32) (h0 : Heap) (n0 : Nat) (Z0 : n0 ≤ h0.size) :
    MetFree l x (head1 (Jvm.Cond.code x code maxLocals ret :: ws) room_1) (fun α υ => α = #[(.int p0)] ∧ Z.Warmed39 υ.vm ∧ υ.heap = h0) (fun _ _ _ _ _ => True) (fun _ υ ω υ' => ∃ v L, ω = .returned v ∧ Q0 Z p0 h0 n0 v υ'.heap L ∧ FrameEnd υ ω υ' L room_1.cells room_1.slots) := by
  refine MetFree.of_bodySF (plainFor_of_name pn_com_example_strict_flush_strictflush_ColumnTypeUnitPinLaw) hisR ?_
  intro p e s m args below meth c s₁ Bd hml0 hP hK
  obtain ⟨rfl, hZ, hh⟩ := hP
  have hx := Bd.exec
  have hby := Bd.bytes
  have hml : c.maxLocals = 3 := hml0
  have hown : s.vm.findClass "com/example/strict_flush/strictflush/ColumnTypeUnitPinLaw" = some m.cls := findClass_of_methodNamed Bd.named
  have hnm := (name_of_methodNamed Bd.named Bd.method).1
  have X0 : Stand p l e room_1 s m #[(.int p0)] below meth c s₁ [] 0 0 := Stand.of_body Bd
  have e0 : s₁.heap = h0 := by rw [← hh, Bd.state]; rfl
  have N0 := Fr.nil n0
  have pre0 : ∀ τ, Steps p.tables e below (s₁.setTop (mkF m 0 #[.val (.int p0), .unset, .unset] [])) τ → Steps p.tables e below (s₁.setTop (entryFrame m #[(.int p0)] maxLocals)) τ := fun τ κ => castTop (ef_0 m p0) κ
  have pre1 := fun τ (κ : Steps p.tables e below (s₁.setTop (mkF m 7 #[.val (.int p0), .unset, .unset] [(.int ((p0 &&& (2147483647 : Int32)) % (10 : Int32)))])) τ) => pre0 τ (by
    refine XS.iloadN X0.here hx rfl (hb hby at_0) rfl ?_
    show Steps p.tables e below (s₁.setTop (mkF m 1 #[.val (.int p0), .unset, .unset] [(.int p0)])) _
    refine X0.ldcInt hx hown (mvT hZ (hw _ (List.mem_of_getElem? (i := 0) rfl))) (g := (mkF m 1 #[.val (.int p0), .unset, .unset] [(.int p0)])) rfl (hb hby at_1) _ ?_
    show Steps p.tables e below (s₁.setTop (mkF m 3 #[.val (.int p0), .unset, .unset] [(.int (2147483647 : Int32)), (.int p0)])) _
    refine XS.iand X0.here hx rfl (hb hby at_3) rfl ?_
    show Steps p.tables e below (s₁.setTop (mkF m 4 #[.val (.int p0), .unset, .unset] [(.int (p0 &&& (2147483647 : Int32)))])) _
    refine XS.bipush X0.here hx rfl (hb hby at_4) ?_
    show Steps p.tables e below (s₁.setTop (mkF m 6 #[.val (.int p0), .unset, .unset] [(.int (10 : Int32)), (.int (p0 &&& (2147483647 : Int32)))])) _
    refine iremM X0 hx rfl (hb hby at_6) rfl (by decide) ?_
    show Steps p.tables e below (s₁.setTop (mkF m 7 #[.val (.int p0), .unset, .unset] [(.int ((p0 &&& (2147483647 : Int32)) % (10 : Int32)))])) _
    exact κ)
  obtain ⟨D, h_D⟩ : ∃ z : Int32, z = ((p0 &&& (2147483647 : Int32)) % (10 : Int32)) := ⟨_, rfl⟩
  rw [← h_D] at pre1
  obtain ⟨hD0, hD1⟩ : 0 ≤ D.toInt ∧ D.toInt < 10 := by rw [h_D]; exact own_dig _
  obtain ⟨n9, hn9⟩ : ∃ n9 : Nat, D.toInt + n9 = 9 := ⟨(9 - D.toInt).toNat, by omega⟩
  have hnn : ¬ D < 0 := by rw [Int32.lt_iff_toInt_lt, show (0 : Int32).toInt = 0 from by decide]; omega
  have hlt : D < 10 := by rw [Int32.lt_iff_toInt_lt, show (10 : Int32).toInt = 10 from by decide]; exact hD1
  have pre2 := fun τ (κ : Steps p.tables e below (s₁.setTop (mkF m 10 #[.val (.int p0), .val (.int D), .unset] [(.int (10 : Int32))])) τ) => pre1 τ (by
    refine XS.istoreN X0.here hx rfl (hb hby at_7) rfl (l' := #[.val (.int p0), .val (.int D), .unset]) rfl ?_
    show Steps p.tables e below (s₁.setTop (mkF m 8 #[.val (.int p0), .val (.int D), .unset] [])) _
    refine XS.bipush X0.here hx rfl (hb hby at_8) ?_
    show Steps p.tables e below (s₁.setTop (mkF m 10 #[.val (.int p0), .val (.int D), .unset] [(.int (10 : Int32))])) _
    exact κ)
  obtain ⟨T3, h3, k3, X3, e3, E3, A3, st3⟩ := newP X0 hx hZ (hw _ (List.mem_of_getElem? (i := 1) rfl)) e0 (g := (mkF m 10 #[.val (.int p0), .val (.int D), .unset] [(.int (10 : Int32))])) rfl (hb hby at_10) rfl (by decide) (cap := 10) (by decide) (by decide) (by decide) (by decide)
  obtain ⟨ar, g3⟩ : ∃ z, z = h0.size := ⟨_, rfl⟩
  rw [← g3] at A3 st3
  have g_ar : n0 ≤ ar := Nat.le_trans Z0 (Nat.le_of_eq g3.symm)
  have Z3 : n0 ≤ h3.size := Nat.le_trans Z0 E3.1
  have V_ar_3 : Arv Z h3 ar k3 .long (10 : Int32) [(.long (0 : Int64)), (.long (0 : Int64)), (.long (0 : Int64)), (.long (0 : Int64)), (.long (0 : Int64)), (.long (0 : Int64)), (.long (0 : Int64)), (.long (0 : Int64)), (.long (0 : Int64)), (.long (0 : Int64))] (.long (0 : Int64)) := (Arv.new A3 (by decide)).pad (pad_rep [] (.long (0 : Int64)) 10)
  have pre4 := fun τ (κ : Steps p.tables e below (T3.setTop (mkF m 12 #[.val (.int p0), .val (.int D), .unset] [(.ref ar)])) τ) => pre2 τ (st3 _ κ)
  have pre5 := fun τ (κ : Steps p.tables e below (T3.setTop (mkF m 17 #[.val (.int p0), .val (.int D), .unset] [(.long (1000000000 : Int64)), (.int (0 : Int32)), (.ref ar), (.ref ar)])) τ) => pre4 τ (by
    refine XS.dup X3.here hx rfl (hb hby at_12) rfl rfl ?_
    show Steps p.tables e below (T3.setTop (mkF m 13 #[.val (.int p0), .val (.int D), .unset] [(.ref ar), (.ref ar)])) _
    refine XS.iconst X3.here hx rfl (hb hby at_13) ?_
    show Steps p.tables e below (T3.setTop (mkF m 14 #[.val (.int p0), .val (.int D), .unset] [(.int (0 : Int32)), (.ref ar), (.ref ar)])) _
    refine X3.ldc2Long hx hown (mvT hZ (hw _ (List.mem_of_getElem? (i := 2) rfl))) (g := (mkF m 14 #[.val (.int p0), .val (.int D), .unset] [(.int (0 : Int32)), (.ref ar), (.ref ar)])) rfl (hb hby at_14) _ ?_
    show Steps p.tables e below (T3.setTop (mkF m 17 #[.val (.int p0), .val (.int D), .unset] [(.long (1000000000 : Int64)), (.int (0 : Int32)), (.ref ar), (.ref ar)])) _
    exact κ)
  obtain ⟨cl6, Ar6, q6, S6, M6, H6, G6⟩ := V_ar_3
  have in6 : ¬ ((0 : Int32) < 0 ∨ cl6.slots.size ≤ ((0 : Int32)).toNatClampNeg) := inb_of S6 ⟨by decide, by decide⟩
  obtain ⟨T7, h7, X7, e7, W7, st7⟩ := stJ X3 hx hZ e3 Ar6 (j := (0 : Int32)) in6 (g := (mkF m 17 #[.val (.int p0), .val (.int D), .unset] [(.long (1000000000 : Int64)), (.int (0 : Int32)), (.ref ar), (.ref ar)])) rfl rfl (hb hby at_17)
  have N7 := Fr.snoc X7 N0 g_ar
  have Z7 : n0 ≤ h7.size := Nat.le_trans Z3 (Keep.of_wr W7).1
  have V_ar_7 : Arv Z h7 ar k3 .long (10 : Int32) [(.long (1000000000 : Int64)), (.long (0 : Int64)), (.long (0 : Int64)), (.long (0 : Int64)), (.long (0 : Int64)), (.long (0 : Int64)), (.long (0 : Int64)), (.long (0 : Int64)), (.long (0 : Int64)), (.long (0 : Int64))] (.long (0 : Int64)) := Arv.set Ar6 q6 S6 M6 H6 G6 rfl W7 0 rfl (Nat.le_of_ble_eq_true rfl)
  have pre8 := fun τ (κ : Steps p.tables e below (T7.setTop (mkF m 18 #[.val (.int p0), .val (.int D), .unset] [(.ref ar)])) τ) => pre5 τ (st7 _ κ)
  have pre9 := fun τ (κ : Steps p.tables e below (T7.setTop (mkF m 23 #[.val (.int p0), .val (.int D), .unset] [(.long (100000000 : Int64)), (.int (1 : Int32)), (.ref ar), (.ref ar)])) τ) => pre8 τ (by
    refine XS.dup X7.here hx rfl (hb hby at_18) rfl rfl ?_
    show Steps p.tables e below (T7.setTop (mkF m 19 #[.val (.int p0), .val (.int D), .unset] [(.ref ar), (.ref ar)])) _
    refine XS.iconst X7.here hx rfl (hb hby at_19) ?_
    show Steps p.tables e below (T7.setTop (mkF m 20 #[.val (.int p0), .val (.int D), .unset] [(.int (1 : Int32)), (.ref ar), (.ref ar)])) _
    refine X7.ldc2Long hx hown (mvT hZ (hw _ (List.mem_of_getElem? (i := 3) rfl))) (g := (mkF m 20 #[.val (.int p0), .val (.int D), .unset] [(.int (1 : Int32)), (.ref ar), (.ref ar)])) rfl (hb hby at_20) _ ?_
    show Steps p.tables e below (T7.setTop (mkF m 23 #[.val (.int p0), .val (.int D), .unset] [(.long (100000000 : Int64)), (.int (1 : Int32)), (.ref ar), (.ref ar)])) _
    exact κ)
  obtain ⟨cl10, Ar10, q10, S10, M10, H10, G10⟩ := V_ar_7
  have in10 : ¬ ((1 : Int32) < 0 ∨ cl10.slots.size ≤ ((1 : Int32)).toNatClampNeg) := inb_of S10 ⟨by decide, by decide⟩
  obtain ⟨T11, h11, X11, e11, W11, st11⟩ := stJ X7 hx hZ e7 Ar10 (j := (1 : Int32)) in10 (g := (mkF m 23 #[.val (.int p0), .val (.int D), .unset] [(.long (100000000 : Int64)), (.int (1 : Int32)), (.ref ar), (.ref ar)])) rfl rfl (hb hby at_23)
  have N11 := Fr.snoc X11 N7 g_ar
  have Z11 : n0 ≤ h11.size := Nat.le_trans Z7 (Keep.of_wr W11).1
  have V_ar_11 : Arv Z h11 ar k3 .long (10 : Int32) [(.long (1000000000 : Int64)), (.long (100000000 : Int64)), (.long (0 : Int64)), (.long (0 : Int64)), (.long (0 : Int64)), (.long (0 : Int64)), (.long (0 : Int64)), (.long (0 : Int64)), (.long (0 : Int64)), (.long (0 : Int64))] (.long (0 : Int64)) := Arv.set Ar10 q10 S10 M10 H10 G10 rfl W11 1 rfl (Nat.le_of_ble_eq_true rfl)
  have pre12 := fun τ (κ : Steps p.tables e below (T11.setTop (mkF m 24 #[.val (.int p0), .val (.int D), .unset] [(.ref ar)])) τ) => pre9 τ (st11 _ κ)
  have pre13 := fun τ (κ : Steps p.tables e below (T11.setTop (mkF m 29 #[.val (.int p0), .val (.int D), .unset] [(.long (10000000 : Int64)), (.int (2 : Int32)), (.ref ar), (.ref ar)])) τ) => pre12 τ (by
    refine XS.dup X11.here hx rfl (hb hby at_24) rfl rfl ?_
    show Steps p.tables e below (T11.setTop (mkF m 25 #[.val (.int p0), .val (.int D), .unset] [(.ref ar), (.ref ar)])) _
    refine XS.iconst X11.here hx rfl (hb hby at_25) ?_
    show Steps p.tables e below (T11.setTop (mkF m 26 #[.val (.int p0), .val (.int D), .unset] [(.int (2 : Int32)), (.ref ar), (.ref ar)])) _
    refine X11.ldc2Long hx hown (mvT hZ (hw _ (List.mem_of_getElem? (i := 4) rfl))) (g := (mkF m 26 #[.val (.int p0), .val (.int D), .unset] [(.int (2 : Int32)), (.ref ar), (.ref ar)])) rfl (hb hby at_26) _ ?_
    show Steps p.tables e below (T11.setTop (mkF m 29 #[.val (.int p0), .val (.int D), .unset] [(.long (10000000 : Int64)), (.int (2 : Int32)), (.ref ar), (.ref ar)])) _
    exact κ)
  obtain ⟨cl14, Ar14, q14, S14, M14, H14, G14⟩ := V_ar_11
  have in14 : ¬ ((2 : Int32) < 0 ∨ cl14.slots.size ≤ ((2 : Int32)).toNatClampNeg) := inb_of S14 ⟨by decide, by decide⟩
  obtain ⟨T15, h15, X15, e15, W15, st15⟩ := stJ X11 hx hZ e11 Ar14 (j := (2 : Int32)) in14 (g := (mkF m 29 #[.val (.int p0), .val (.int D), .unset] [(.long (10000000 : Int64)), (.int (2 : Int32)), (.ref ar), (.ref ar)])) rfl rfl (hb hby at_29)
  have N15 := Fr.snoc X15 N11 g_ar
  have Z15 : n0 ≤ h15.size := Nat.le_trans Z11 (Keep.of_wr W15).1
  have V_ar_15 : Arv Z h15 ar k3 .long (10 : Int32) [(.long (1000000000 : Int64)), (.long (100000000 : Int64)), (.long (10000000 : Int64)), (.long (0 : Int64)), (.long (0 : Int64)), (.long (0 : Int64)), (.long (0 : Int64)), (.long (0 : Int64)), (.long (0 : Int64)), (.long (0 : Int64))] (.long (0 : Int64)) := Arv.set Ar14 q14 S14 M14 H14 G14 rfl W15 2 rfl (Nat.le_of_ble_eq_true rfl)
  have pre16 := fun τ (κ : Steps p.tables e below (T15.setTop (mkF m 30 #[.val (.int p0), .val (.int D), .unset] [(.ref ar)])) τ) => pre13 τ (st15 _ κ)
  have pre17 := fun τ (κ : Steps p.tables e below (T15.setTop (mkF m 35 #[.val (.int p0), .val (.int D), .unset] [(.long (1000000 : Int64)), (.int (3 : Int32)), (.ref ar), (.ref ar)])) τ) => pre16 τ (by
    refine XS.dup X15.here hx rfl (hb hby at_30) rfl rfl ?_
    show Steps p.tables e below (T15.setTop (mkF m 31 #[.val (.int p0), .val (.int D), .unset] [(.ref ar), (.ref ar)])) _
    refine XS.iconst X15.here hx rfl (hb hby at_31) ?_
    show Steps p.tables e below (T15.setTop (mkF m 32 #[.val (.int p0), .val (.int D), .unset] [(.int (3 : Int32)), (.ref ar), (.ref ar)])) _
    refine X15.ldc2Long hx hown (mvT hZ (hw _ (List.mem_of_getElem? (i := 5) rfl))) (g := (mkF m 32 #[.val (.int p0), .val (.int D), .unset] [(.int (3 : Int32)), (.ref ar), (.ref ar)])) rfl (hb hby at_32) _ ?_
    show Steps p.tables e below (T15.setTop (mkF m 35 #[.val (.int p0), .val (.int D), .unset] [(.long (1000000 : Int64)), (.int (3 : Int32)), (.ref ar), (.ref ar)])) _
    exact κ)
  obtain ⟨cl18, Ar18, q18, S18, M18, H18, G18⟩ := V_ar_15
  have in18 : ¬ ((3 : Int32) < 0 ∨ cl18.slots.size ≤ ((3 : Int32)).toNatClampNeg) := inb_of S18 ⟨by decide, by decide⟩
  obtain ⟨T19, h19, X19, e19, W19, st19⟩ := stJ X15 hx hZ e15 Ar18 (j := (3 : Int32)) in18 (g := (mkF m 35 #[.val (.int p0), .val (.int D), .unset] [(.long (1000000 : Int64)), (.int (3 : Int32)), (.ref ar), (.ref ar)])) rfl rfl (hb hby at_35)
  have N19 := Fr.snoc X19 N15 g_ar
  have Z19 : n0 ≤ h19.size := Nat.le_trans Z15 (Keep.of_wr W19).1
  have V_ar_19 : Arv Z h19 ar k3 .long (10 : Int32) [(.long (1000000000 : Int64)), (.long (100000000 : Int64)), (.long (10000000 : Int64)), (.long (1000000 : Int64)), (.long (0 : Int64)), (.long (0 : Int64)), (.long (0 : Int64)), (.long (0 : Int64)), (.long (0 : Int64)), (.long (0 : Int64))] (.long (0 : Int64)) := Arv.set Ar18 q18 S18 M18 H18 G18 rfl W19 3 rfl (Nat.le_of_ble_eq_true rfl)
  have pre20 := fun τ (κ : Steps p.tables e below (T19.setTop (mkF m 36 #[.val (.int p0), .val (.int D), .unset] [(.ref ar)])) τ) => pre17 τ (st19 _ κ)
  have pre21 := fun τ (κ : Steps p.tables e below (T19.setTop (mkF m 41 #[.val (.int p0), .val (.int D), .unset] [(.long (100000 : Int64)), (.int (4 : Int32)), (.ref ar), (.ref ar)])) τ) => pre20 τ (by
    refine XS.dup X19.here hx rfl (hb hby at_36) rfl rfl ?_
    show Steps p.tables e below (T19.setTop (mkF m 37 #[.val (.int p0), .val (.int D), .unset] [(.ref ar), (.ref ar)])) _
    refine XS.iconst X19.here hx rfl (hb hby at_37) ?_
    show Steps p.tables e below (T19.setTop (mkF m 38 #[.val (.int p0), .val (.int D), .unset] [(.int (4 : Int32)), (.ref ar), (.ref ar)])) _
    refine X19.ldc2Long hx hown (mvT hZ (hw _ (List.mem_of_getElem? (i := 6) rfl))) (g := (mkF m 38 #[.val (.int p0), .val (.int D), .unset] [(.int (4 : Int32)), (.ref ar), (.ref ar)])) rfl (hb hby at_38) _ ?_
    show Steps p.tables e below (T19.setTop (mkF m 41 #[.val (.int p0), .val (.int D), .unset] [(.long (100000 : Int64)), (.int (4 : Int32)), (.ref ar), (.ref ar)])) _
    exact κ)
  obtain ⟨cl22, Ar22, q22, S22, M22, H22, G22⟩ := V_ar_19
  have in22 : ¬ ((4 : Int32) < 0 ∨ cl22.slots.size ≤ ((4 : Int32)).toNatClampNeg) := inb_of S22 ⟨by decide, by decide⟩
  obtain ⟨T23, h23, X23, e23, W23, st23⟩ := stJ X19 hx hZ e19 Ar22 (j := (4 : Int32)) in22 (g := (mkF m 41 #[.val (.int p0), .val (.int D), .unset] [(.long (100000 : Int64)), (.int (4 : Int32)), (.ref ar), (.ref ar)])) rfl rfl (hb hby at_41)
  have N23 := Fr.snoc X23 N19 g_ar
  have Z23 : n0 ≤ h23.size := Nat.le_trans Z19 (Keep.of_wr W23).1
  have V_ar_23 : Arv Z h23 ar k3 .long (10 : Int32) [(.long (1000000000 : Int64)), (.long (100000000 : Int64)), (.long (10000000 : Int64)), (.long (1000000 : Int64)), (.long (100000 : Int64)), (.long (0 : Int64)), (.long (0 : Int64)), (.long (0 : Int64)), (.long (0 : Int64)), (.long (0 : Int64))] (.long (0 : Int64)) := Arv.set Ar22 q22 S22 M22 H22 G22 rfl W23 4 rfl (Nat.le_of_ble_eq_true rfl)
  have pre24 := fun τ (κ : Steps p.tables e below (T23.setTop (mkF m 42 #[.val (.int p0), .val (.int D), .unset] [(.ref ar)])) τ) => pre21 τ (st23 _ κ)
  have pre25 := fun τ (κ : Steps p.tables e below (T23.setTop (mkF m 47 #[.val (.int p0), .val (.int D), .unset] [(.long (10000 : Int64)), (.int (5 : Int32)), (.ref ar), (.ref ar)])) τ) => pre24 τ (by
    refine XS.dup X23.here hx rfl (hb hby at_42) rfl rfl ?_
    show Steps p.tables e below (T23.setTop (mkF m 43 #[.val (.int p0), .val (.int D), .unset] [(.ref ar), (.ref ar)])) _
    refine XS.iconst X23.here hx rfl (hb hby at_43) ?_
    show Steps p.tables e below (T23.setTop (mkF m 44 #[.val (.int p0), .val (.int D), .unset] [(.int (5 : Int32)), (.ref ar), (.ref ar)])) _
    refine X23.ldc2Long hx hown (mvT hZ (hw _ (List.mem_of_getElem? (i := 7) rfl))) (g := (mkF m 44 #[.val (.int p0), .val (.int D), .unset] [(.int (5 : Int32)), (.ref ar), (.ref ar)])) rfl (hb hby at_44) _ ?_
    show Steps p.tables e below (T23.setTop (mkF m 47 #[.val (.int p0), .val (.int D), .unset] [(.long (10000 : Int64)), (.int (5 : Int32)), (.ref ar), (.ref ar)])) _
    exact κ)
  obtain ⟨cl26, Ar26, q26, S26, M26, H26, G26⟩ := V_ar_23
  have in26 : ¬ ((5 : Int32) < 0 ∨ cl26.slots.size ≤ ((5 : Int32)).toNatClampNeg) := inb_of S26 ⟨by decide, by decide⟩
  obtain ⟨T27, h27, X27, e27, W27, st27⟩ := stJ X23 hx hZ e23 Ar26 (j := (5 : Int32)) in26 (g := (mkF m 47 #[.val (.int p0), .val (.int D), .unset] [(.long (10000 : Int64)), (.int (5 : Int32)), (.ref ar), (.ref ar)])) rfl rfl (hb hby at_47)
  have N27 := Fr.snoc X27 N23 g_ar
  have Z27 : n0 ≤ h27.size := Nat.le_trans Z23 (Keep.of_wr W27).1
  have V_ar_27 : Arv Z h27 ar k3 .long (10 : Int32) [(.long (1000000000 : Int64)), (.long (100000000 : Int64)), (.long (10000000 : Int64)), (.long (1000000 : Int64)), (.long (100000 : Int64)), (.long (10000 : Int64)), (.long (0 : Int64)), (.long (0 : Int64)), (.long (0 : Int64)), (.long (0 : Int64))] (.long (0 : Int64)) := Arv.set Ar26 q26 S26 M26 H26 G26 rfl W27 5 rfl (Nat.le_of_ble_eq_true rfl)
  have pre28 := fun τ (κ : Steps p.tables e below (T27.setTop (mkF m 48 #[.val (.int p0), .val (.int D), .unset] [(.ref ar)])) τ) => pre25 τ (st27 _ κ)
  have pre29 := fun τ (κ : Steps p.tables e below (T27.setTop (mkF m 54 #[.val (.int p0), .val (.int D), .unset] [(.long (1000 : Int64)), (.int (6 : Int32)), (.ref ar), (.ref ar)])) τ) => pre28 τ (by
    refine XS.dup X27.here hx rfl (hb hby at_48) rfl rfl ?_
    show Steps p.tables e below (T27.setTop (mkF m 49 #[.val (.int p0), .val (.int D), .unset] [(.ref ar), (.ref ar)])) _
    refine XS.bipush X27.here hx rfl (hb hby at_49) ?_
    show Steps p.tables e below (T27.setTop (mkF m 51 #[.val (.int p0), .val (.int D), .unset] [(.int (6 : Int32)), (.ref ar), (.ref ar)])) _
    refine X27.ldc2Long hx hown (mvT hZ (hw _ (List.mem_of_getElem? (i := 8) rfl))) (g := (mkF m 51 #[.val (.int p0), .val (.int D), .unset] [(.int (6 : Int32)), (.ref ar), (.ref ar)])) rfl (hb hby at_51) _ ?_
    show Steps p.tables e below (T27.setTop (mkF m 54 #[.val (.int p0), .val (.int D), .unset] [(.long (1000 : Int64)), (.int (6 : Int32)), (.ref ar), (.ref ar)])) _
    exact κ)
  obtain ⟨cl30, Ar30, q30, S30, M30, H30, G30⟩ := V_ar_27
  have in30 : ¬ ((6 : Int32) < 0 ∨ cl30.slots.size ≤ ((6 : Int32)).toNatClampNeg) := inb_of S30 ⟨by decide, by decide⟩
  obtain ⟨T31, h31, X31, e31, W31, st31⟩ := stJ X27 hx hZ e27 Ar30 (j := (6 : Int32)) in30 (g := (mkF m 54 #[.val (.int p0), .val (.int D), .unset] [(.long (1000 : Int64)), (.int (6 : Int32)), (.ref ar), (.ref ar)])) rfl rfl (hb hby at_54)
  have N31 := Fr.snoc X31 N27 g_ar
  have Z31 : n0 ≤ h31.size := Nat.le_trans Z27 (Keep.of_wr W31).1
  have V_ar_31 : Arv Z h31 ar k3 .long (10 : Int32) [(.long (1000000000 : Int64)), (.long (100000000 : Int64)), (.long (10000000 : Int64)), (.long (1000000 : Int64)), (.long (100000 : Int64)), (.long (10000 : Int64)), (.long (1000 : Int64)), (.long (0 : Int64)), (.long (0 : Int64)), (.long (0 : Int64))] (.long (0 : Int64)) := Arv.set Ar30 q30 S30 M30 H30 G30 rfl W31 6 rfl (Nat.le_of_ble_eq_true rfl)
  have pre32 := fun τ (κ : Steps p.tables e below (T31.setTop (mkF m 55 #[.val (.int p0), .val (.int D), .unset] [(.ref ar)])) τ) => pre29 τ (st31 _ κ)
  have pre33 := fun τ (κ : Steps p.tables e below (T31.setTop (mkF m 61 #[.val (.int p0), .val (.int D), .unset] [(.long (100 : Int64)), (.int (7 : Int32)), (.ref ar), (.ref ar)])) τ) => pre32 τ (by
    refine XS.dup X31.here hx rfl (hb hby at_55) rfl rfl ?_
    show Steps p.tables e below (T31.setTop (mkF m 56 #[.val (.int p0), .val (.int D), .unset] [(.ref ar), (.ref ar)])) _
    refine XS.bipush X31.here hx rfl (hb hby at_56) ?_
    show Steps p.tables e below (T31.setTop (mkF m 58 #[.val (.int p0), .val (.int D), .unset] [(.int (7 : Int32)), (.ref ar), (.ref ar)])) _
    refine X31.ldc2Long hx hown (mvT hZ (hw _ (List.mem_of_getElem? (i := 9) rfl))) (g := (mkF m 58 #[.val (.int p0), .val (.int D), .unset] [(.int (7 : Int32)), (.ref ar), (.ref ar)])) rfl (hb hby at_58) _ ?_
    show Steps p.tables e below (T31.setTop (mkF m 61 #[.val (.int p0), .val (.int D), .unset] [(.long (100 : Int64)), (.int (7 : Int32)), (.ref ar), (.ref ar)])) _
    exact κ)
  obtain ⟨cl34, Ar34, q34, S34, M34, H34, G34⟩ := V_ar_31
  have in34 : ¬ ((7 : Int32) < 0 ∨ cl34.slots.size ≤ ((7 : Int32)).toNatClampNeg) := inb_of S34 ⟨by decide, by decide⟩
  obtain ⟨T35, h35, X35, e35, W35, st35⟩ := stJ X31 hx hZ e31 Ar34 (j := (7 : Int32)) in34 (g := (mkF m 61 #[.val (.int p0), .val (.int D), .unset] [(.long (100 : Int64)), (.int (7 : Int32)), (.ref ar), (.ref ar)])) rfl rfl (hb hby at_61)
  have N35 := Fr.snoc X35 N31 g_ar
  have Z35 : n0 ≤ h35.size := Nat.le_trans Z31 (Keep.of_wr W35).1
  have V_ar_35 : Arv Z h35 ar k3 .long (10 : Int32) [(.long (1000000000 : Int64)), (.long (100000000 : Int64)), (.long (10000000 : Int64)), (.long (1000000 : Int64)), (.long (100000 : Int64)), (.long (10000 : Int64)), (.long (1000 : Int64)), (.long (100 : Int64)), (.long (0 : Int64)), (.long (0 : Int64))] (.long (0 : Int64)) := Arv.set Ar34 q34 S34 M34 H34 G34 rfl W35 7 rfl (Nat.le_of_ble_eq_true rfl)
  have pre36 := fun τ (κ : Steps p.tables e below (T35.setTop (mkF m 62 #[.val (.int p0), .val (.int D), .unset] [(.ref ar)])) τ) => pre33 τ (st35 _ κ)
  have pre37 := fun τ (κ : Steps p.tables e below (T35.setTop (mkF m 68 #[.val (.int p0), .val (.int D), .unset] [(.long (10 : Int64)), (.int (8 : Int32)), (.ref ar), (.ref ar)])) τ) => pre36 τ (by
    refine XS.dup X35.here hx rfl (hb hby at_62) rfl rfl ?_
    show Steps p.tables e below (T35.setTop (mkF m 63 #[.val (.int p0), .val (.int D), .unset] [(.ref ar), (.ref ar)])) _
    refine XS.bipush X35.here hx rfl (hb hby at_63) ?_
    show Steps p.tables e below (T35.setTop (mkF m 65 #[.val (.int p0), .val (.int D), .unset] [(.int (8 : Int32)), (.ref ar), (.ref ar)])) _
    refine X35.ldc2Long hx hown (mvT hZ (hw _ (List.mem_of_getElem? (i := 10) rfl))) (g := (mkF m 65 #[.val (.int p0), .val (.int D), .unset] [(.int (8 : Int32)), (.ref ar), (.ref ar)])) rfl (hb hby at_65) _ ?_
    show Steps p.tables e below (T35.setTop (mkF m 68 #[.val (.int p0), .val (.int D), .unset] [(.long (10 : Int64)), (.int (8 : Int32)), (.ref ar), (.ref ar)])) _
    exact κ)
  obtain ⟨cl38, Ar38, q38, S38, M38, H38, G38⟩ := V_ar_35
  have in38 : ¬ ((8 : Int32) < 0 ∨ cl38.slots.size ≤ ((8 : Int32)).toNatClampNeg) := inb_of S38 ⟨by decide, by decide⟩
  obtain ⟨T39, h39, X39, e39, W39, st39⟩ := stJ X35 hx hZ e35 Ar38 (j := (8 : Int32)) in38 (g := (mkF m 68 #[.val (.int p0), .val (.int D), .unset] [(.long (10 : Int64)), (.int (8 : Int32)), (.ref ar), (.ref ar)])) rfl rfl (hb hby at_68)
  have N39 := Fr.snoc X39 N35 g_ar
  have Z39 : n0 ≤ h39.size := Nat.le_trans Z35 (Keep.of_wr W39).1
  have V_ar_39 : Arv Z h39 ar k3 .long (10 : Int32) [(.long (1000000000 : Int64)), (.long (100000000 : Int64)), (.long (10000000 : Int64)), (.long (1000000 : Int64)), (.long (100000 : Int64)), (.long (10000 : Int64)), (.long (1000 : Int64)), (.long (100 : Int64)), (.long (10 : Int64)), (.long (0 : Int64))] (.long (0 : Int64)) := Arv.set Ar38 q38 S38 M38 H38 G38 rfl W39 8 rfl (Nat.le_of_ble_eq_true rfl)
  have pre40 := fun τ (κ : Steps p.tables e below (T39.setTop (mkF m 69 #[.val (.int p0), .val (.int D), .unset] [(.ref ar)])) τ) => pre37 τ (st39 _ κ)
  have pre41 := fun τ (κ : Steps p.tables e below (T39.setTop (mkF m 73 #[.val (.int p0), .val (.int D), .unset] [(.long (1 : Int64)), (.int (9 : Int32)), (.ref ar), (.ref ar)])) τ) => pre40 τ (by
    refine XS.dup X39.here hx rfl (hb hby at_69) rfl rfl ?_
    show Steps p.tables e below (T39.setTop (mkF m 70 #[.val (.int p0), .val (.int D), .unset] [(.ref ar), (.ref ar)])) _
    refine XS.bipush X39.here hx rfl (hb hby at_70) ?_
    show Steps p.tables e below (T39.setTop (mkF m 72 #[.val (.int p0), .val (.int D), .unset] [(.int (9 : Int32)), (.ref ar), (.ref ar)])) _
    refine XS.lconst X39.here hx rfl (hb hby at_72) ?_
    show Steps p.tables e below (T39.setTop (mkF m 73 #[.val (.int p0), .val (.int D), .unset] [(.long (1 : Int64)), (.int (9 : Int32)), (.ref ar), (.ref ar)])) _
    exact κ)
  obtain ⟨cl42, Ar42, q42, S42, M42, H42, G42⟩ := V_ar_39
  have in42 : ¬ ((9 : Int32) < 0 ∨ cl42.slots.size ≤ ((9 : Int32)).toNatClampNeg) := inb_of S42 ⟨by decide, by decide⟩
  obtain ⟨T43, h43, X43, e43, W43, st43⟩ := stJ X39 hx hZ e39 Ar42 (j := (9 : Int32)) in42 (g := (mkF m 73 #[.val (.int p0), .val (.int D), .unset] [(.long (1 : Int64)), (.int (9 : Int32)), (.ref ar), (.ref ar)])) rfl rfl (hb hby at_73)
  have N43 := Fr.snoc X43 N39 g_ar
  have Z43 : n0 ≤ h43.size := Nat.le_trans Z39 (Keep.of_wr W43).1
  have V_ar_43 : Arv Z h43 ar k3 .long (10 : Int32) [(.long (1000000000 : Int64)), (.long (100000000 : Int64)), (.long (10000000 : Int64)), (.long (1000000 : Int64)), (.long (100000 : Int64)), (.long (10000 : Int64)), (.long (1000 : Int64)), (.long (100 : Int64)), (.long (10 : Int64)), (.long (1 : Int64))] (.long (0 : Int64)) := Arv.set Ar42 q42 S42 M42 H42 G42 rfl W43 9 rfl (Nat.le_of_ble_eq_true rfl)
  have pre44 := fun τ (κ : Steps p.tables e below (T43.setTop (mkF m 74 #[.val (.int p0), .val (.int D), .unset] [(.ref ar)])) τ) => pre41 τ (st43 _ κ)
  have pre45 := fun τ (κ : Steps p.tables e below (T43.setTop (mkF m 76 #[.val (.int p0), .val (.int D), .val (.ref ar)] [(.int D)])) τ) => pre44 τ (by
    refine XS.astoreN X43.here hx rfl (hb hby at_74) rfl rfl (l' := #[.val (.int p0), .val (.int D), .val (.ref ar)]) rfl ?_
    show Steps p.tables e below (T43.setTop (mkF m 75 #[.val (.int p0), .val (.int D), .val (.ref ar)] [])) _
    refine XS.iloadN X43.here hx rfl (hb hby at_75) rfl ?_
    show Steps p.tables e below (T43.setTop (mkF m 76 #[.val (.int p0), .val (.int D), .val (.ref ar)] [(.int D)])) _
    exact κ)
  obtain ⟨_, _, ⟨T46, L46, k46, n46⟩, -, X46, ⟨Lc46, hQ46, l46, y46, z46⟩, st46⟩ := Jvm.LawKit.callS X43 hx (y := (⟨"com/example/strict_flush/strictflush/ColumnType", "unit", "(I)J"⟩ : MethodName)) hown (mvT hZ (hw _ (List.mem_of_getElem? (i := 11) rfl))) (mvT hZ (hw _ (List.mem_of_getElem? (i := 12) rfl))) (mvT hZ (hw _ (List.mem_of_getElem? (i := 13) rfl))) (mvT hZ (hw _ (List.mem_of_getElem? (i := 14) rfl))) (by decide) (backOf (W := 0) (rm1 l Z a0 hw [] D n9 h43 n0 Z43 hn9) hZ (hw _ (List.mem_of_getElem? (i := 14) rfl)) (hw _ (List.mem_of_getElem? (i := 13) rfl)) (by decide) (by decide)) (g := (mkF m 76 #[.val (.int p0), .val (.int D), .val (.ref ar)] [(.int D)])) rfl (by rw [hml]; rfl) (argsL := [(.int D)]) (rest := []) (lenOf pd_0 rfl) rfl (by show 2 * 0 + _ ≤ _; exact Nat.le_of_eq rfl) (hb hby at_76) (fun _ _ => ⟨rfl, e43, (by decide : 1 + 0 ≤ _), (by decide : 10 + 0 ≤ _)⟩)
  dsimp only [Pt.U, Pt.locs, Pt.cells, Pt.slots] at X46 l46 y46 z46 st46 hQ46
  subst l46 y46 z46
  obtain ⟨rfl, Nq46, hh46⟩ := hQ46
  have V_ar_46 : Arv Z T46.heap ar k3 .long (10 : Int32) [(.long (1000000000 : Int64)), (.long (100000000 : Int64)), (.long (10000000 : Int64)), (.long (1000000 : Int64)), (.long (100000 : Int64)), (.long (10000 : Int64)), (.long (1000 : Int64)), (.long (100 : Int64)), (.long (10 : Int64)), (.long (1 : Int64))] (.long (0 : Int64)) := by rw [hh46]; exact V_ar_43
  have Z46 : n0 ≤ T46.heap.size := by rw [hh46]; exact Z43
  have N46 := Fr.app N43 Nq46
  have pre47 := fun τ (κ : Steps p.tables e below (T46.setTop (mkF m 79 #[.val (.int p0), .val (.int D), .val (.ref ar)] [(.long (own_pow 1 n9))])) τ) => pre45 τ (st46 _ κ)
  have pre48 := fun τ (κ : Steps p.tables e below (T46.setTop (mkF m 81 #[.val (.int p0), .val (.int D), .val (.ref ar)] [(.int D), (.ref ar), (.long (own_pow 1 n9))])) τ) => pre47 τ (by
    refine XS.aloadN X46.here hx rfl (hb hby at_79) rfl rfl ?_
    show Steps p.tables e below (T46.setTop (mkF m 80 #[.val (.int p0), .val (.int D), .val (.ref ar)] [(.ref ar), (.long (own_pow 1 n9))])) _
    refine XS.iloadN X46.here hx rfl (hb hby at_80) rfl ?_
    show Steps p.tables e below (T46.setTop (mkF m 81 #[.val (.int p0), .val (.int D), .val (.ref ar)] [(.int D), (.ref ar), (.long (own_pow 1 n9))])) _
    exact κ)
  obtain ⟨cl49, Ar49, -, S49, M49, H49, -⟩ := V_ar_46
  have in49 : ¬ (D < 0 ∨ cl49.slots.size ≤ (D).toNatClampNeg) := inb_of S49 ⟨hnn, hlt⟩
  have at49 : cl49.slots[(D).toNatClampNeg]? = some (.long (own_pow 1 n9)) := H49.at in49 (own_at hn9 hD0 hD1)
  have pre50 := fun τ (κ : Steps p.tables e below (T46.setTop (mkF m 91 #[.val (.int p0), .val (.int D), .val (.ref ar)] [(.int (1 : Int32))])) τ) => pre48 τ (by
    refine X46.laload hx (j := D) (v := (.long (own_pow 1 n9))) Ar49.1 (State.isArrayOf_alike hZ.alike Ar49.2.1) Ar49.2.2 in49 at49 (g := (mkF m 81 #[.val (.int p0), .val (.int D), .val (.ref ar)] [(.int D), (.ref ar), (.long (own_pow 1 n9))])) rfl rfl (hb hby at_81) _ ?_
    show Steps p.tables e below (T46.setTop (mkF m 82 #[.val (.int p0), .val (.int D), .val (.ref ar)] [(.long (own_pow 1 n9)), (.long (own_pow 1 n9))])) _
    refine XS.lcmp X46.here hx rfl (hb hby at_82) rfl ?_
    show Steps p.tables e below (T46.setTop (mkF m 83 #[.val (.int p0), .val (.int D), .val (.ref ar)] [(.int (lcmpW (own_pow 1 n9) (own_pow 1 n9)))])) _
    refine XS.ifNo X46.here hx rfl (hb hby at_83) rfl ((if0 _ _).trans (teq ((lw_eq _ _).mpr rfl)).2) ?_
    show Steps p.tables e below (T46.setTop (mkF m 86 #[.val (.int p0), .val (.int D), .val (.ref ar)] [])) _
    refine XS.iconst X46.here hx rfl (hb hby at_86) ?_
    show Steps p.tables e below (T46.setTop (mkF m 87 #[.val (.int p0), .val (.int D), .val (.ref ar)] [(.int (1 : Int32))])) _
    refine XS.goto X46.here hx rfl (pc0 := 87) (pc' := 91) rfl (hb hby at_87) (by decide) (by decide) ?_
    show Steps p.tables e below (T46.setTop (mkF m 91 #[.val (.int p0), .val (.int D), .val (.ref ar)] [(.int (1 : Int32))])) _
    exact κ)
  obtain ⟨fs, hr, hrun, hended, hW, hsame⟩ := X46.leave (v := some (.int (1 : Int32))) (fun h => by rw [Bd.returns] at h; cases h)
  refine ⟨_, _, pre50 _ ?_, hrun, hended, _, _, rfl, ?_, ⟨_, rfl⟩, hW, hsame.mono (by decide) (by decide)⟩
  · exact retN X46 hx (t := .boolean) Bd.returns (by simp) (hb hby at_91) hr
  · show Q0 Z p0 h0 n0 _ T46.heap _
    exact ⟨rfl, N46⟩
set_option maxRecDepth 65536 in
set_option maxHeartbeats 40000000 in
theorem comes_1 {Post : Tables → Env → Array Value → State → Outcome → State → Prop} (hpost : ∀ tb e args s v u, (limb_1_1.after args s (.returned v) u = true ∧ limb_1_2.after args s (.returned v) u = true ∧ True) → FrameEnd s (.returned v) u (Jvm.fieldLocs frame_1_writes args s ++ Jvm.arrayLocs frame_1_arrays args s ++ Jvm.staticLocs frame_1_statics s) 16 128 → Post tb e args s (.returned v) u) :
    ArmFor flags0 classFile x code maxLocals ret World_1 tables_1 room_1 Calls_1 rest_1 Pre_1 Post := by
  intro l hfl _ _ p e ha hc hk s m args below hf hA hF happ hP
  obtain ⟨hcalls, hrest, hpre⟩ := hP
  obtain ⟨-, -, -, hnamed, -, -, -, hat⟩ := (Spec.applies_iff hf).mp happ
  obtain ⟨hg, hn⟩ := and_e (Cond.before_iff.mp (show (Jvm.Cond.and given_1 narrow_1).before args s = true from hpre))
  obtain ⟨gc, ga⟩ := and_e hg
  obtain ⟨w0, rfl⟩ : ∃ w0 : Value, args = #[w0] := by
    have hs : args.size = 1 := by simpa [Cond.value, given_1] using gc
    obtain ⟨L⟩ := args
    match L, hs with
    | [w0], _ => exact ⟨w0, rfl⟩
  have hw := fun d (hd : d ∈ tables_1) => atoms_spec (ws := Jvm.Cond.code x code maxLocals ret :: tables_1) hat d (List.mem_cons_of_mem _ hd)
  have hfit : Fit s := fun {y c} hc i hi => by
    obtain ⟨ha, rfl⟩ := Array.getElem?_eq_some_iff.mp hc
    have q := List.all_eq_true.mp ((Array.all_eq_true_iff_forall_mem.mp hF) _ (Array.getElem_mem ha)) i (List.mem_range.mpr hi)
    simpa [Array.getElem?_eq_getElem hi] using q
  obtain ⟨i0, ei0⟩ := is_v ga
  obtain rfl : w0 = (.int i0) := Option.some.inj ei0
  obtain ⟨n, o, h1, h2, h3, _, L, rfl, ⟨rfl, N⟩, hq⟩ := rm0 l s _ hw tables_1 i0 s.heap s.heap.size (Nat.le_refl _) p e ha hc hk s m _ below hf ((Spec.applies_iff_loose hf).mp happ).1 ⟨rfl, State.Warmed39.refl s, rfl⟩ trivial
  refine ⟨n, _, h1, h2, h3, hpost _ _ _ _ _ _ ⟨Cond.after_iff.mpr rfl, Cond.after_iff.mpr (eq_i res_at (Term.int_eval (1)) rfl), trivial⟩ ⟨hq.1, hq.2.1, (hq.2.2.sift fun y hy => Or.inr (N y hy)).mono (by decide) (by decide)⟩⟩
theorem main_1_1 : Claimed_1_1 := comes_1 fun _ _ _ _ _ _ h hF => ⟨h.1, hF⟩
theorem main_1_2 : Claimed_1_2 := comes_1 fun _ _ _ _ _ _ h hF => ⟨h.2.1, hF⟩
end Jvm.Pilot.@@N@@
namespace Jvm.Pilot.@@N@@
open Jvm Jvm.ClassFile Sem Op Lib Jvm.Free Jvm.Stand Jvm.Pilot.@@N@@.Jvm.D
/-! MADE BY PROGRAM (witnessworld.py) out of the Statement's table words and the real class files: 14 classes; the members and pool entries that the words name. The judged class is class 1, her method 1. -/
namespace start1
open Jvm.ClassFile
def u (s : String) : CpInfo := .utf8 (stringToUtf16 s)
/-- a pool by its gaps: so many unusable entries, then the entry; so many at the end -/
def gap : Nat → List CpInfo → List CpInfo
  | 0, r => r
  | n + 1, r => .unusable :: gap n r
def poolList (es : List (Nat × CpInfo)) (last : Nat) : List CpInfo := es.foldr (fun e r => gap e.1 (e.2 :: r)) (gap last [])
def pool (es : List (Nat × CpInfo)) (last : Nat) : Array CpInfo := ⟨poolList es last⟩
def fileOf (pool : Array CpInfo) (this : Nat) (attrs : Array Attribute := #[]) (ms : Array MethodInfo := #[]) (fl : Nat := 33) (sup : Nat := 0) (ifs : Array Nat := #[]) (fds : Array FieldInfo := #[]) : ClassFile where
  minorVersion := 0
  majorVersion := 65
  constantPool := pool
  accessFlags := fl
  thisClass := this
  superClass := sup
  interfaces := ifs
  fields := fds
  methods := ms
  attributes := attrs
def plain (name : String) (sup : Option ClassId) : Class where
  name := name
  kind := .ordinary
  loader := none
  accessFlags := 33
  super := sup
  interfaces := #[]
  cf := none
  fields := #[]
  methods := #[]
  instanceTypes := #[]
  staticTypes := #[]
  resolved := #[]
  callSites := []
  init := .initialized
  statics := none
  mirror := none

def pool0 : Array CpInfo := pool [(5, u "<init>"), (0, u "()V"), (1, .class_ 10), (1, u "java/lang/Object")] 113

def k0m0 : Method := { name := "<init>", desc := "()V", sig := { parameters := [], returnType := none }, accessFlags := 1, code := none }
/-- java/lang/Object -/
def k0 : Class := { plain "java/lang/Object" none with
  accessFlags := 33
  interfaces := #[]
  cf := some (fileOf pool0 8 #[] #[{ accessFlags := 1, nameIndex := 5, descriptorIndex := 6, attributes := #[] }] 33 0 #[] #[])
  fields := #[]
  methods := #[k0m0]
  instanceTypes := #[]
  staticTypes := #[]
  resolved := Array.replicate 124 none
  statics := none }

def pool1 : Array CpInfo := pool [(2, .class_ 4), (1, u "java/lang/Object"), (0, u "<init>"), (0, u "()V"), (0, .integer 2147483647), (0, .long 1000000000), (1, .long 100000000), (1, .long 10000000), (1, .long 1000000), (1, .long 100000), (1, .long 10000), (1, .long 1000), (1, .long 100), (1, .long 10), (1, .methodref 27 28), (0, .class_ 29), (0, .nameAndType 30 31), (0, u "com/example/strict_flush/strictflush/ColumnType"), (0, u "unit"), (0, u "(I)J"), (0, .class_ 33), (0, u "com/example/strict_flush/strictflush/ColumnTypeUnitPinLaw"), (2, u "law"), (0, u "(I)Z")] 5

def k1m0 : Method := { name := "<init>", desc := "()V", sig := { parameters := [], returnType := none }, accessFlags := 1, code := none }
def k1c1 : Code := { maxStack := 5, maxLocals := 3, code := code, exceptionTable := #[], attributes := #[] }
def k1m1 : Method := { name := "law", desc := "(I)Z", sig := { parameters := [.int], returnType := some .boolean }, accessFlags := 9, code := some k1c1 }
/-- com/example/strict_flush/strictflush/ColumnTypeUnitPinLaw -/
def k1 : Class := { plain "com/example/strict_flush/strictflush/ColumnTypeUnitPinLaw" (some 0) with
  accessFlags := 49
  interfaces := #[]
  cf := some (fileOf pool1 32 #[] #[{ accessFlags := 1, nameIndex := 5, descriptorIndex := 6, attributes := #[] }, { accessFlags := 9, nameIndex := 36, descriptorIndex := 37, attributes := #[] }] 49 2 #[] #[])
  fields := #[]
  methods := #[k1m0, k1m1]
  instanceTypes := #[]
  staticTypes := #[]
  resolved := Array.replicate 43 none
  statics := none }

def pool2 : Array CpInfo := pool [(1, .class_ 2), (0, u "java/lang/constant/Constable"), (0, .class_ 4), (0, u "java/lang/Object")] 6

/-- java/lang/constant/Constable -/
def k2 : Class := { plain "java/lang/constant/Constable" (some 0) with
  accessFlags := 1537
  interfaces := #[]
  cf := some (fileOf pool2 1 #[] #[] 1537 3 #[] #[])
  fields := #[]
  methods := #[]
  instanceTypes := #[]
  staticTypes := #[]
  resolved := Array.replicate 11 none
  statics := none }

def pool3 : Array CpInfo := pool [(1, .class_ 2), (0, u "java/lang/Comparable"), (0, .class_ 4), (0, u "java/lang/Object")] 7

/-- java/lang/Comparable -/
def k3 : Class := { plain "java/lang/Comparable" (some 0) with
  accessFlags := 1537
  interfaces := #[]
  cf := some (fileOf pool3 1 #[] #[] 1537 3 #[] #[])
  fields := #[]
  methods := #[]
  instanceTypes := #[]
  staticTypes := #[]
  resolved := Array.replicate 12 none
  statics := none }

def pool4 : Array CpInfo := pool [(1, .class_ 2), (0, u "java/io/Serializable"), (0, .class_ 4), (0, u "java/lang/Object")] 2

/-- java/io/Serializable -/
def k4 : Class := { plain "java/io/Serializable" (some 0) with
  accessFlags := 1537
  interfaces := #[]
  cf := some (fileOf pool4 1 #[] #[] 1537 3 #[] #[])
  fields := #[]
  methods := #[]
  instanceTypes := #[]
  staticTypes := #[]
  resolved := Array.replicate 7 none
  statics := none }

def pool5 : Array CpInfo := pool [(2, .class_ 4), (1, u "java/lang/Enum"), (0, u "name"), (0, u "Ljava/lang/String;"), (2, u "ordinal"), (0, u "I"), (1, .class_ 14), (1, u "java/lang/Object"), (4, u "hash"), (86, .class_ 108), (1, u "java/lang/Enum$EnumDesc"), (2, .class_ 112), (0, u "java/lang/constant/Constable"), (0, .class_ 114), (0, u "java/lang/Comparable"), (0, .class_ 116), (0, u "java/io/Serializable")] 87

/-- java/lang/Enum -/
def k5 : Class := { plain "java/lang/Enum" (some 0) with
  accessFlags := 1057
  interfaces := #[2, 3, 4]
  cf := some (fileOf pool5 2 #[.nestMembers #[106]] #[] 1057 12 #[111, 113, 115] #[{ accessFlags := 18, nameIndex := 5, descriptorIndex := 6, attributes := #[] }, { accessFlags := 18, nameIndex := 9, descriptorIndex := 10, attributes := #[] }, { accessFlags := 2, nameIndex := 19, descriptorIndex := 10, attributes := #[] }])
  fields := #[{ name := "name", type := (.object "java/lang/String"), accessFlags := 18, slot := 0, constantValue := 0 }, { name := "ordinal", type := .int, accessFlags := 18, slot := 1, constantValue := 0 }, { name := "hash", type := .int, accessFlags := 2, slot := 2, constantValue := 0 }]
  methods := #[]
  instanceTypes := #[(.object "java/lang/String"), .int, .int]
  staticTypes := #[]
  resolved := Array.replicate 204 none
  statics := none }

def pool6 : Array CpInfo := pool [(1, .class_ 2), (0, u "com/example/strict_flush/strictflush/ColumnType"), (2, u "LONG"), (0, u "Lcom/example/strict_flush/strictflush/ColumnType;"), (2, u "INT"), (2, u "SHORT"), (2, u "BYTE"), (2, u "DECIMAL"), (2, u "FLOAT"), (2, u "DOUBLE"), (2, u "CHAR"), (2, u "UUID"), (2, u "DATE"), (2, u "TIME"), (2, u "TIMESTAMP"), (2, u "TIME_WITH_OFFSET"), (2, u "TIMESTAMP_WITH_OFFSET"), (2, u "BYTES"), (2, u "BOOLEAN"), (2, u "STRING"), (2, u "$VALUES"), (0, u "[Lcom/example/strict_flush/strictflush/ColumnType;"), (6, .class_ 67), (1, u "java/lang/Enum"), (11, u "sqlType"), (0, u "I"), (2, u "objectClass"), (0, u "Ljava/lang/Class;"), (8, u "unit"), (0, u "(I)J"), (4, .long 10), (55, .class_ 156), (0, u "com/example/strict_flush/strictflush/ColumnType$1"), (6, .class_ 164), (0, u "com/example/strict_flush/strictflush/ColumnType$2"), (2, .class_ 168), (0, u "com/example/strict_flush/strictflush/ColumnType$3"), (2, .class_ 172), (0, u "com/example/strict_flush/strictflush/ColumnType$4"), (2, .class_ 176), (0, u "com/example/strict_flush/strictflush/ColumnType$5"), (2, .class_ 180), (0, u "com/example/strict_flush/strictflush/ColumnType$6"), (2, .class_ 184), (0, u "com/example/strict_flush/strictflush/ColumnType$7"), (2, .class_ 188), (0, u "com/example/strict_flush/strictflush/ColumnType$8"), (11, .class_ 201), (0, u "com/example/strict_flush/strictflush/ColumnType$9"), (2, .class_ 205), (0, u "com/example/strict_flush/strictflush/ColumnType$10"), (4, .class_ 211), (0, u "com/example/strict_flush/strictflush/ColumnType$11"), (4, .class_ 217), (0, u "com/example/strict_flush/strictflush/ColumnType$12"), (2, .class_ 221), (0, u "com/example/strict_flush/strictflush/ColumnType$13"), (2, .class_ 225), (0, u "com/example/strict_flush/strictflush/ColumnType$14"), (17, u "LONG_MIN"), (0, u "Ljava/math/BigDecimal;"), (4, u "LONG_MAX"), (0, u "NANO_DIGITS")] 31

def k6c0 : Code := { maxStack := 4, maxLocals := 4, code := prog_8_method_6_code, exceptionTable := #[], attributes := #[] }
def k6m0 : Method := { name := "unit", desc := "(I)J", sig := { parameters := [.int], returnType := some .long }, accessFlags := 8, code := some k6c0 }
/-- com/example/strict_flush/strictflush/ColumnType -/
def k6 : Class := { plain "com/example/strict_flush/strictflush/ColumnType" (some 5) with
  accessFlags := 16416
  interfaces := #[]
  cf := some (fileOf pool6 1 #[.nestMembers #[224, 220, 216, 210, 204, 200, 187, 183, 179, 175, 171, 167, 163, 155]] #[{ accessFlags := 8, nameIndex := 93, descriptorIndex := 94, attributes := #[] }] 16416 65 #[] #[{ accessFlags := 16409, nameIndex := 5, descriptorIndex := 6, attributes := #[] }, { accessFlags := 16409, nameIndex := 9, descriptorIndex := 6, attributes := #[] }, { accessFlags := 16409, nameIndex := 12, descriptorIndex := 6, attributes := #[] }, { accessFlags := 16409, nameIndex := 15, descriptorIndex := 6, attributes := #[] }, { accessFlags := 16409, nameIndex := 18, descriptorIndex := 6, attributes := #[] }, { accessFlags := 16409, nameIndex := 21, descriptorIndex := 6, attributes := #[] }, { accessFlags := 16409, nameIndex := 24, descriptorIndex := 6, attributes := #[] }, { accessFlags := 16409, nameIndex := 27, descriptorIndex := 6, attributes := #[] }, { accessFlags := 16409, nameIndex := 30, descriptorIndex := 6, attributes := #[] }, { accessFlags := 16409, nameIndex := 33, descriptorIndex := 6, attributes := #[] }, { accessFlags := 16409, nameIndex := 36, descriptorIndex := 6, attributes := #[] }, { accessFlags := 16409, nameIndex := 39, descriptorIndex := 6, attributes := #[] }, { accessFlags := 16409, nameIndex := 42, descriptorIndex := 6, attributes := #[] }, { accessFlags := 16409, nameIndex := 45, descriptorIndex := 6, attributes := #[] }, { accessFlags := 16409, nameIndex := 48, descriptorIndex := 6, attributes := #[] }, { accessFlags := 16409, nameIndex := 51, descriptorIndex := 6, attributes := #[] }, { accessFlags := 16409, nameIndex := 54, descriptorIndex := 6, attributes := #[] }, { accessFlags := 26, nameIndex := 243, descriptorIndex := 244, attributes := #[] }, { accessFlags := 26, nameIndex := 249, descriptorIndex := 244, attributes := #[] }, { accessFlags := 26, nameIndex := 250, descriptorIndex := 80, attributes := #[] }, { accessFlags := 18, nameIndex := 79, descriptorIndex := 80, attributes := #[] }, { accessFlags := 18, nameIndex := 83, descriptorIndex := 84, attributes := #[] }, { accessFlags := 4122, nameIndex := 57, descriptorIndex := 58, attributes := #[] }])
  fields := #[{ name := "LONG", type := (.object "com/example/strict_flush/strictflush/ColumnType"), accessFlags := 16409, slot := 0, constantValue := 0 }, { name := "INT", type := (.object "com/example/strict_flush/strictflush/ColumnType"), accessFlags := 16409, slot := 1, constantValue := 0 }, { name := "SHORT", type := (.object "com/example/strict_flush/strictflush/ColumnType"), accessFlags := 16409, slot := 2, constantValue := 0 }, { name := "BYTE", type := (.object "com/example/strict_flush/strictflush/ColumnType"), accessFlags := 16409, slot := 3, constantValue := 0 }, { name := "DECIMAL", type := (.object "com/example/strict_flush/strictflush/ColumnType"), accessFlags := 16409, slot := 4, constantValue := 0 }, { name := "FLOAT", type := (.object "com/example/strict_flush/strictflush/ColumnType"), accessFlags := 16409, slot := 5, constantValue := 0 }, { name := "DOUBLE", type := (.object "com/example/strict_flush/strictflush/ColumnType"), accessFlags := 16409, slot := 6, constantValue := 0 }, { name := "CHAR", type := (.object "com/example/strict_flush/strictflush/ColumnType"), accessFlags := 16409, slot := 7, constantValue := 0 }, { name := "UUID", type := (.object "com/example/strict_flush/strictflush/ColumnType"), accessFlags := 16409, slot := 8, constantValue := 0 }, { name := "DATE", type := (.object "com/example/strict_flush/strictflush/ColumnType"), accessFlags := 16409, slot := 9, constantValue := 0 }, { name := "TIME", type := (.object "com/example/strict_flush/strictflush/ColumnType"), accessFlags := 16409, slot := 10, constantValue := 0 }, { name := "TIMESTAMP", type := (.object "com/example/strict_flush/strictflush/ColumnType"), accessFlags := 16409, slot := 11, constantValue := 0 }, { name := "TIME_WITH_OFFSET", type := (.object "com/example/strict_flush/strictflush/ColumnType"), accessFlags := 16409, slot := 12, constantValue := 0 }, { name := "TIMESTAMP_WITH_OFFSET", type := (.object "com/example/strict_flush/strictflush/ColumnType"), accessFlags := 16409, slot := 13, constantValue := 0 }, { name := "BYTES", type := (.object "com/example/strict_flush/strictflush/ColumnType"), accessFlags := 16409, slot := 14, constantValue := 0 }, { name := "BOOLEAN", type := (.object "com/example/strict_flush/strictflush/ColumnType"), accessFlags := 16409, slot := 15, constantValue := 0 }, { name := "STRING", type := (.object "com/example/strict_flush/strictflush/ColumnType"), accessFlags := 16409, slot := 16, constantValue := 0 }, { name := "LONG_MIN", type := (.object "java/math/BigDecimal"), accessFlags := 26, slot := 17, constantValue := 0 }, { name := "LONG_MAX", type := (.object "java/math/BigDecimal"), accessFlags := 26, slot := 18, constantValue := 0 }, { name := "NANO_DIGITS", type := .int, accessFlags := 26, slot := 19, constantValue := 0 }, { name := "sqlType", type := .int, accessFlags := 18, slot := 3, constantValue := 0 }, { name := "objectClass", type := (.object "java/lang/Class"), accessFlags := 18, slot := 4, constantValue := 0 }, { name := "$VALUES", type := (.array (.object "com/example/strict_flush/strictflush/ColumnType")), accessFlags := 4122, slot := 20, constantValue := 0 }]
  methods := #[k6m0]
  instanceTypes := #[(.object "java/lang/String"), .int, .int, .int, (.object "java/lang/Class")]
  staticTypes := #[(.object "com/example/strict_flush/strictflush/ColumnType"), (.object "com/example/strict_flush/strictflush/ColumnType"), (.object "com/example/strict_flush/strictflush/ColumnType"), (.object "com/example/strict_flush/strictflush/ColumnType"), (.object "com/example/strict_flush/strictflush/ColumnType"), (.object "com/example/strict_flush/strictflush/ColumnType"), (.object "com/example/strict_flush/strictflush/ColumnType"), (.object "com/example/strict_flush/strictflush/ColumnType"), (.object "com/example/strict_flush/strictflush/ColumnType"), (.object "com/example/strict_flush/strictflush/ColumnType"), (.object "com/example/strict_flush/strictflush/ColumnType"), (.object "com/example/strict_flush/strictflush/ColumnType"), (.object "com/example/strict_flush/strictflush/ColumnType"), (.object "com/example/strict_flush/strictflush/ColumnType"), (.object "com/example/strict_flush/strictflush/ColumnType"), (.object "com/example/strict_flush/strictflush/ColumnType"), (.object "com/example/strict_flush/strictflush/ColumnType"), (.object "java/math/BigDecimal"), (.object "java/math/BigDecimal"), .int, (.array (.object "com/example/strict_flush/strictflush/ColumnType"))]
  resolved := Array.replicate 282 none
  statics := none }

def pool7 : Array CpInfo := pool [(1, u "java/lang/Cloneable"), (0, .class_ 1), (0, u "java/lang/Object"), (0, .class_ 3)] 3

/-- java/lang/Cloneable -/
def k7 : Class := { plain "java/lang/Cloneable" (some 0) with
  accessFlags := 1537
  interfaces := #[]
  cf := some (fileOf pool7 2 #[] #[] 1537 4 #[] #[])
  fields := #[]
  methods := #[]
  instanceTypes := #[]
  staticTypes := #[]
  resolved := Array.replicate 8 none
  statics := none }

/-- the primitive byte -/
def k8 : Class := { plain "byte" none with kind := .primitive 'B', accessFlags := 0x411 }
/-- [B -/
def k9 : Class := { plain "[B" (some 0) with kind := .array 8 .byte, interfaces := #[7, 4], accessFlags := 1041 }

/-- the primitive int -/
def k10 : Class := { plain "int" none with kind := .primitive 'I', accessFlags := 0x411 }
/-- [I -/
def k11 : Class := { plain "[I" (some 0) with kind := .array 10 .int, interfaces := #[7, 4], accessFlags := 1041 }

/-- the primitive long -/
def k12 : Class := { plain "long" none with kind := .primitive 'J', accessFlags := 0x411 }
/-- [J -/
def k13 : Class := { plain "[J" (some 0) with kind := .array 12 .long, interfaces := #[7, 4], accessFlags := 1041 }

def heap : Heap := #[]
def classes : Array Class := #[k0, k1, k2, k3, k4, k5, k6, k7, k8, k9, k10, k11, k12, k13]
def interned : List (Array UInt16 × Addr) := []
def slotsUsed : Nat := 0
def theMethod : MethodId := ⟨1, 1⟩
def args0 : Array Value := #[.int 5]
def aboutOver (below : List Frame) : State where
  vm := { classes := classes, interned := interned.toArray }
  heap := heap
  slotsUsed := slotsUsed
  threads := #[{ frames := .invoking theMethod args0 :: below }]
def below0 : List Frame := [.native { method := ⟨0, 0⟩, args := #[] }]
def about1 : State := aboutOver below0
def p0 : Program := .bare "" "" ""
def e0 : Env := launch0.env 0 0 0
theorem w_frames : about1.frames = Frame.invoking theMethod args0 :: below0 := rfl
set_option maxRecDepth 65536 in
theorem w_args : argsFit about1.vm theMethod args0 = true := by decide +kernel
set_option maxRecDepth 65536 in
theorem w_heap : heapFits about1 = true := by decide +kernel
set_option maxRecDepth 65536 in
theorem w_runnable : about1.curStatus? = some .runnable := by decide +kernel
set_option maxRecDepth 65536 in
theorem w_alone : about1.alone = true := by decide +kernel
set_option maxRecDepth 65536 in
theorem w_named : about1.methodNamed? x = some theMethod := by decide +kernel
set_option maxRecDepth 65536 in
theorem w_hears : about1.hears theMethod below0 = true := by decide +kernel
set_option maxRecDepth 65536 in
theorem w_ripe : about1.ripe theMethod args0 below0 = true := by decide +kernel
theorem w_running : about1.status = .running := rfl
set_option maxRecDepth 65536 in
theorem w_room : about1.hasRoom e0.platform room_1 = true :=
  launch0.hasRoom_least _ room_1 (by decide +kernel) (by decide +kernel) (by decide +kernel) (by decide +kernel) (by decide +kernel) (by decide +kernel)
theorem allAtoms_all (ts : List Jvm.Cond) (a : Array Jvm.Value) (st : Jvm.State) : (allAtoms ts).before a st = ts.all (fun c => c.before a st) := by
  induction ts with
  | nil => rfl
  | cons c t ih =>
    show (Jvm.Cond.and c (allAtoms t)).before a st = _
    rw [Jvm.Cond.before_and, ih, List.all_cons]
def words1 : List Jvm.Cond := Jvm.Cond.code x code maxLocals ret :: tables_1
/-- a 'code' word, met by the world's own term for the bytes: nothing is compared byte by byte -/
theorem code_word {y : MethodName} {bytes : ByteArray} {mx : Nat} {rt : Option FieldType} {a : Array Value} {s : State} {m : MethodId} {meth : Method} {c : Code} (h1 : s.methodNamed? y = some m) (h2 : s.vm.method? m = some meth) (h3 : meth.code = some c) (h4 : c.code = bytes)
    (h5 : (c.maxLocals == mx && c.exceptionTable.isEmpty && decide (c.maxStack ≤ mostOperands) && decide (meth.sig.returnType = rt) && !meth.locks && decide (parseMethodDescriptor y.desc = some meth.sig)) = true) : (Jvm.Cond.code y bytes mx rt).before a s = true := by
  simp only [Bool.and_eq_true, beq_iff_eq, Bool.not_eq_true', decide_eq_true_eq] at h5
  obtain ⟨⟨⟨⟨⟨g1, g2⟩, g3⟩, g4⟩, g5⟩, g6⟩ := h5
  simp [Cond.before, Cond.holds, Cond.value, h1, h2, h3, h4, g1, g2, g3, g4, g5, g6]
def isCode : Jvm.Cond → Bool
  | .code _ _ _ _ => true
  | _ => false
theorem all_split {L : List Jvm.Cond} {P : Jvm.Cond → Bool} (h1 : L.all (fun c => isCode c || P c) = true) (h2 : ∀ c ∈ L.filter isCode, P c = true) : L.all P = true := by
  refine List.all_eq_true.mpr fun c hc => ?_
  have h := List.all_eq_true.mp h1 c hc
  rcases Bool.eq_false_or_eq_true (isCode c) with hi | hi
  · exact h2 c (List.mem_filter.mpr ⟨hc, hi⟩)
  · simpa [hi] using h
set_option maxRecDepth 65536 in
theorem w_c0 : (Jvm.Cond.code x code maxLocals ret).before args0 about1 = true := code_word (m := ⟨1, 1⟩) (meth := k1m1) (c := k1c1) (by decide +kernel) rfl rfl rfl (by decide +kernel)
set_option maxRecDepth 65536 in
theorem w_c1 : (Jvm.Cond.code ({ cls := "com/example/strict_flush/strictflush/ColumnType", name := "unit", desc := "(I)J" } : Jvm.MethodName) prog_8_method_6_code (4 : Nat) (Option.some Jvm.ClassFile.FieldType.long)).before args0 about1 = true := code_word (m := ⟨6, 0⟩) (meth := k6m0) (c := k6c0) (by decide +kernel) rfl rfl rfl (by decide +kernel)
def codes1 : List Jvm.Cond := [Jvm.Cond.code x code maxLocals ret, Jvm.Cond.code ({ cls := "com/example/strict_flush/strictflush/ColumnType", name := "unit", desc := "(I)J" } : Jvm.MethodName) prog_8_method_6_code (4 : Nat) (Option.some Jvm.ClassFile.FieldType.long)]
set_option maxRecDepth 65536 in
theorem codes_eq : words1.filter isCode = codes1 := rfl
theorem w_codes : ∀ c ∈ words1.filter isCode, c.before args0 about1 = true := by
  rw [codes_eq]
  intro c hc
  simp only [codes1, List.mem_cons, List.not_mem_nil, or_false] at hc
  rcases hc with rfl | rfl
  · exact w_c0
  · exact w_c1
set_option maxRecDepth 65536 in
theorem w_t1 : words1.all (fun c => isCode c || c.before args0 about1) = true := by decide +kernel
theorem w_tables : (allAtoms (Jvm.Cond.code x code maxLocals ret :: tables_1)).before args0 about1 = true := by
  rw [allAtoms_all]
  show words1.all (fun c => c.before args0 about1) = true
  refine all_split ?_ w_codes
  rw [w_t1]
set_option maxRecDepth 65536 in
theorem w_case : (Jvm.Cond.and given_1 narrow_1).before args0 about1 = true := by decide +kernel
theorem w_applies : (headSpec (Jvm.Cond.code x code maxLocals ret :: tables_1) room_1).applies x e0.platform about1 = true :=
  (Spec.applies_iff w_frames).mpr ⟨w_running, w_runnable, w_alone, w_named, w_hears, w_ripe, w_room, w_tables⟩
theorem atStart : AtStart classFile x code maxLocals ret World_1 tables_1 room_1 Calls_1 rest_1 Pre_1 launch0 p0 e0 about1 theMethod args0 below0 :=
  ⟨lists_1, trivial, launch0.admits_env _ _ _, launch0.least_env, fairChoices_fair.cas, fairChoices_fair.clock, w_frames, w_args, w_heap, w_applies, trivial, trivial, w_case⟩
end start1
theorem witness_1 : WitnessClaimed_1 := ⟨start1.p0, start1.e0, start1.about1, start1.theMethod, start1.args0, start1.below0, start1.atStart⟩
end Jvm.Pilot.@@N@@
