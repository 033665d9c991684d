import JvmDerived
import JvmDerived.Pilot.@@N@@Statement
import JvmDerived.Pilot.@@N@@Code
set_option linter.unusedVariables false
set_option linter.unusedSimpArgs false
namespace Jvm.RoadKit
open Sem ClassFile Op Lib Jvm.Stand Jvm.Free Jvm.LawKit
section New
variable {p : Program} {l : Launch} {e : Env} {R : Room} {s : State} {m : MethodId} {args : Array Value} {below : List Frame} {meth : Method} {c : Code} {T : State} {locs : List Loc} {cells slots : Nat}
theorem retI (X : Stand p l e R s m args below meth c T locs cells slots) (hx : p.tables.exec = Jvm.exec) {pc : Nat} {Ls : Array Slot} {z : Int32} {rest : List Value} (hret : meth.sig.returnType = some .int) (hd : decode c.code pc = .ok (.ireturn, 1)) {fs : List Frame}
    (hl : ∀ (f : JFrame) (acts : List Action), f.method = m → f.locked = none → f.entered = [] → (doReturn e (T.setTop f) acts (some (.int z))).1 = T.setFrames fs) : Steps p.tables e below (T.setTop (mkF m pc Ls (.int z :: rest))) (T.setFrames fs) := by
  have hm' : T.vm.method? m = some meth := X.method'
  have hn : narrow .int (.int z) = .int z := rfl
  show Steps p.tables e below (T.setTop { method := m, pc := pc, locals := Ls, stack := _ :: rest, locked := none }) _
  jvm_step X.here [X.here.top, hx, hd, hm', hret, hn]
  first | (intro acts; rw [hl _ acts rfl rfl rfl]) | rw [hl _ _ rfl rfl rfl]
  exact Steps.refl _
theorem retL (X : Stand p l e R s m args below meth c T locs cells slots) (hx : p.tables.exec = Jvm.exec) {pc : Nat} {Ls : Array Slot} {z : Int64} {rest : List Value} (hret : meth.sig.returnType = some .long) (hd : decode c.code pc = .ok (.lreturn, 1)) {fs : List Frame}
    (hl : ∀ (f : JFrame) (acts : List Action), f.method = m → f.locked = none → f.entered = [] → (doReturn e (T.setTop f) acts (some (.long z))).1 = T.setFrames fs) : Steps p.tables e below (T.setTop (mkF m pc Ls (.long z :: rest))) (T.setFrames fs) := by
  have hm' : T.vm.method? m = some meth := X.method'
  have hn : narrow .long (.long z) = .long z := rfl
  show Steps p.tables e below (T.setTop { method := m, pc := pc, locals := Ls, stack := _ :: rest, locked := none }) _
  jvm_step X.here [X.here.top, hx, hd, hm', hret, hn]
  first | (intro acts; rw [hl _ acts rfl rfl rfl]) | rw [hl _ _ rfl rfl rfl]
  exact Steps.refl _
end New
end Jvm.RoadKit
namespace Jvm.Pilot.@@N@@
open Jvm Jvm.ClassFile Sem Op Lib Jvm.Free Jvm.Stand Jvm.LawKit Jvm.RoadKit Bundle Jvm.Pilot.@@N@@.Jvm.D

theorem own_arv {Z : State} {h : Heap} {a : Addr} {k : ClassId} {ty : FieldType} {z : Int32} {vs vs' : List Value} {dv : Value} (F : Arv Z h a k ty z vs dv) (q : ∀ i, i < z.toNatClampNeg → vs'.getD i dv = vs.getD i dv) : Arv Z h a k ty z vs' dv := by
  obtain ⟨c, A, r1, r2, r3, H, G⟩ := F
  exact ⟨c, A, r1, r2, r3, fun i hi => by rw [q i (r2 ▸ hi)]; exact H i hi, fun i hi => by rw [q i (r2 ▸ hi)]; exact G i hi⟩
theorem own_clamp {n : Int32} (h : 0 ≤ n.toInt) : (n.toNatClampNeg : Int) = n.toInt := by
  rw [Int32.toNatClampNeg]; omega
theorem own_len (x : Int32) : 1 ≤ ((1 : Int32) + (x &&& 3)).toInt ∧ ((1 : Int32) + (x &&& 3)).toInt ≤ 4 := by
  have h := c_and x 3 (by decide)
  have h1 := c_iadd 1 (x &&& 3)
  have h2 := rng32 ((1 : Int32) + (x &&& 3))
  rw [show (3 : Int32).toInt = 3 from by decide] at h
  rw [show (1 : Int32).toInt = 1 from by decide] at h1
  omega
theorem own_idx {y : Int32} (x : Int32) (h1 : 1 ≤ y.toInt) : 0 ≤ ((x &&& 2147483647) % y).toInt ∧ ((x &&& 2147483647) % y).toInt < y.toInt := by
  have h := c_and x 2147483647 (by decide)
  have q := (c_iremV (x &&& 2147483647) y).1 h.1 (by omega)
  exact ⟨q.1, q.2.1⟩
theorem own_lt (x y : Int32) : x < y ↔ x.toInt < y.toInt := Int32.lt_iff_toInt_lt
theorem own_far {n i : Int32} {k : Nat} (h0 : 0 ≤ n.toInt) (hi : i.toInt = k) (hn : ¬ i < n) : ∀ j, j < n.toNatClampNeg → j < k := by
  intro j hj
  rw [own_lt] at hn
  have := own_clamp h0
  omega

theorem own_four {t : Int32} (h0 : 0 ≤ t.toInt) (h1 : t.toInt < 4) : t = 0 ∨ t = 1 ∨ t = 2 ∨ t = 3 := by
  have e : ∀ k : Int32, t = k ↔ t.toInt = k.toInt := fun k => Int32.toInt_inj.symm
  rw [e 0, e 1, e 2, e 3]
  show t.toInt = 0 ∨ t.toInt = 1 ∨ t.toInt = 2 ∨ t.toInt = 3
  omega
theorem own_slot {t : Int32} (g0 g1 g2 g3 cand : Int32) (h0 : 0 ≤ t.toInt) (h1 : t.toInt < 4) :
    (([Value.int g0, .int g1, .int g2, .int g3].set t.toNatClampNeg (.int cand)).getD (0 : Int32).toNatClampNeg (.int 0) = .int (if (0 : Int32) = t then cand else g0)) ∧ (([Value.int g0, .int g1, .int g2, .int g3].set t.toNatClampNeg (.int cand)).getD (1 : Int32).toNatClampNeg (.int 0) = .int (if (1 : Int32) = t then cand else g1)) ∧ (([Value.int g0, .int g1, .int g2, .int g3].set t.toNatClampNeg (.int cand)).getD (2 : Int32).toNatClampNeg (.int 0) = .int (if (2 : Int32) = t then cand else g2)) ∧ (([Value.int g0, .int g1, .int g2, .int g3].set t.toNatClampNeg (.int cand)).getD (3 : Int32).toNatClampNeg (.int 0) = .int (if (3 : Int32) = t then cand else g3)) := by
  rcases own_four h0 h1 with h | h | h | h <;> subst h <;> exact ⟨rfl, rfl, rfl, rfl⟩

theorem d1_0 : decode prog_46_method_1_code 0 = .ok (.aload_n 0, 1) := by decide +kernel
theorem d1_1 : decode prog_46_method_1_code 1 = .ok (.invokespecial 1, 3) := by decide +kernel
theorem d1_4 : decode prog_46_method_1_code 4 = .ok (.aload_n 0, 1) := by decide +kernel
theorem d1_5 : decode prog_46_method_1_code 5 = .ok (.aload_n 1, 1) := by decide +kernel
theorem d1_6 : decode prog_46_method_1_code 6 = .ok (.putfield 7, 3) := by decide +kernel
theorem d1_9 : decode prog_46_method_1_code 9 = .ok (.aload_n 0, 1) := by decide +kernel
theorem d1_10 : decode prog_46_method_1_code 10 = .ok (.aload_n 2, 1) := by decide +kernel
theorem d1_11 : decode prog_46_method_1_code 11 = .ok (.putfield 13, 3) := by decide +kernel
theorem d1_14 : decode prog_46_method_1_code 14 = .ok (.return_, 1) := by decide +kernel
theorem d2_0 : decode jdk_30_method_1_code 0 = .ok (.aload_n 0, 1) := by decide +kernel
theorem d2_1 : decode jdk_30_method_1_code 1 = .ok (.invokespecial 1, 3) := by decide +kernel
theorem d2_4 : decode jdk_30_method_1_code 4 = .ok (.return_, 1) := by decide +kernel
theorem d4_0 : decode prog_46_method_3_code 0 = .ok (.aload_n 0, 1) := by decide +kernel
theorem d4_1 : decode prog_46_method_3_code 1 = .ok (.getfield 7, 3) := by decide +kernel
theorem d4_4 : decode prog_46_method_3_code 4 = .ok (.invokevirtual 23, 3) := by decide +kernel
theorem d4_7 : decode prog_46_method_3_code 7 = .ok (.checkcast 24, 3) := by decide +kernel
theorem d4_10 : decode prog_46_method_3_code 10 = .ok (.astore 4, 2) := by decide +kernel
theorem d4_12 : decode prog_46_method_3_code 12 = .ok (.aload 4, 2) := by decide +kernel
theorem d4_14 : decode prog_46_method_3_code 14 = .ok (.iload_n 1, 1) := by decide +kernel
theorem d4_15 : decode prog_46_method_3_code 15 = .ok (.iload_n 2, 1) := by decide +kernel
theorem d4_16 : decode prog_46_method_3_code 16 = .ok (.iastore, 1) := by decide +kernel
theorem d4_17 : decode prog_46_method_3_code 17 = .ok (.new 8, 3) := by decide +kernel
theorem d4_20 : decode prog_46_method_3_code 20 = .ok (.dup, 1) := by decide +kernel
theorem d4_21 : decode prog_46_method_3_code 21 = .ok (.aload 4, 2) := by decide +kernel
theorem d4_23 : decode prog_46_method_3_code 23 = .ok (.aload_n 3, 1) := by decide +kernel
theorem d4_24 : decode prog_46_method_3_code 24 = .ok (.invokespecial 28, 3) := by decide +kernel
theorem d4_27 : decode prog_46_method_3_code 27 = .ok (.areturn, 1) := by decide +kernel
theorem d5_0 : decode prog_46_method_7_code 0 = .ok (.aload_n 0, 1) := by decide +kernel
theorem d5_1 : decode prog_46_method_7_code 1 = .ok (.getfield 7, 3) := by decide +kernel
theorem d5_4 : decode prog_46_method_7_code 4 = .ok (.areturn, 1) := by decide +kernel
theorem d6_0 : decode prog_46_method_8_code 0 = .ok (.aload_n 0, 1) := by decide +kernel
theorem d6_1 : decode prog_46_method_8_code 1 = .ok (.getfield 13, 3) := by decide +kernel
theorem d6_4 : decode prog_46_method_8_code 4 = .ok (.areturn, 1) := by decide +kernel
theorem d7_0 : decode method_3_code 0 = .ok (.iload_n 2, 1) := by decide +kernel
theorem d7_1 : decode method_3_code 1 = .ok (.iload_n 3, 1) := by decide +kernel
theorem d7_2 : decode method_3_code 2 = .ok (.if_icmp .lt 5, 3) := by decide +kernel
theorem d7_5 : decode method_3_code 5 = .ok (.iconst 1, 1) := by decide +kernel
theorem d7_6 : decode method_3_code 6 = .ok (.ireturn, 1) := by decide +kernel
theorem d7_7 : decode method_3_code 7 = .ok (.iload_n 2, 1) := by decide +kernel
theorem d7_8 : decode method_3_code 8 = .ok (.iload 4, 2) := by decide +kernel
theorem d7_10 : decode method_3_code 10 = .ok (.if_icmp .ne 8, 3) := by decide +kernel
theorem d7_13 : decode method_3_code 13 = .ok (.iload 5, 2) := by decide +kernel
theorem d7_15 : decode method_3_code 15 = .ok (.goto 5, 3) := by decide +kernel
theorem d7_18 : decode method_3_code 18 = .ok (.iload 6, 2) := by decide +kernel
theorem d7_20 : decode method_3_code 20 = .ok (.istore 7, 2) := by decide +kernel
theorem d7_22 : decode method_3_code 22 = .ok (.aload_n 0, 1) := by decide +kernel
theorem d7_23 : decode method_3_code 23 = .ok (.iload_n 2, 1) := by decide +kernel
theorem d7_24 : decode method_3_code 24 = .ok (.iaload, 1) := by decide +kernel
theorem d7_25 : decode method_3_code 25 = .ok (.iload 7, 2) := by decide +kernel
theorem d7_27 : decode method_3_code 27 = .ok (.if_icmp .ne 15, 3) := by decide +kernel
theorem d7_30 : decode method_3_code 30 = .ok (.aload_n 1, 1) := by decide +kernel
theorem d7_31 : decode method_3_code 31 = .ok (.iload_n 2, 1) := by decide +kernel
theorem d7_32 : decode method_3_code 32 = .ok (.iaload, 1) := by decide +kernel
theorem d7_33 : decode method_3_code 33 = .ok (.iload 6, 2) := by decide +kernel
theorem d7_35 : decode method_3_code 35 = .ok (.if_icmp .ne 7, 3) := by decide +kernel
theorem d7_38 : decode method_3_code 38 = .ok (.iconst 1, 1) := by decide +kernel
theorem d7_39 : decode method_3_code 39 = .ok (.goto 4, 3) := by decide +kernel
theorem d7_43 : decode method_3_code 43 = .ok (.ireturn, 1) := by decide +kernel
theorem pn_com_example_qualoom_qualoom_solver_IndividualWithPinLaw : plainName "com/example/qualoom/qualoom/solver/IndividualWithPinLaw" = true := by first | (simp [plainName, overriddenIn]; done) | decide +kernel
theorem pn_com_example_qualoom_qualoom_solver_GeneticOperators_Individual : plainName "com/example/qualoom/qualoom/solver/GeneticOperators$Individual" = true := by first | (simp [plainName, overriddenIn]; done) | decide +kernel
theorem pn_java_lang_Record : plainName "java/lang/Record" = true := by first | (simp [plainName, overriddenIn]; done) | decide +kernel
theorem pd_0 : parseMethodDescriptor "()V" = some ⟨[], none⟩ := by decide +kernel
theorem pd_1 : parseMethodDescriptor "([ILcom/example/qualoom/qualoom/evaluation/Score;)V" = some ⟨[(.array .int), (.object "com/example/qualoom/qualoom/evaluation/Score")], none⟩ := by decide +kernel
theorem pd_2 : parseMethodDescriptor "(IILcom/example/qualoom/qualoom/evaluation/Score;)Lcom/example/qualoom/qualoom/solver/GeneticOperators$Individual;" = some ⟨[.int, .int, (.object "com/example/qualoom/qualoom/evaluation/Score")], some (.object "com/example/qualoom/qualoom/solver/GeneticOperators$Individual")⟩ := by decide +kernel
theorem pd_3 : parseMethodDescriptor "()[I" = some ⟨[], some (.array .int)⟩ := by decide +kernel
theorem pd_4 : parseMethodDescriptor "()Lcom/example/qualoom/qualoom/evaluation/Score;" = some ⟨[], some (.object "com/example/qualoom/qualoom/evaluation/Score")⟩ := by decide +kernel
theorem pd_5 : parseMethodDescriptor "([I[IIIIII)Z" = some ⟨[(.array .int), (.array .int), .int, .int, .int, .int, .int], some .boolean⟩ := by decide +kernel
theorem ef_2 (m : MethodId) (a1 : Addr) : entryFrame m #[(.ref a1)] 1 = mkF m 0 #[.val (.ref a1)] [] := by first | (simp [entryFrame, mkF, argsToLocals, Value.category]; done) | rfl
def Q2 (Z : State) (a1 : Addr) (h0 : Heap) (n0 : Nat) (v : Option Value) (h : Heap) (L : List Loc) : Prop := v = none ∧ Fr n0 L ∧ h = h0
set_option maxRecDepth 65536 in
set_option maxHeartbeats 40000000 in
theorem rm2 (l : Launch) (Z : State) (a0 : Array Value) (hw : ∀ d ∈ tables_1, d.before a0 Z = true) (ws : List Jvm.Cond) (a1 : Addr) (h0 : Heap) (n0 : Nat) (Z0 : n0 ≤ h0.size) :
    MetFree l (⟨"java/lang/Record", "<init>", "()V"⟩ : MethodName) (head1 (Jvm.Cond.code (⟨"java/lang/Record", "<init>", "()V"⟩ : MethodName) jdk_30_method_1_code 1 none :: ws) ({ frames := 1, cells := 0, slots := 0, locals := 12 } : Room)) (fun α υ => α = #[(.ref a1)] ∧ Z.Warmed39 υ.vm ∧ υ.heap = h0) (fun _ _ _ _ _ => True) (fun _ υ ω υ' => ∃ v L, ω = .returned v ∧ Q2 Z a1 h0 n0 v υ'.heap L ∧ FrameEnd υ ω υ' L ({ frames := 1, cells := 0, slots := 0, locals := 12 } : Room).cells ({ frames := 1, cells := 0, slots := 0, locals := 12 } : Room).slots) := by
  refine MetFree.of_bodySF (plainFor_of_name pn_java_lang_Record) hisR ?_
  intro p e s m args below meth c s₁ Bd hml0 hP hK
  obtain ⟨rfl, hZ, hh⟩ := hP
  have hx := Bd.exec
  have hby := Bd.bytes
  have hml : c.maxLocals = 1 := hml0
  have hown : s.vm.findClass "java/lang/Record" = some m.cls := findClass_of_methodNamed Bd.named
  have hnm := (name_of_methodNamed Bd.named Bd.method).1
  have X0 : Stand p l e ({ frames := 1, cells := 0, slots := 0, locals := 12 } : Room) s m #[(.ref a1)] below meth c s₁ [] 0 0 := Stand.of_body Bd
  have e0 : s₁.heap = h0 := by rw [← hh, Bd.state]; rfl
  have N0 := Fr.nil n0
  have pre0 : ∀ τ, Steps p.tables e below (s₁.setTop (mkF m 0 #[.val (.ref a1)] [])) τ → Steps p.tables e below (s₁.setTop (entryFrame m #[(.ref a1)] 1)) τ := fun τ κ => castTop (ef_2 m a1) κ
  have pre1 := fun τ (κ : Steps p.tables e below (s₁.setTop (mkF m 1 #[.val (.ref a1)] [(.ref a1)])) τ) => pre0 τ (by
    refine XS.aloadN X0.here hx rfl (hb hby d2_0) rfl rfl ?_
    show Steps p.tables e below (s₁.setTop (mkF m 1 #[.val (.ref a1)] [(.ref a1)])) _
    exact κ)
  obtain ⟨T2, X2, e2, st2⟩ := initO X0 hx hZ hown (hw _ (List.mem_of_getElem? (i := 13) rfl)) (hw _ (List.mem_of_getElem? (i := 14) rfl)) (hw _ (List.mem_of_getElem? (i := 15) rfl)) e0 (g := (mkF m 1 #[.val (.ref a1)] [(.ref a1)])) rfl (by rw [hml]; rfl) rfl (hb hby d2_1) (by decide) (W := 0) (by show 2 * 0 + _ ≤ _; exact Nat.le_of_eq rfl) (by decide)
  have pre3 := fun τ (κ : Steps p.tables e below (T2.setTop (mkF m 4 #[.val (.ref a1)] [])) τ) => pre1 τ (st2 _ κ)
  obtain ⟨fs, hr, hrun, hended, hW, hsame⟩ := X2.leave (v := none) (fun _ => rfl)
  refine ⟨_, _, pre3 _ ?_, hrun, hended, _, _, rfl, ?_, ⟨_, rfl⟩, hW, hsame.mono (by decide) (by decide)⟩
  · exact X2.returnOut hx Bd.returns (hb hby d2_4) hr
  · show Q2 Z a1 h0 n0 _ T2.heap _
    rw [e2]
    exact ⟨rfl, N0, rfl⟩
theorem ef_1 (m : MethodId) (a1 : Addr) (a2 : Addr) : entryFrame m #[(.ref a1), (.ref a2), .null] 3 = mkF m 0 #[.val (.ref a1), .val (.ref a2), .val .null] [] := by first | (simp [entryFrame, mkF, argsToLocals, Value.category]; done) | rfl
def Q1 (Z : State) (a1 : Addr) (a2 : Addr) (h0 : Heap) (n0 : Nat) (v : Option Value) (h : Heap) (L : List Loc) : Prop := v = none ∧ Fr n0 L ∧ Keep h0 h [a1] ∧ Fld Z h a1 "com/example/qualoom/qualoom/solver/GeneticOperators$Individual" "genes" "[I" (.ref a2) ∧ Fld Z h a1 "com/example/qualoom/qualoom/solver/GeneticOperators$Individual" "score" "Lcom/example/qualoom/qualoom/evaluation/Score;" .null
set_option maxRecDepth 65536 in
set_option maxHeartbeats 40000000 in
theorem rm1 (l : Launch) (Z : State) (a0 : Array Value) (hw : ∀ d ∈ tables_1, d.before a0 Z = true) (ws : List Jvm.Cond) (a1 : Addr) (a2 : Addr) (h0 : Heap) (n0 : Nat) (Z0 : n0 ≤ h0.size) (E_a1 : Exa Z h0 a1 "com/example/qualoom/qualoom/solver/GeneticOperators$Individual") (F_genes_a1 : Fld Z h0 a1 "com/example/qualoom/qualoom/solver/GeneticOperators$Individual" "genes" "[I" .null) (F_score_a1 : Fld Z h0 a1 "com/example/qualoom/qualoom/solver/GeneticOperators$Individual" "score" "Lcom/example/qualoom/qualoom/evaluation/Score;" .null) (g_a1 : n0 ≤ a1) :
    MetFree l (⟨"com/example/qualoom/qualoom/solver/GeneticOperators$Individual", "<init>", "([ILcom/example/qualoom/qualoom/evaluation/Score;)V"⟩ : MethodName) (head1 (Jvm.Cond.code (⟨"com/example/qualoom/qualoom/solver/GeneticOperators$Individual", "<init>", "([ILcom/example/qualoom/qualoom/evaluation/Score;)V"⟩ : MethodName) prog_46_method_1_code 3 none :: ws) ({ frames := 2, cells := 0, slots := 0, locals := 24 } : Room)) (fun α υ => α = #[(.ref a1), (.ref a2), .null] ∧ Z.Warmed39 υ.vm ∧ υ.heap = h0) (fun _ _ _ _ _ => True) (fun _ υ ω υ' => ∃ v L, ω = .returned v ∧ Q1 Z a1 a2 h0 n0 v υ'.heap L ∧ FrameEnd υ ω υ' L ({ frames := 2, cells := 0, slots := 0, locals := 24 } : Room).cells ({ frames := 2, cells := 0, slots := 0, locals := 24 } : Room).slots) := by
  refine MetFree.of_bodySF (plainFor_of_name pn_com_example_qualoom_qualoom_solver_GeneticOperators_Individual) hisR ?_
  intro p e s m args below meth c s₁ Bd hml0 hP hK
  obtain ⟨rfl, hZ, hh⟩ := hP
  have hx := Bd.exec
  have hby := Bd.bytes
  have hml : c.maxLocals = 3 := hml0
  have hown : s.vm.findClass "com/example/qualoom/qualoom/solver/GeneticOperators$Individual" = some m.cls := findClass_of_methodNamed Bd.named
  have hnm := (name_of_methodNamed Bd.named Bd.method).1
  have X0 : Stand p l e ({ frames := 2, cells := 0, slots := 0, locals := 24 } : Room) s m #[(.ref a1), (.ref a2), .null] below meth c s₁ [] 0 0 := Stand.of_body Bd
  have e0 : s₁.heap = h0 := by rw [← hh, Bd.state]; rfl
  have N0 := Fr.nil n0
  have pre0 : ∀ τ, Steps p.tables e below (s₁.setTop (mkF m 0 #[.val (.ref a1), .val (.ref a2), .val .null] [])) τ → Steps p.tables e below (s₁.setTop (entryFrame m #[(.ref a1), (.ref a2), .null] 3)) τ := fun τ κ => castTop (ef_1 m a1 a2) κ
  have Kp0 : Keep h0 h0 [a1] := Keep.refl _ _
  have pre1 := fun τ (κ : Steps p.tables e below (s₁.setTop (mkF m 1 #[.val (.ref a1), .val (.ref a2), .val .null] [(.ref a1)])) τ) => pre0 τ (by
    refine XS.aloadN X0.here hx rfl (hb hby d1_0) rfl rfl ?_
    show Steps p.tables e below (s₁.setTop (mkF m 1 #[.val (.ref a1), .val (.ref a2), .val .null] [(.ref a1)])) _
    exact κ)
  obtain ⟨_, _, ⟨T2, L2, k2, n2⟩, -, X2, ⟨Lc2, hQ2, l2, y2, z2⟩, st2⟩ := X0.specialBack hx (y := (⟨"java/lang/Record", "<init>", "()V"⟩ : MethodName)) rfl hown (mvT hZ (hw _ (List.mem_of_getElem? (i := 8) rfl))) (mvT hZ (hw _ (List.mem_of_getElem? (i := 9) rfl))) (mvT hZ (hw _ (List.mem_of_getElem? (i := 12) rfl))) (by decide) (backOf (W := 0) (rm2 l Z a0 hw [] a1 h0 n0 Z0) hZ (hw _ (List.mem_of_getElem? (i := 12) rfl)) (hw _ (List.mem_of_getElem? (i := 11) rfl)) (by decide) (by decide)) (g := (mkF m 1 #[.val (.ref a1), .val (.ref a2), .val .null] [(.ref a1)])) rfl (by rw [hml]; rfl) (Steps.refl _) (a := a1) (argsL := []) (rest := []) (lenOf pd_0 rfl) rfl (by show 2 * 0 + _ ≤ _; exact Nat.le_of_eq rfl) (hb hby d1_1) (fun _ _ => ⟨rfl, e0, (by decide : 0 + 0 ≤ _), (by decide : 0 + 0 ≤ _)⟩)
  dsimp only [Pt.U, Pt.locs, Pt.cells, Pt.slots] at X2 l2 y2 z2 st2 hQ2
  subst l2 y2 z2
  obtain ⟨rfl, Nq2, hh2⟩ := hQ2
  have E_a1_2 : Exa Z T2.heap a1 "com/example/qualoom/qualoom/solver/GeneticOperators$Individual" := by rw [hh2]; exact E_a1
  have F_genes_a1_2 : Fld Z T2.heap a1 "com/example/qualoom/qualoom/solver/GeneticOperators$Individual" "genes" "[I" .null := by rw [hh2]; exact F_genes_a1
  have F_score_a1_2 : Fld Z T2.heap a1 "com/example/qualoom/qualoom/solver/GeneticOperators$Individual" "score" "Lcom/example/qualoom/qualoom/evaluation/Score;" .null := by rw [hh2]; exact F_score_a1
  have Z2 : n0 ≤ T2.heap.size := by rw [hh2]; exact Z0
  have Kp2 : Keep h0 T2.heap [a1] := by rw [hh2]; exact Kp0
  have N2 := Fr.app N0 Nq2
  have pre3 := fun τ (κ : Steps p.tables e below (T2.setTop (mkF m 4 #[.val (.ref a1), .val (.ref a2), .val .null] [])) τ) => pre1 τ (st2.trans κ)
  have pre4 := fun τ (κ : Steps p.tables e below (T2.setTop (mkF m 6 #[.val (.ref a1), .val (.ref a2), .val .null] [(.ref a2), (.ref a1)])) τ) => pre3 τ (by
    refine XS.aloadN X2.here hx rfl (hb hby d1_4) rfl rfl ?_
    show Steps p.tables e below (T2.setTop (mkF m 5 #[.val (.ref a1), .val (.ref a2), .val .null] [(.ref a1)])) _
    refine XS.aloadN X2.here hx rfl (hb hby d1_5) rfl rfl ?_
    show Steps p.tables e below (T2.setTop (mkF m 6 #[.val (.ref a1), .val (.ref a2), .val .null] [(.ref a2), (.ref a1)])) _
    exact κ)
  obtain ⟨T5, h5, X5, e5, W5, st5⟩ := putF X2 hx hZ hown (host := "") (Or.inl (hw _ (List.mem_of_getElem? (i := 16) rfl))) Via.refl rfl F_genes_a1_2 E_a1_2 (Or.inr ⟨(hw _ (List.mem_of_getElem? (i := 17) rfl)), rfl, hnm⟩) (hw _ (List.mem_of_getElem? (i := 3) rfl)) (ty := (.array .int)) (by decide) rfl rfl (g := (mkF m 6 #[.val (.ref a1), .val (.ref a2), .val .null] [(.ref a2), (.ref a1)])) rfl rfl (hb hby d1_6)
  have E_a1_5 : Exa Z h5 a1 "com/example/qualoom/qualoom/solver/GeneticOperators$Individual" := E_a1_2.wr W5
  have F_score_a1_5 : Fld Z h5 a1 "com/example/qualoom/qualoom/solver/GeneticOperators$Individual" "score" "Lcom/example/qualoom/qualoom/evaluation/Score;" .null := F_score_a1_2.other W5 (Or.inr (slot_ne (Or.inr (hw _ (List.mem_of_getElem? (i := 19) rfl))) (Or.inr (hw _ (List.mem_of_getElem? (i := 17) rfl))) (by decide) (t := (.object "com/example/qualoom/qualoom/evaluation/Score")) (t' := (.array .int)) (by decide) (by decide)))
  have Kp5 : Keep h0 h5 [a1] := Kp2.wr W5 (Or.inl (List.mem_of_getElem? (i := 0) rfl))
  have N5 := Fr.snoc X5 N2 g_a1
  have Z5 : n0 ≤ h5.size := Nat.le_trans Z2 (Keep.of_wr W5).1
  have F_genes_a1_5 : Fld Z h5 a1 "com/example/qualoom/qualoom/solver/GeneticOperators$Individual" "genes" "[I" (.ref a2) := F_genes_a1_2.same W5
  have pre6 := fun τ (κ : Steps p.tables e below (T5.setTop (mkF m 9 #[.val (.ref a1), .val (.ref a2), .val .null] [])) τ) => pre4 τ (st5 _ κ)
  have pre7 := fun τ (κ : Steps p.tables e below (T5.setTop (mkF m 11 #[.val (.ref a1), .val (.ref a2), .val .null] [.null, (.ref a1)])) τ) => pre6 τ (by
    refine XS.aloadN X5.here hx rfl (hb hby d1_9) rfl rfl ?_
    show Steps p.tables e below (T5.setTop (mkF m 10 #[.val (.ref a1), .val (.ref a2), .val .null] [(.ref a1)])) _
    refine XS.aloadN X5.here hx rfl (hb hby d1_10) rfl rfl ?_
    show Steps p.tables e below (T5.setTop (mkF m 11 #[.val (.ref a1), .val (.ref a2), .val .null] [.null, (.ref a1)])) _
    exact κ)
  obtain ⟨T8, h8, X8, e8, W8, st8⟩ := putF X5 hx hZ hown (host := "") (Or.inl (hw _ (List.mem_of_getElem? (i := 18) rfl))) Via.refl e5 F_score_a1_5 E_a1_5 (Or.inr ⟨(hw _ (List.mem_of_getElem? (i := 19) rfl)), rfl, hnm⟩) (hw _ (List.mem_of_getElem? (i := 3) rfl)) (ty := (.object "com/example/qualoom/qualoom/evaluation/Score")) (by decide) rfl rfl (g := (mkF m 11 #[.val (.ref a1), .val (.ref a2), .val .null] [.null, (.ref a1)])) rfl rfl (hb hby d1_11)
  have E_a1_8 : Exa Z h8 a1 "com/example/qualoom/qualoom/solver/GeneticOperators$Individual" := E_a1_5.wr W8
  have F_genes_a1_8 : Fld Z h8 a1 "com/example/qualoom/qualoom/solver/GeneticOperators$Individual" "genes" "[I" (.ref a2) := F_genes_a1_5.other W8 (Or.inr (slot_ne (Or.inr (hw _ (List.mem_of_getElem? (i := 17) rfl))) (Or.inr (hw _ (List.mem_of_getElem? (i := 19) rfl))) (by decide) (t := (.array .int)) (t' := (.object "com/example/qualoom/qualoom/evaluation/Score")) (by decide) (by decide)))
  have Kp8 : Keep h0 h8 [a1] := Kp5.wr W8 (Or.inl (List.mem_of_getElem? (i := 0) rfl))
  have N8 := Fr.snoc X8 N5 g_a1
  have Z8 : n0 ≤ h8.size := Nat.le_trans Z5 (Keep.of_wr W8).1
  have F_score_a1_8 : Fld Z h8 a1 "com/example/qualoom/qualoom/solver/GeneticOperators$Individual" "score" "Lcom/example/qualoom/qualoom/evaluation/Score;" .null := F_score_a1_5.same W8
  have pre9 := fun τ (κ : Steps p.tables e below (T8.setTop (mkF m 14 #[.val (.ref a1), .val (.ref a2), .val .null] [])) τ) => pre7 τ (st8 _ κ)
  obtain ⟨fs, hr, hrun, hended, hW, hsame⟩ := X8.leave (v := none) (fun _ => rfl)
  refine ⟨_, _, pre9 _ ?_, hrun, hended, _, _, rfl, ?_, ⟨_, rfl⟩, hW, hsame.mono (by decide) (by decide)⟩
  · exact X8.returnOut hx Bd.returns (hb hby d1_14) hr
  · show Q1 Z a1 a2 h0 n0 _ T8.heap _
    rw [e8]
    exact ⟨rfl, N8, Kp8, F_genes_a1_8, F_score_a1_8⟩
theorem ef_4 (m : MethodId) (a1 : Addr) (t : Int32) (cand : Int32) (G : Addr) (n : Int32) : entryFrame m #[(.ref a1), (.int t), (.int cand), .null] 5 = mkF m 0 #[.val (.ref a1), .val (.int t), .val (.int cand), .val .null, .unset] [] := by first | (simp [entryFrame, mkF, argsToLocals, Value.category]; done) | rfl
def Q4 (Z : State) (a1 : Addr) (t : Int32) (cand : Int32) (G : Addr) (n : Int32) (kG : ClassId) (vs : List Value) (h0 : Heap) (n0 : Nat) (v : Option Value) (h : Heap) (L : List Loc) : Prop := ∃ b d : Addr, v = some (.ref d) ∧ Fr n0 L ∧ Keep h0 h [] ∧ Exa Z h d "com/example/qualoom/qualoom/solver/GeneticOperators$Individual" ∧ Fld Z h d "com/example/qualoom/qualoom/solver/GeneticOperators$Individual" "genes" "[I" (.ref b) ∧ Fld Z h d "com/example/qualoom/qualoom/solver/GeneticOperators$Individual" "score" "Lcom/example/qualoom/qualoom/evaluation/Score;" .null ∧ Arv Z h b kG .int n (vs.set t.toNatClampNeg (.int cand)) (.int (0 : Int32)) ∧ h0.size ≤ b ∧ h0.size ≤ d
set_option maxRecDepth 65536 in
set_option maxHeartbeats 40000000 in
theorem rm4 (l : Launch) (Z : State) (a0 : Array Value) (hw : ∀ d ∈ tables_1, d.before a0 Z = true) (ws : List Jvm.Cond) (a1 : Addr) (t : Int32) (cand : Int32) (G : Addr) (n : Int32) (kG : ClassId) (vs : List Value) (h0 : Heap) (n0 : Nat) (Z0 : n0 ≤ h0.size) (F_genes_a1 : Fld Z h0 a1 "com/example/qualoom/qualoom/solver/GeneticOperators$Individual" "genes" "[I" (.ref G)) (E_G : Exa Z h0 G "[I") (V_G : Arv Z h0 G kG .int n vs (.int (0 : Int32))) (ht0 : ¬ t < 0) (ht1 : t < n) (hn4 : n.toNatClampNeg ≤ 4) (hvs : t.toNatClampNeg < vs.length) :
    MetFree l (⟨"com/example/qualoom/qualoom/solver/GeneticOperators$Individual", "with", "(IILcom/example/qualoom/qualoom/evaluation/Score;)Lcom/example/qualoom/qualoom/solver/GeneticOperators$Individual;"⟩ : MethodName) (head1 (Jvm.Cond.code (⟨"com/example/qualoom/qualoom/solver/GeneticOperators$Individual", "with", "(IILcom/example/qualoom/qualoom/evaluation/Score;)Lcom/example/qualoom/qualoom/solver/GeneticOperators$Individual;"⟩ : MethodName) prog_46_method_3_code 5 (some (.object "com/example/qualoom/qualoom/solver/GeneticOperators$Individual")) :: ws) ({ frames := 3, cells := 2, slots := 6, locals := 39 } : Room)) (fun α υ => α = #[(.ref a1), (.int t), (.int cand), .null] ∧ Z.Warmed39 υ.vm ∧ υ.heap = h0) (fun _ _ _ _ _ => True) (fun _ υ ω υ' => ∃ v L, ω = .returned v ∧ Q4 Z a1 t cand G n kG vs h0 n0 v υ'.heap L ∧ FrameEnd υ ω υ' L ({ frames := 3, cells := 2, slots := 6, locals := 39 } : Room).cells ({ frames := 3, cells := 2, slots := 6, locals := 39 } : Room).slots) := by
  refine MetFree.of_bodySF (plainFor_of_name pn_com_example_qualoom_qualoom_solver_GeneticOperators_Individual) hisR ?_
  intro p e s m args below meth c s₁ Bd hml0 hP hK
  obtain ⟨rfl, hZ, hh⟩ := hP
  have hx := Bd.exec
  have hby := Bd.bytes
  have hml : c.maxLocals = 5 := hml0
  have hown : s.vm.findClass "com/example/qualoom/qualoom/solver/GeneticOperators$Individual" = some m.cls := findClass_of_methodNamed Bd.named
  have hnm := (name_of_methodNamed Bd.named Bd.method).1
  have X0 : Stand p l e ({ frames := 3, cells := 2, slots := 6, locals := 39 } : Room) s m #[(.ref a1), (.int t), (.int cand), .null] below meth c s₁ [] 0 0 := Stand.of_body Bd
  have e0 : s₁.heap = h0 := by rw [← hh, Bd.state]; rfl
  have N0 := Fr.nil n0
  have pre0 : ∀ τ, Steps p.tables e below (s₁.setTop (mkF m 0 #[.val (.ref a1), .val (.int t), .val (.int cand), .val .null, .unset] [])) τ → Steps p.tables e below (s₁.setTop (entryFrame m #[(.ref a1), (.int t), (.int cand), .null] 5)) τ := fun τ κ => castTop (ef_4 m a1 t cand G n) κ
  have Kp0 : Keep h0 h0 [] := Keep.refl _ _
  have pre1 := fun τ (κ : Steps p.tables e below (s₁.setTop (mkF m 1 #[.val (.ref a1), .val (.int t), .val (.int cand), .val .null, .unset] [(.ref a1)])) τ) => pre0 τ (by
    refine XS.aloadN X0.here hx rfl (hb hby d4_0) rfl rfl ?_
    show Steps p.tables e below (s₁.setTop (mkF m 1 #[.val (.ref a1), .val (.int t), .val (.int cand), .val .null, .unset] [(.ref a1)])) _
    exact κ)
  obtain ⟨T2, X2, e2, st2⟩ := getF X0 hx hZ hown (host := "") (Or.inl (hw _ (List.mem_of_getElem? (i := 16) rfl))) Via.refl e0 F_genes_a1 (g := (mkF m 1 #[.val (.ref a1), .val (.int t), .val (.int cand), .val .null, .unset] [(.ref a1)])) rfl rfl (hb hby d4_1)
  have pre3 := fun τ (κ : Steps p.tables e below (T2.setTop (mkF m 4 #[.val (.ref a1), .val (.int t), .val (.int cand), .val .null, .unset] [(.ref G)])) τ) => pre1 τ (st2 _ κ)
  obtain ⟨T4, h4, X4, e4, E4, A4, B4, st4⟩ := cloneH X2 hx hZ hown (hw _ (List.mem_of_getElem? (i := 25) rfl)) (hw _ (List.mem_of_getElem? (i := 26) rfl)) (hw _ (List.mem_of_getElem? (i := 30) rfl)) (hw _ (List.mem_of_getElem? (i := 28) rfl)) (hw _ (List.mem_of_getElem? (i := 29) rfl)) (hw _ (List.mem_of_getElem? (i := 31) rfl)) e2 V_G.arh E_G (g := (mkF m 4 #[.val (.ref a1), .val (.int t), .val (.int cand), .val .null, .unset] [(.ref G)])) rfl (by rw [hml]; rfl) rfl (hb hby d4_4) (by decide) (W := 0) (cap := 4) (by show 2 * 0 + _ ≤ _; exact Nat.le_of_eq rfl) (by decide) hn4 (by decide) (by decide)
  obtain ⟨b, g4⟩ : ∃ z, z = h0.size := ⟨_, rfl⟩
  rw [← g4] at A4 B4 st4
  have g_b : n0 ≤ b := Nat.le_trans Z0 (Nat.le_of_eq g4.symm)
  have ne_a1_b : a1 ≠ b := Nat.ne_of_lt (Nat.lt_of_lt_of_le F_genes_a1.lt (Nat.le_of_eq g4.symm))
  have ne_G_b : G ≠ b := Nat.ne_of_lt (Nat.lt_of_lt_of_le E_G.lt (Nat.le_of_eq g4.symm))
  have F_genes_a1_4 : Fld Z h4 a1 "com/example/qualoom/qualoom/solver/GeneticOperators$Individual" "genes" "[I" (.ref G) := F_genes_a1.ext E4
  have E_G_4 : Exa Z h4 G "[I" := E_G.ext E4
  have V_G_4 : Arv Z h4 G kG .int n vs (.int (0 : Int32)) := V_G.ext E4
  have sz_b : h0.size ≤ b := Nat.le_trans Kp0.1 (Nat.le_of_eq g4.symm)
  have Kp4 : Keep h0 h4 [] := Kp0.ext E4
  have Z4 : n0 ≤ h4.size := Nat.le_trans Z0 E4.1
  have V_b_4 : Arv Z h4 b kG .int n vs (.int (0 : Int32)) := A4
  have pre5 := fun τ (κ : Steps p.tables e below (T4.setTop (mkF m 7 #[.val (.ref a1), .val (.int t), .val (.int cand), .val .null, .unset] [(.ref b)])) τ) => pre3 τ (st4 _ κ)
  obtain ⟨T6, X6, e6, st6⟩ := castY X4 hx hZ hown (hw _ (List.mem_of_getElem? (i := 32) rfl)) e4 (Ins.self B4) (g := (mkF m 7 #[.val (.ref a1), .val (.int t), .val (.int cand), .val .null, .unset] [(.ref b)])) rfl rfl (hb hby d4_7)
  have pre7 := fun τ (κ : Steps p.tables e below (T6.setTop (mkF m 10 #[.val (.ref a1), .val (.int t), .val (.int cand), .val .null, .unset] [(.ref b)])) τ) => pre5 τ (st6 _ κ)
  have pre8 := fun τ (κ : Steps p.tables e below (T6.setTop (mkF m 16 #[.val (.ref a1), .val (.int t), .val (.int cand), .val .null, .val (.ref b)] [(.int cand), (.int t), (.ref b)])) τ) => pre7 τ (by
    refine XS.astore X6.here hx rfl (hb hby d4_10) rfl rfl (l' := #[.val (.ref a1), .val (.int t), .val (.int cand), .val .null, .val (.ref b)]) rfl ?_
    show Steps p.tables e below (T6.setTop (mkF m 12 #[.val (.ref a1), .val (.int t), .val (.int cand), .val .null, .val (.ref b)] [])) _
    refine XS.aload X6.here hx rfl (hb hby d4_12) rfl rfl ?_
    show Steps p.tables e below (T6.setTop (mkF m 14 #[.val (.ref a1), .val (.int t), .val (.int cand), .val .null, .val (.ref b)] [(.ref b)])) _
    refine XS.iloadN X6.here hx rfl (hb hby d4_14) rfl ?_
    show Steps p.tables e below (T6.setTop (mkF m 15 #[.val (.ref a1), .val (.int t), .val (.int cand), .val .null, .val (.ref b)] [(.int t), (.ref b)])) _
    refine XS.iloadN X6.here hx rfl (hb hby d4_15) rfl ?_
    show Steps p.tables e below (T6.setTop (mkF m 16 #[.val (.ref a1), .val (.int t), .val (.int cand), .val .null, .val (.ref b)] [(.int cand), (.int t), (.ref b)])) _
    exact κ)
  obtain ⟨cl9, Ar9, q9, S9, M9, H9, G9⟩ := id V_b_4
  have in9 : ¬ (t < 0 ∨ cl9.slots.size ≤ (t).toNatClampNeg) := inb_of S9 ⟨ht0, ht1⟩
  obtain ⟨T10, h10, X10, e10, W10, st10⟩ := stI X6 hx hZ e6 Ar9 (j := t) in9 (g := (mkF m 16 #[.val (.ref a1), .val (.int t), .val (.int cand), .val .null, .val (.ref b)] [(.int cand), (.int t), (.ref b)])) rfl rfl (hb hby d4_16)
  have F_genes_a1_10 : Fld Z h10 a1 "com/example/qualoom/qualoom/solver/GeneticOperators$Individual" "genes" "[I" (.ref G) := F_genes_a1_4.other W10 (Or.inl ne_a1_b)
  have E_G_10 : Exa Z h10 G "[I" := E_G_4.wr W10
  have V_G_10 : Arv Z h10 G kG .int n vs (.int (0 : Int32)) := V_G_4.other W10 ne_G_b
  have B4_10 : Exa Z h10 b "[I" := B4.wr W10
  have Kp10 : Keep h0 h10 [] := Kp4.wr W10 (Or.inr sz_b)
  have N10 := Fr.snoc X10 N0 g_b
  have Z10 : n0 ≤ h10.size := Nat.le_trans Z4 (Keep.of_wr W10).1
  have V_b_10 : Arv Z h10 b kG .int n (vs.set t.toNatClampNeg (.int cand)) (.int (0 : Int32)) := Arv.set Ar9 q9 S9 M9 H9 G9 rfl W10 t.toNatClampNeg (by first | rfl | assumption) (by assumption)
  have pre11 := fun τ (κ : Steps p.tables e below (T10.setTop (mkF m 17 #[.val (.ref a1), .val (.int t), .val (.int cand), .val .null, .val (.ref b)] [])) τ) => pre8 τ (st10 _ κ)
  obtain ⟨T12, h12, X12, e12, E12, A12, D12, -, st12⟩ := newO X10 hx hZ hown (hw _ (List.mem_of_getElem? (i := 34) rfl)) (hw _ (List.mem_of_getElem? (i := 3) rfl)) (hw _ (List.mem_of_getElem? (i := 4) rfl)) e10 (g := (mkF m 17 #[.val (.ref a1), .val (.int t), .val (.int cand), .val .null, .val (.ref b)] [])) rfl (hb hby d4_17) (by decide) (by decide)
  obtain ⟨d, g12⟩ : ∃ z, z = h10.size := ⟨_, rfl⟩
  rw [← g12] at A12 D12 st12
  have g_d : n0 ≤ d := Nat.le_trans Z10 (Nat.le_of_eq g12.symm)
  have ne_a1_d : a1 ≠ d := Nat.ne_of_lt (Nat.lt_of_lt_of_le F_genes_a1_10.lt (Nat.le_of_eq g12.symm))
  have ne_G_d : G ≠ d := Nat.ne_of_lt (Nat.lt_of_lt_of_le E_G_10.lt (Nat.le_of_eq g12.symm))
  have ne_b_d : b ≠ d := Nat.ne_of_lt (Nat.lt_of_lt_of_le B4_10.lt (Nat.le_of_eq g12.symm))
  have F_genes_a1_12 : Fld Z h12 a1 "com/example/qualoom/qualoom/solver/GeneticOperators$Individual" "genes" "[I" (.ref G) := F_genes_a1_10.ext E12
  have E_G_12 : Exa Z h12 G "[I" := E_G_10.ext E12
  have V_G_12 : Arv Z h12 G kG .int n vs (.int (0 : Int32)) := V_G_10.ext E12
  have B4_12 : Exa Z h12 b "[I" := B4_10.ext E12
  have V_b_12 : Arv Z h12 b kG .int n (vs.set t.toNatClampNeg (.int cand)) (.int (0 : Int32)) := V_b_10.ext E12
  have sz_d : h0.size ≤ d := Nat.le_trans Kp10.1 (Nat.le_of_eq g12.symm)
  have Kp12 : Keep h0 h12 [] := Kp10.ext E12
  have Z12 : n0 ≤ h12.size := Nat.le_trans Z10 E12.1
  have F_genes_d_12 : Fld Z h12 d "com/example/qualoom/qualoom/solver/GeneticOperators$Individual" "genes" "[I" .null := D12 (Or.inr (hw _ (List.mem_of_getElem? (i := 17) rfl))) (ty := (.array .int)) (by decide)
  have F_score_d_12 : Fld Z h12 d "com/example/qualoom/qualoom/solver/GeneticOperators$Individual" "score" "Lcom/example/qualoom/qualoom/evaluation/Score;" .null := D12 (Or.inr (hw _ (List.mem_of_getElem? (i := 19) rfl))) (ty := (.object "com/example/qualoom/qualoom/evaluation/Score")) (by decide)
  have pre13 := fun τ (κ : Steps p.tables e below (T12.setTop (mkF m 20 #[.val (.ref a1), .val (.int t), .val (.int cand), .val .null, .val (.ref b)] [(.ref d)])) τ) => pre11 τ (st12 _ κ)
  have pre14 := fun τ (κ : Steps p.tables e below (T12.setTop (mkF m 24 #[.val (.ref a1), .val (.int t), .val (.int cand), .val .null, .val (.ref b)] [.null, (.ref b), (.ref d), (.ref d)])) τ) => pre13 τ (by
    refine XS.dup X12.here hx rfl (hb hby d4_20) rfl rfl ?_
    show Steps p.tables e below (T12.setTop (mkF m 21 #[.val (.ref a1), .val (.int t), .val (.int cand), .val .null, .val (.ref b)] [(.ref d), (.ref d)])) _
    refine XS.aload X12.here hx rfl (hb hby d4_21) rfl rfl ?_
    show Steps p.tables e below (T12.setTop (mkF m 23 #[.val (.ref a1), .val (.int t), .val (.int cand), .val .null, .val (.ref b)] [(.ref b), (.ref d), (.ref d)])) _
    refine XS.aloadN X12.here hx rfl (hb hby d4_23) rfl rfl ?_
    show Steps p.tables e below (T12.setTop (mkF m 24 #[.val (.ref a1), .val (.int t), .val (.int cand), .val .null, .val (.ref b)] [.null, (.ref b), (.ref d), (.ref d)])) _
    exact κ)
  obtain ⟨_, _, ⟨T15, L15, k15, n15⟩, -, X15, ⟨Lc15, hQ15, l15, y15, z15⟩, st15⟩ := X12.specialBack hx (y := (⟨"com/example/qualoom/qualoom/solver/GeneticOperators$Individual", "<init>", "([ILcom/example/qualoom/qualoom/evaluation/Score;)V"⟩ : MethodName)) rfl hown (mvT hZ (hw _ (List.mem_of_getElem? (i := 35) rfl))) (mvT hZ (hw _ (List.mem_of_getElem? (i := 6) rfl))) (mvT hZ (hw _ (List.mem_of_getElem? (i := 7) rfl))) (by decide) (backOf (W := 1) (rm1 l Z a0 hw [] d b h12 n0 Z12 A12 F_genes_d_12 F_score_d_12 g_d) hZ (hw _ (List.mem_of_getElem? (i := 7) rfl)) (hw _ (List.mem_of_getElem? (i := 4) rfl)) (by decide) (by decide)) (g := (mkF m 24 #[.val (.ref a1), .val (.int t), .val (.int cand), .val .null, .val (.ref b)] [.null, (.ref b), (.ref d), (.ref d)])) rfl (by rw [hml]; rfl) (Steps.refl _) (a := d) (argsL := [(.ref b), .null]) (rest := [(.ref d)]) (lenOf pd_1 rfl) rfl (by show 2 * 0 + _ ≤ _; exact Nat.le_of_eq rfl) (hb hby d4_24) (fun _ _ => ⟨rfl, e12, (by decide : 2 + 0 ≤ _), (by decide : 6 + 0 ≤ _)⟩)
  dsimp only [Pt.U, Pt.locs, Pt.cells, Pt.slots] at X15 l15 y15 z15 st15 hQ15
  subst l15 y15 z15
  obtain ⟨rfl, Nq15, K15, Fg15, Fs15⟩ := hQ15
  have F_genes_a1_15 : Fld Z T15.heap a1 "com/example/qualoom/qualoom/solver/GeneticOperators$Individual" "genes" "[I" (.ref G) := F_genes_a1_12.keep K15 (ninS ne_a1_d nin0)
  have E_G_15 : Exa Z T15.heap G "[I" := E_G_12.keep K15
  have V_G_15 : Arv Z T15.heap G kG .int n vs (.int (0 : Int32)) := V_G_12.keep K15 (ninS ne_G_d nin0)
  have B4_15 : Exa Z T15.heap b "[I" := B4_12.keep K15
  have V_b_15 : Arv Z T15.heap b kG .int n (vs.set t.toNatClampNeg (.int cand)) (.int (0 : Int32)) := V_b_12.keep K15 (ninS ne_b_d nin0)
  have A12_15 : Exa Z T15.heap d "com/example/qualoom/qualoom/solver/GeneticOperators$Individual" := A12.keep K15
  have Z15 : n0 ≤ T15.heap.size := Nat.le_trans Z12 K15.1
  have Kp15 : Keep h0 T15.heap [] := Kp12.trans K15 (allS (Or.inr sz_d) all0)
  have N15 := Fr.app N10 Nq15
  have pre16 := fun τ (κ : Steps p.tables e below (T15.setTop (mkF m 27 #[.val (.ref a1), .val (.int t), .val (.int cand), .val .null, .val (.ref b)] [(.ref d)])) τ) => pre14 τ (st15.trans κ)
  obtain ⟨fs, hr, hrun, hended, hW, hsame⟩ := X15.leave (v := some (.ref d)) (fun h => by rw [Bd.returns] at h; cases h)
  refine ⟨_, _, pre16 _ ?_, hrun, hended, _, _, rfl, ?_, ⟨_, rfl⟩, hW, hsame.mono (by decide) (by decide)⟩
  · jvm_step X15.here [X15.here.top, hx, (hb hby d4_27), X15.method', Bd.returns, Value.isRef, FieldType.isReference]
    first | (intro acts; rw [hr _ acts rfl rfl rfl]) | rw [hr _ _ rfl rfl rfl]
    exact Steps.refl _
  · show Q4 Z a1 t cand G n kG vs h0 n0 _ T15.heap _
    exact ⟨b, d, rfl, N15, Kp15, A12_15, Fg15, Fs15, V_b_15, sz_b, sz_d⟩
theorem ef_5 (m : MethodId) (a1 : Addr) (G : Addr) : entryFrame m #[(.ref a1)] 1 = mkF m 0 #[.val (.ref a1)] [] := by first | (simp [entryFrame, mkF, argsToLocals, Value.category]; done) | rfl
def Q5 (Z : State) (a1 : Addr) (G : Addr) (h0 : Heap) (n0 : Nat) (v : Option Value) (h : Heap) (L : List Loc) : Prop := v = some (.ref G) ∧ Fr n0 L ∧ h = h0
set_option maxRecDepth 65536 in
set_option maxHeartbeats 40000000 in
theorem rm5 (l : Launch) (Z : State) (a0 : Array Value) (hw : ∀ d ∈ tables_1, d.before a0 Z = true) (ws : List Jvm.Cond) (a1 : Addr) (G : Addr) (h0 : Heap) (n0 : Nat) (Z0 : n0 ≤ h0.size) (Fg : Fld Z h0 a1 "com/example/qualoom/qualoom/solver/GeneticOperators$Individual" "genes" "[I" (.ref G)) :
    MetFree l (⟨"com/example/qualoom/qualoom/solver/GeneticOperators$Individual", "genes", "()[I"⟩ : MethodName) (head1 (Jvm.Cond.code (⟨"com/example/qualoom/qualoom/solver/GeneticOperators$Individual", "genes", "()[I"⟩ : MethodName) prog_46_method_7_code 1 (some (.array .int)) :: ws) ({ frames := 0, cells := 0, slots := 0, locals := 0 } : Room)) (fun α υ => α = #[(.ref a1)] ∧ Z.Warmed39 υ.vm ∧ υ.heap = h0) (fun _ _ _ _ _ => True) (fun _ υ ω υ' => ∃ v L, ω = .returned v ∧ Q5 Z a1 G h0 n0 v υ'.heap L ∧ FrameEnd υ ω υ' L ({ frames := 0, cells := 0, slots := 0, locals := 0 } : Room).cells ({ frames := 0, cells := 0, slots := 0, locals := 0 } : Room).slots) := by
  refine MetFree.of_bodySF (plainFor_of_name pn_com_example_qualoom_qualoom_solver_GeneticOperators_Individual) hisR ?_
  intro p e s m args below meth c s₁ Bd hml0 hP hK
  obtain ⟨rfl, hZ, hh⟩ := hP
  have hx := Bd.exec
  have hby := Bd.bytes
  have hml : c.maxLocals = 1 := hml0
  have hown : s.vm.findClass "com/example/qualoom/qualoom/solver/GeneticOperators$Individual" = some m.cls := findClass_of_methodNamed Bd.named
  have hnm := (name_of_methodNamed Bd.named Bd.method).1
  have X0 : Stand p l e ({ frames := 0, cells := 0, slots := 0, locals := 0 } : Room) s m #[(.ref a1)] below meth c s₁ [] 0 0 := Stand.of_body Bd
  have e0 : s₁.heap = h0 := by rw [← hh, Bd.state]; rfl
  have N0 := Fr.nil n0
  have pre0 : ∀ τ, Steps p.tables e below (s₁.setTop (mkF m 0 #[.val (.ref a1)] [])) τ → Steps p.tables e below (s₁.setTop (entryFrame m #[(.ref a1)] 1)) τ := fun τ κ => castTop (ef_5 m a1 G) κ
  have pre1 := fun τ (κ : Steps p.tables e below (s₁.setTop (mkF m 1 #[.val (.ref a1)] [(.ref a1)])) τ) => pre0 τ (by
    refine XS.aloadN X0.here hx rfl (hb hby d5_0) rfl rfl ?_
    show Steps p.tables e below (s₁.setTop (mkF m 1 #[.val (.ref a1)] [(.ref a1)])) _
    exact κ)
  obtain ⟨T2, X2, e2, st2⟩ := getF X0 hx hZ hown (host := "") (Or.inl (hw _ (List.mem_of_getElem? (i := 16) rfl))) Via.refl e0 Fg (g := (mkF m 1 #[.val (.ref a1)] [(.ref a1)])) rfl rfl (hb hby d5_1)
  have pre3 := fun τ (κ : Steps p.tables e below (T2.setTop (mkF m 4 #[.val (.ref a1)] [(.ref G)])) τ) => pre1 τ (st2 _ κ)
  obtain ⟨fs, hr, hrun, hended, hW, hsame⟩ := X2.leave (v := some (.ref G)) (fun h => by rw [Bd.returns] at h; cases h)
  refine ⟨_, _, pre3 _ ?_, hrun, hended, _, _, rfl, ?_, ⟨_, rfl⟩, hW, hsame.mono (by decide) (by decide)⟩
  · jvm_step X2.here [X2.here.top, hx, (hb hby d5_4), X2.method', Bd.returns, Value.isRef, FieldType.isReference]
    first | (intro acts; rw [hr _ acts rfl rfl rfl]) | rw [hr _ _ rfl rfl rfl]
    exact Steps.refl _
  · show Q5 Z a1 G h0 n0 _ T2.heap _
    rw [e2]
    exact ⟨rfl, N0, rfl⟩
theorem ef_6 (m : MethodId) (a1 : Addr) : entryFrame m #[(.ref a1)] 1 = mkF m 0 #[.val (.ref a1)] [] := by first | (simp [entryFrame, mkF, argsToLocals, Value.category]; done) | rfl
def Q6 (Z : State) (a1 : Addr) (h0 : Heap) (n0 : Nat) (v : Option Value) (h : Heap) (L : List Loc) : Prop := v = some .null ∧ Fr n0 L ∧ h = h0
set_option maxRecDepth 65536 in
set_option maxHeartbeats 40000000 in
theorem rm6 (l : Launch) (Z : State) (a0 : Array Value) (hw : ∀ d ∈ tables_1, d.before a0 Z = true) (ws : List Jvm.Cond) (a1 : Addr) (h0 : Heap) (n0 : Nat) (Z0 : n0 ≤ h0.size) (Fs : Fld Z h0 a1 "com/example/qualoom/qualoom/solver/GeneticOperators$Individual" "score" "Lcom/example/qualoom/qualoom/evaluation/Score;" .null) :
    MetFree l (⟨"com/example/qualoom/qualoom/solver/GeneticOperators$Individual", "score", "()Lcom/example/qualoom/qualoom/evaluation/Score;"⟩ : MethodName) (head1 (Jvm.Cond.code (⟨"com/example/qualoom/qualoom/solver/GeneticOperators$Individual", "score", "()Lcom/example/qualoom/qualoom/evaluation/Score;"⟩ : MethodName) prog_46_method_8_code 1 (some (.object "com/example/qualoom/qualoom/evaluation/Score")) :: ws) ({ frames := 0, cells := 0, slots := 0, locals := 0 } : Room)) (fun α υ => α = #[(.ref a1)] ∧ Z.Warmed39 υ.vm ∧ υ.heap = h0) (fun _ _ _ _ _ => True) (fun _ υ ω υ' => ∃ v L, ω = .returned v ∧ Q6 Z a1 h0 n0 v υ'.heap L ∧ FrameEnd υ ω υ' L ({ frames := 0, cells := 0, slots := 0, locals := 0 } : Room).cells ({ frames := 0, cells := 0, slots := 0, locals := 0 } : Room).slots) := by
  refine MetFree.of_bodySF (plainFor_of_name pn_com_example_qualoom_qualoom_solver_GeneticOperators_Individual) hisR ?_
  intro p e s m args below meth c s₁ Bd hml0 hP hK
  obtain ⟨rfl, hZ, hh⟩ := hP
  have hx := Bd.exec
  have hby := Bd.bytes
  have hml : c.maxLocals = 1 := hml0
  have hown : s.vm.findClass "com/example/qualoom/qualoom/solver/GeneticOperators$Individual" = some m.cls := findClass_of_methodNamed Bd.named
  have hnm := (name_of_methodNamed Bd.named Bd.method).1
  have X0 : Stand p l e ({ frames := 0, cells := 0, slots := 0, locals := 0 } : Room) s m #[(.ref a1)] below meth c s₁ [] 0 0 := Stand.of_body Bd
  have e0 : s₁.heap = h0 := by rw [← hh, Bd.state]; rfl
  have N0 := Fr.nil n0
  have pre0 : ∀ τ, Steps p.tables e below (s₁.setTop (mkF m 0 #[.val (.ref a1)] [])) τ → Steps p.tables e below (s₁.setTop (entryFrame m #[(.ref a1)] 1)) τ := fun τ κ => castTop (ef_6 m a1) κ
  have pre1 := fun τ (κ : Steps p.tables e below (s₁.setTop (mkF m 1 #[.val (.ref a1)] [(.ref a1)])) τ) => pre0 τ (by
    refine XS.aloadN X0.here hx rfl (hb hby d6_0) rfl rfl ?_
    show Steps p.tables e below (s₁.setTop (mkF m 1 #[.val (.ref a1)] [(.ref a1)])) _
    exact κ)
  obtain ⟨T2, X2, e2, st2⟩ := getF X0 hx hZ hown (host := "") (Or.inl (hw _ (List.mem_of_getElem? (i := 18) rfl))) Via.refl e0 Fs (g := (mkF m 1 #[.val (.ref a1)] [(.ref a1)])) rfl rfl (hb hby d6_1)
  have pre3 := fun τ (κ : Steps p.tables e below (T2.setTop (mkF m 4 #[.val (.ref a1)] [.null])) τ) => pre1 τ (st2 _ κ)
  obtain ⟨fs, hr, hrun, hended, hW, hsame⟩ := X2.leave (v := some .null) (fun h => by rw [Bd.returns] at h; cases h)
  refine ⟨_, _, pre3 _ ?_, hrun, hended, _, _, rfl, ?_, ⟨_, rfl⟩, hW, hsame.mono (by decide) (by decide)⟩
  · jvm_step X2.here [X2.here.top, hx, (hb hby d6_4), X2.method', Bd.returns, Value.isRef, FieldType.isReference]
    first | (intro acts; rw [hr _ acts rfl rfl rfl]) | rw [hr _ _ rfl rfl rfl]
    exact Steps.refl _
  · show Q6 Z a1 h0 n0 _ T2.heap _
    rw [e2]
    exact ⟨rfl, N0, rfl⟩
theorem ef_7 (m : MethodId) (a1 : Addr) (a2 : Addr) (i : Int32) (n : Int32) (t : Int32) (cand : Int32) (old : Int32) : entryFrame m #[(.ref a1), (.ref a2), (.int i), (.int n), (.int t), (.int cand), (.int old)] 8 = mkF m 0 #[.val (.ref a1), .val (.ref a2), .val (.int i), .val (.int n), .val (.int t), .val (.int cand), .val (.int old), .unset] [] := by first | (simp [entryFrame, mkF, argsToLocals, Value.category]; done) | rfl
def Q7 (Z : State) (a1 : Addr) (a2 : Addr) (i : Int32) (n : Int32) (t : Int32) (cand : Int32) (old : Int32) (k1 : ClassId) (k2 : ClassId) (vs1 : List Value) (vs2 : List Value) (h0 : Heap) (n0 : Nat) (v : Option Value) (h : Heap) (L : List Loc) : Prop := v = some (.int 1) ∧ Fr n0 L ∧ h = h0
set_option maxRecDepth 65536 in
set_option maxHeartbeats 40000000 in
theorem rm7 (l : Launch) (Z : State) (a0 : Array Value) (hw : ∀ d ∈ tables_1, d.before a0 Z = true) (ws : List Jvm.Cond) (a1 : Addr) (a2 : Addr) (i : Int32) (n : Int32) (t : Int32) (cand : Int32) (old : Int32) (k1 : ClassId) (k2 : ClassId) (vs1 : List Value) (vs2 : List Value) (h0 : Heap) (n0 : Nat) (Z0 : n0 ≤ h0.size) (V1 : Arv Z h0 a1 k1 .int n vs1 (.int (0 : Int32))) (V2 : Arv Z h0 a2 k2 .int n vs2 (.int (0 : Int32))) (hi0 : ¬ i < 0) (hs : i < n → vs1.getD i.toNatClampNeg (.int (0 : Int32)) = .int (if i = t then cand else old) ∧ vs2.getD i.toNatClampNeg (.int (0 : Int32)) = .int old) :
    MetFree l (⟨"com/example/qualoom/qualoom/solver/IndividualWithPinLaw", "slot", "([I[IIIIII)Z"⟩ : MethodName) (head1 (Jvm.Cond.code (⟨"com/example/qualoom/qualoom/solver/IndividualWithPinLaw", "slot", "([I[IIIIII)Z"⟩ : MethodName) method_3_code 8 (some .boolean) :: ws) ({ frames := 0, cells := 0, slots := 0, locals := 0 } : Room)) (fun α υ => α = #[(.ref a1), (.ref a2), (.int i), (.int n), (.int t), (.int cand), (.int old)] ∧ Z.Warmed39 υ.vm ∧ υ.heap = h0) (fun _ _ _ _ _ => True) (fun _ υ ω υ' => ∃ v L, ω = .returned v ∧ Q7 Z a1 a2 i n t cand old k1 k2 vs1 vs2 h0 n0 v υ'.heap L ∧ FrameEnd υ ω υ' L ({ frames := 0, cells := 0, slots := 0, locals := 0 } : Room).cells ({ frames := 0, cells := 0, slots := 0, locals := 0 } : Room).slots) := by
  refine MetFree.of_bodySF (plainFor_of_name pn_com_example_qualoom_qualoom_solver_IndividualWithPinLaw) hisR ?_
  intro p e s m args below meth c s₁ Bd hml0 hP hK
  obtain ⟨rfl, hZ, hh⟩ := hP
  have hx := Bd.exec
  have hby := Bd.bytes
  have hml : c.maxLocals = 8 := hml0
  have hown : s.vm.findClass "com/example/qualoom/qualoom/solver/IndividualWithPinLaw" = some m.cls := findClass_of_methodNamed Bd.named
  have hnm := (name_of_methodNamed Bd.named Bd.method).1
  have X0 : Stand p l e ({ frames := 0, cells := 0, slots := 0, locals := 0 } : Room) s m #[(.ref a1), (.ref a2), (.int i), (.int n), (.int t), (.int cand), (.int old)] below meth c s₁ [] 0 0 := Stand.of_body Bd
  have e0 : s₁.heap = h0 := by rw [← hh, Bd.state]; rfl
  have N0 := Fr.nil n0
  have pre0 : ∀ τ, Steps p.tables e below (s₁.setTop (mkF m 0 #[.val (.ref a1), .val (.ref a2), .val (.int i), .val (.int n), .val (.int t), .val (.int cand), .val (.int old), .unset] [])) τ → Steps p.tables e below (s₁.setTop (entryFrame m #[(.ref a1), (.ref a2), (.int i), (.int n), (.int t), (.int cand), (.int old)] 8)) τ := fun τ κ => castTop (ef_7 m a1 a2 i n t cand old) κ
  have pre1 := fun τ (κ : Steps p.tables e below (s₁.setTop (mkF m 2 #[.val (.ref a1), .val (.ref a2), .val (.int i), .val (.int n), .val (.int t), .val (.int cand), .val (.int old), .unset] [(.int n), (.int i)])) τ) => pre0 τ (by
    refine XS.iloadN X0.here hx rfl (hb hby d7_0) rfl ?_
    show Steps p.tables e below (s₁.setTop (mkF m 1 #[.val (.ref a1), .val (.ref a2), .val (.int i), .val (.int n), .val (.int t), .val (.int cand), .val (.int old), .unset] [(.int i)])) _
    refine XS.iloadN X0.here hx rfl (hb hby d7_1) rfl ?_
    show Steps p.tables e below (s₁.setTop (mkF m 2 #[.val (.ref a1), .val (.ref a2), .val (.int i), .val (.int n), .val (.int t), .val (.int cand), .val (.int old), .unset] [(.int n), (.int i)])) _
    exact κ)
  by_cases hc2 : i < n
  · obtain ⟨g1, g2⟩ := hs hc2
    have pre2 := fun τ (κ : Steps p.tables e below (s₁.setTop (mkF m 10 #[.val (.ref a1), .val (.ref a2), .val (.int i), .val (.int n), .val (.int t), .val (.int cand), .val (.int old), .unset] [(.int t), (.int i)])) τ) => pre1 τ (by
      refine XS.icmpYes X0.here hx rfl (pc0 := 2) (pc' := 7) rfl (hb hby d7_2) rfl (tlt hc2).1 (by decide) (by decide) ?_
      show Steps p.tables e below (s₁.setTop (mkF m 7 #[.val (.ref a1), .val (.ref a2), .val (.int i), .val (.int n), .val (.int t), .val (.int cand), .val (.int old), .unset] [])) _
      refine XS.iloadN X0.here hx rfl (hb hby d7_7) rfl ?_
      show Steps p.tables e below (s₁.setTop (mkF m 8 #[.val (.ref a1), .val (.ref a2), .val (.int i), .val (.int n), .val (.int t), .val (.int cand), .val (.int old), .unset] [(.int i)])) _
      refine XS.iload X0.here hx rfl (hb hby d7_8) rfl ?_
      show Steps p.tables e below (s₁.setTop (mkF m 10 #[.val (.ref a1), .val (.ref a2), .val (.int i), .val (.int n), .val (.int t), .val (.int cand), .val (.int old), .unset] [(.int t), (.int i)])) _
      exact κ)
    obtain ⟨want, hwant, pre3⟩ : ∃ want : Int32, (want = if i = t then cand else old) ∧ ∀ τ, Steps p.tables e below (s₁.setTop (mkF m 22 #[.val (.ref a1), .val (.ref a2), .val (.int i), .val (.int n), .val (.int t), .val (.int cand), .val (.int old), .val (.int want)] [])) τ → Steps p.tables e below (s₁.setTop (entryFrame m #[(.ref a1), (.ref a2), (.int i), (.int n), (.int t), (.int cand), (.int old)] 8)) τ := by
      by_cases hc10 : i = t
      · have pre4 := fun τ (κ : Steps p.tables e below (s₁.setTop (mkF m 22 #[.val (.ref a1), .val (.ref a2), .val (.int i), .val (.int n), .val (.int t), .val (.int cand), .val (.int old), .val (.int cand)] [])) τ) => pre2 τ (by
          refine XS.icmpNo X0.here hx rfl (hb hby d7_10) rfl (teq hc10).2 ?_
          show Steps p.tables e below (s₁.setTop (mkF m 13 #[.val (.ref a1), .val (.ref a2), .val (.int i), .val (.int n), .val (.int t), .val (.int cand), .val (.int old), .unset] [])) _
          refine XS.iload X0.here hx rfl (hb hby d7_13) rfl ?_
          show Steps p.tables e below (s₁.setTop (mkF m 15 #[.val (.ref a1), .val (.ref a2), .val (.int i), .val (.int n), .val (.int t), .val (.int cand), .val (.int old), .unset] [(.int cand)])) _
          refine XS.goto X0.here hx rfl (pc0 := 15) (pc' := 20) rfl (hb hby d7_15) (by decide) (by decide) ?_
          show Steps p.tables e below (s₁.setTop (mkF m 20 #[.val (.ref a1), .val (.ref a2), .val (.int i), .val (.int n), .val (.int t), .val (.int cand), .val (.int old), .unset] [(.int cand)])) _
          refine XS.istore X0.here hx rfl (hb hby d7_20) rfl (l' := #[.val (.ref a1), .val (.ref a2), .val (.int i), .val (.int n), .val (.int t), .val (.int cand), .val (.int old), .val (.int cand)]) rfl ?_
          show Steps p.tables e below (s₁.setTop (mkF m 22 #[.val (.ref a1), .val (.ref a2), .val (.int i), .val (.int n), .val (.int t), .val (.int cand), .val (.int old), .val (.int cand)] [])) _
          exact κ)
        exact ⟨_, (if_pos hc10).symm, pre4⟩
      · have pre5 := fun τ (κ : Steps p.tables e below (s₁.setTop (mkF m 22 #[.val (.ref a1), .val (.ref a2), .val (.int i), .val (.int n), .val (.int t), .val (.int cand), .val (.int old), .val (.int old)] [])) τ) => pre2 τ (by
          refine XS.icmpYes X0.here hx rfl (pc0 := 10) (pc' := 18) rfl (hb hby d7_10) rfl (feq hc10).2 (by decide) (by decide) ?_
          show Steps p.tables e below (s₁.setTop (mkF m 18 #[.val (.ref a1), .val (.ref a2), .val (.int i), .val (.int n), .val (.int t), .val (.int cand), .val (.int old), .unset] [])) _
          refine XS.iload X0.here hx rfl (hb hby d7_18) rfl ?_
          show Steps p.tables e below (s₁.setTop (mkF m 20 #[.val (.ref a1), .val (.ref a2), .val (.int i), .val (.int n), .val (.int t), .val (.int cand), .val (.int old), .unset] [(.int old)])) _
          refine XS.istore X0.here hx rfl (hb hby d7_20) rfl (l' := #[.val (.ref a1), .val (.ref a2), .val (.int i), .val (.int n), .val (.int t), .val (.int cand), .val (.int old), .val (.int old)]) rfl ?_
          show Steps p.tables e below (s₁.setTop (mkF m 22 #[.val (.ref a1), .val (.ref a2), .val (.int i), .val (.int n), .val (.int t), .val (.int cand), .val (.int old), .val (.int old)] [])) _
          exact κ)
        exact ⟨_, (if_neg hc10).symm, pre5⟩
    rw [← hwant] at g1
    have pre6 := fun τ (κ : Steps p.tables e below (s₁.setTop (mkF m 24 #[.val (.ref a1), .val (.ref a2), .val (.int i), .val (.int n), .val (.int t), .val (.int cand), .val (.int old), .val (.int want)] [(.int i), (.ref a1)])) τ) => pre3 τ (by
      refine XS.aloadN X0.here hx rfl (hb hby d7_22) rfl rfl ?_
      show Steps p.tables e below (s₁.setTop (mkF m 23 #[.val (.ref a1), .val (.ref a2), .val (.int i), .val (.int n), .val (.int t), .val (.int cand), .val (.int old), .val (.int want)] [(.ref a1)])) _
      refine XS.iloadN X0.here hx rfl (hb hby d7_23) rfl ?_
      show Steps p.tables e below (s₁.setTop (mkF m 24 #[.val (.ref a1), .val (.ref a2), .val (.int i), .val (.int n), .val (.int t), .val (.int cand), .val (.int old), .val (.int want)] [(.int i), (.ref a1)])) _
      exact κ)
    obtain ⟨cl7, Ar7, -, S7, M7, H7, -⟩ := id V1
    have in7 : ¬ (i < 0 ∨ cl7.slots.size ≤ (i).toNatClampNeg) := inb_of S7 ⟨hi0, hc2⟩
    have at7 : cl7.slots[(i).toNatClampNeg]? = some (.int want) := H7.at in7 g1
    have pre8 := fun τ (κ : Steps p.tables e below (s₁.setTop (mkF m 32 #[.val (.ref a1), .val (.ref a2), .val (.int i), .val (.int n), .val (.int t), .val (.int cand), .val (.int old), .val (.int want)] [(.int i), (.ref a2)])) τ) => pre6 τ (by
      refine X0.iaload hx (j := i) (v := (.int want)) (by rw [e0]; exact Ar7.1) (State.isArrayOf_alike hZ.alike Ar7.2.1) Ar7.2.2 in7 at7 (g := (mkF m 24 #[.val (.ref a1), .val (.ref a2), .val (.int i), .val (.int n), .val (.int t), .val (.int cand), .val (.int old), .val (.int want)] [(.int i), (.ref a1)])) rfl rfl (hb hby d7_24) _ ?_
      show Steps p.tables e below (s₁.setTop (mkF m 25 #[.val (.ref a1), .val (.ref a2), .val (.int i), .val (.int n), .val (.int t), .val (.int cand), .val (.int old), .val (.int want)] [(.int want)])) _
      refine XS.iload X0.here hx rfl (hb hby d7_25) rfl ?_
      show Steps p.tables e below (s₁.setTop (mkF m 27 #[.val (.ref a1), .val (.ref a2), .val (.int i), .val (.int n), .val (.int t), .val (.int cand), .val (.int old), .val (.int want)] [(.int want), (.int want)])) _
      refine XS.icmpNo X0.here hx rfl (hb hby d7_27) rfl (teq rfl).2 ?_
      show Steps p.tables e below (s₁.setTop (mkF m 30 #[.val (.ref a1), .val (.ref a2), .val (.int i), .val (.int n), .val (.int t), .val (.int cand), .val (.int old), .val (.int want)] [])) _
      refine XS.aloadN X0.here hx rfl (hb hby d7_30) rfl rfl ?_
      show Steps p.tables e below (s₁.setTop (mkF m 31 #[.val (.ref a1), .val (.ref a2), .val (.int i), .val (.int n), .val (.int t), .val (.int cand), .val (.int old), .val (.int want)] [(.ref a2)])) _
      refine XS.iloadN X0.here hx rfl (hb hby d7_31) rfl ?_
      show Steps p.tables e below (s₁.setTop (mkF m 32 #[.val (.ref a1), .val (.ref a2), .val (.int i), .val (.int n), .val (.int t), .val (.int cand), .val (.int old), .val (.int want)] [(.int i), (.ref a2)])) _
      exact κ)
    obtain ⟨cl9, Ar9, -, S9, M9, H9, -⟩ := id V2
    have in9 : ¬ (i < 0 ∨ cl9.slots.size ≤ (i).toNatClampNeg) := inb_of S9 ⟨hi0, hc2⟩
    have at9 : cl9.slots[(i).toNatClampNeg]? = some (.int old) := H9.at in9 g2
    have pre10 := fun τ (κ : Steps p.tables e below (s₁.setTop (mkF m 43 #[.val (.ref a1), .val (.ref a2), .val (.int i), .val (.int n), .val (.int t), .val (.int cand), .val (.int old), .val (.int want)] [(.int (1 : Int32))])) τ) => pre8 τ (by
      refine X0.iaload hx (j := i) (v := (.int old)) (by rw [e0]; exact Ar9.1) (State.isArrayOf_alike hZ.alike Ar9.2.1) Ar9.2.2 in9 at9 (g := (mkF m 32 #[.val (.ref a1), .val (.ref a2), .val (.int i), .val (.int n), .val (.int t), .val (.int cand), .val (.int old), .val (.int want)] [(.int i), (.ref a2)])) rfl rfl (hb hby d7_32) _ ?_
      show Steps p.tables e below (s₁.setTop (mkF m 33 #[.val (.ref a1), .val (.ref a2), .val (.int i), .val (.int n), .val (.int t), .val (.int cand), .val (.int old), .val (.int want)] [(.int old)])) _
      refine XS.iload X0.here hx rfl (hb hby d7_33) rfl ?_
      show Steps p.tables e below (s₁.setTop (mkF m 35 #[.val (.ref a1), .val (.ref a2), .val (.int i), .val (.int n), .val (.int t), .val (.int cand), .val (.int old), .val (.int want)] [(.int old), (.int old)])) _
      refine XS.icmpNo X0.here hx rfl (hb hby d7_35) rfl (teq rfl).2 ?_
      show Steps p.tables e below (s₁.setTop (mkF m 38 #[.val (.ref a1), .val (.ref a2), .val (.int i), .val (.int n), .val (.int t), .val (.int cand), .val (.int old), .val (.int want)] [])) _
      refine XS.iconst X0.here hx rfl (hb hby d7_38) ?_
      show Steps p.tables e below (s₁.setTop (mkF m 39 #[.val (.ref a1), .val (.ref a2), .val (.int i), .val (.int n), .val (.int t), .val (.int cand), .val (.int old), .val (.int want)] [(.int (1 : Int32))])) _
      refine XS.goto X0.here hx rfl (pc0 := 39) (pc' := 43) rfl (hb hby d7_39) (by decide) (by decide) ?_
      show Steps p.tables e below (s₁.setTop (mkF m 43 #[.val (.ref a1), .val (.ref a2), .val (.int i), .val (.int n), .val (.int t), .val (.int cand), .val (.int old), .val (.int want)] [(.int (1 : Int32))])) _
      exact κ)
    obtain ⟨fs, hr, hrun, hended, hW, hsame⟩ := X0.leave (v := some (.int (1 : Int32))) (fun h => by rw [Bd.returns] at h; cases h)
    refine ⟨_, _, pre10 _ ?_, hrun, hended, _, _, rfl, ?_, ⟨_, rfl⟩, hW, hsame.mono (by decide) (by decide)⟩
    · exact retN X0 hx (t := .boolean) Bd.returns (by simp) (hb hby d7_43) hr
    · show Q7 Z a1 a2 i n t cand old k1 k2 vs1 vs2 h0 n0 _ s₁.heap _
      rw [e0]
      exact ⟨rfl, N0, rfl⟩
  · have pre11 := fun τ (κ : Steps p.tables e below (s₁.setTop (mkF m 6 #[.val (.ref a1), .val (.ref a2), .val (.int i), .val (.int n), .val (.int t), .val (.int cand), .val (.int old), .unset] [(.int (1 : Int32))])) τ) => pre1 τ (by
      refine XS.icmpNo X0.here hx rfl (hb hby d7_2) rfl (flt hc2).1 ?_
      show Steps p.tables e below (s₁.setTop (mkF m 5 #[.val (.ref a1), .val (.ref a2), .val (.int i), .val (.int n), .val (.int t), .val (.int cand), .val (.int old), .unset] [])) _
      refine XS.iconst X0.here hx rfl (hb hby d7_5) ?_
      show Steps p.tables e below (s₁.setTop (mkF m 6 #[.val (.ref a1), .val (.ref a2), .val (.int i), .val (.int n), .val (.int t), .val (.int cand), .val (.int old), .unset] [(.int (1 : Int32))])) _
      exact κ)
    obtain ⟨fs, hr, hrun, hended, hW, hsame⟩ := X0.leave (v := some (.int (1 : Int32))) (fun h => by rw [Bd.returns] at h; cases h)
    refine ⟨_, _, pre11 _ ?_, hrun, hended, _, _, rfl, ?_, ⟨_, rfl⟩, hW, hsame.mono (by decide) (by decide)⟩
    · exact retN X0 hx (t := .boolean) Bd.returns (by simp) (hb hby d7_6) hr
    · show Q7 Z a1 a2 i n t cand old k1 k2 vs1 vs2 h0 n0 _ s₁.heap _
      rw [e0]
      exact ⟨rfl, N0, rfl⟩
theorem ef_0 (m : MethodId) (p0 : Int32) (p1 : Int32) (p2 : Int32) (p3 : Int32) (p4 : Int32) (p5 : Int32) : entryFrame m #[(.int p0), (.int p1), (.int p2), (.int p3), (.int p4), (.int p5)] maxLocals = mkF m 0 #[.val (.int p0), .val (.int p1), .val (.int p2), .val (.int p3), .val (.int p4), .val (.int p5), .unset, .unset, .unset, .unset, .unset, .unset, .unset] [] := by first | (simp [entryFrame, mkF, argsToLocals, Value.category, maxLocals]; done) | rfl
def Q0 (Z : State) (p0 : Int32) (p1 : Int32) (p2 : Int32) (p3 : Int32) (p4 : Int32) (p5 : Int32) (h0 : Heap) (n0 : Nat) (v : Option Value) (h : Heap) (L : List Loc) : Prop := v = some (.int 1) ∧ Fr n0 L
set_option maxRecDepth 65536 in
set_option maxHeartbeats 40000000 in
theorem rm0 (l : Launch) (Z : State) (a0 : Array Value) (hw : ∀ d ∈ tables_1, d.before a0 Z = true) (ws : List Jvm.Cond) (p0 : Int32) (p1 : Int32) (p2 : Int32) (p3 : Int32) (p4 : Int32) (p5 : Int32) (h0 : Heap) (n0 : Nat) (Z0 : n0 ≤ h0.size) :
    MetFree l x (head1 (Jvm.Cond.code x code maxLocals ret :: ws) room_1) (fun α υ => α = #[(.int p0), (.int p1), (.int p2), (.int p3), (.int p4), (.int p5)] ∧ Z.Warmed39 υ.vm ∧ υ.heap = h0) (fun _ _ _ _ _ => True) (fun _ υ ω υ' => ∃ v L, ω = .returned v ∧ Q0 Z p0 p1 p2 p3 p4 p5 h0 n0 v υ'.heap L ∧ FrameEnd υ ω υ' L room_1.cells room_1.slots) := by
  refine MetFree.of_bodySF (plainFor_of_name pn_com_example_qualoom_qualoom_solver_IndividualWithPinLaw) hisR ?_
  intro p e s m args below meth c s₁ Bd hml0 hP hK
  obtain ⟨rfl, hZ, hh⟩ := hP
  have hx := Bd.exec
  have hby := Bd.bytes
  have hml : c.maxLocals = 13 := hml0
  have hown : s.vm.findClass "com/example/qualoom/qualoom/solver/IndividualWithPinLaw" = some m.cls := findClass_of_methodNamed Bd.named
  have hnm := (name_of_methodNamed Bd.named Bd.method).1
  have X0 : Stand p l e room_1 s m #[(.int p0), (.int p1), (.int p2), (.int p3), (.int p4), (.int p5)] below meth c s₁ [] 0 0 := Stand.of_body Bd
  have e0 : s₁.heap = h0 := by rw [← hh, Bd.state]; rfl
  have N0 := Fr.nil n0
  have pre0 : ∀ τ, Steps p.tables e below (s₁.setTop (mkF m 0 #[.val (.int p0), .val (.int p1), .val (.int p2), .val (.int p3), .val (.int p4), .val (.int p5), .unset, .unset, .unset, .unset, .unset, .unset, .unset] [])) τ → Steps p.tables e below (s₁.setTop (entryFrame m #[(.int p0), (.int p1), (.int p2), (.int p3), (.int p4), (.int p5)] maxLocals)) τ := fun τ κ => castTop (ef_0 m p0 p1 p2 p3 p4 p5) κ
  have pre1 := fun τ (κ : Steps p.tables e below (s₁.setTop (mkF m 5 #[.val (.int p0), .val (.int p1), .val (.int p2), .val (.int p3), .val (.int p4), .val (.int p5), .unset, .unset, .unset, .unset, .unset, .unset, .unset] [(.int ((1 : Int32) + (p0 &&& (3 : Int32))))])) τ) => pre0 τ (by
    refine XS.iconst X0.here hx rfl (hb hby at_0) ?_
    show Steps p.tables e below (s₁.setTop (mkF m 1 #[.val (.int p0), .val (.int p1), .val (.int p2), .val (.int p3), .val (.int p4), .val (.int p5), .unset, .unset, .unset, .unset, .unset, .unset, .unset] [(.int (1 : Int32))])) _
    refine XS.iloadN X0.here hx rfl (hb hby at_1) rfl ?_
    show Steps p.tables e below (s₁.setTop (mkF m 2 #[.val (.int p0), .val (.int p1), .val (.int p2), .val (.int p3), .val (.int p4), .val (.int p5), .unset, .unset, .unset, .unset, .unset, .unset, .unset] [(.int p0), (.int (1 : Int32))])) _
    refine XS.iconst X0.here hx rfl (hb hby at_2) ?_
    show Steps p.tables e below (s₁.setTop (mkF m 3 #[.val (.int p0), .val (.int p1), .val (.int p2), .val (.int p3), .val (.int p4), .val (.int p5), .unset, .unset, .unset, .unset, .unset, .unset, .unset] [(.int (3 : Int32)), (.int p0), (.int (1 : Int32))])) _
    refine XS.iand X0.here hx rfl (hb hby at_3) rfl ?_
    show Steps p.tables e below (s₁.setTop (mkF m 4 #[.val (.int p0), .val (.int p1), .val (.int p2), .val (.int p3), .val (.int p4), .val (.int p5), .unset, .unset, .unset, .unset, .unset, .unset, .unset] [(.int (p0 &&& (3 : Int32))), (.int (1 : Int32))])) _
    refine XS.iadd X0.here hx rfl (hb hby at_4) rfl ?_
    show Steps p.tables e below (s₁.setTop (mkF m 5 #[.val (.int p0), .val (.int p1), .val (.int p2), .val (.int p3), .val (.int p4), .val (.int p5), .unset, .unset, .unset, .unset, .unset, .unset, .unset] [(.int ((1 : Int32) + (p0 &&& (3 : Int32))))])) _
    exact κ)
  obtain ⟨n, h_n⟩ : ∃ z : Int32, z = ((1 : Int32) + (p0 &&& (3 : Int32))) := ⟨_, rfl⟩
  rw [← h_n] at pre1
  obtain ⟨hn1, hn2⟩ : 1 ≤ n.toInt ∧ n.toInt ≤ 4 := by rw [h_n]; exact own_len _
  have hnz_n : n ≠ 0 := fun h => by rw [h] at hn1; revert hn1; decide
  have hnc := own_clamp (n := n) (by omega)
  have hn4 : n.toNatClampNeg ≤ 4 := by omega
  have hnn : ¬ n < 0 := by rw [own_lt, show (0 : Int32).toInt = 0 from by decide]; omega
  have pre2 := fun τ (κ : Steps p.tables e below (s₁.setTop (mkF m 14 #[.val (.int p0), .val (.int p1), .val (.int p2), .val (.int p3), .val (.int p4), .val (.int p5), .val (.int n), .unset, .unset, .unset, .unset, .unset, .unset] [(.int ((p1 &&& (2147483647 : Int32)) % n))])) τ) => pre1 τ (by
    refine XS.istore X0.here hx rfl (hb hby at_5) rfl (l' := #[.val (.int p0), .val (.int p1), .val (.int p2), .val (.int p3), .val (.int p4), .val (.int p5), .val (.int n), .unset, .unset, .unset, .unset, .unset, .unset]) rfl ?_
    show Steps p.tables e below (s₁.setTop (mkF m 7 #[.val (.int p0), .val (.int p1), .val (.int p2), .val (.int p3), .val (.int p4), .val (.int p5), .val (.int n), .unset, .unset, .unset, .unset, .unset, .unset] [])) _
    refine XS.iloadN X0.here hx rfl (hb hby at_7) rfl ?_
    show Steps p.tables e below (s₁.setTop (mkF m 8 #[.val (.int p0), .val (.int p1), .val (.int p2), .val (.int p3), .val (.int p4), .val (.int p5), .val (.int n), .unset, .unset, .unset, .unset, .unset, .unset] [(.int p1)])) _
    refine X0.ldcInt hx hown (mvT hZ (hw _ (List.mem_of_getElem? (i := 0) rfl))) (g := (mkF m 8 #[.val (.int p0), .val (.int p1), .val (.int p2), .val (.int p3), .val (.int p4), .val (.int p5), .val (.int n), .unset, .unset, .unset, .unset, .unset, .unset] [(.int p1)])) rfl (hb hby at_8) _ ?_
    show Steps p.tables e below (s₁.setTop (mkF m 10 #[.val (.int p0), .val (.int p1), .val (.int p2), .val (.int p3), .val (.int p4), .val (.int p5), .val (.int n), .unset, .unset, .unset, .unset, .unset, .unset] [(.int (2147483647 : Int32)), (.int p1)])) _
    refine XS.iand X0.here hx rfl (hb hby at_10) rfl ?_
    show Steps p.tables e below (s₁.setTop (mkF m 11 #[.val (.int p0), .val (.int p1), .val (.int p2), .val (.int p3), .val (.int p4), .val (.int p5), .val (.int n), .unset, .unset, .unset, .unset, .unset, .unset] [(.int (p1 &&& (2147483647 : Int32)))])) _
    refine XS.iload X0.here hx rfl (hb hby at_11) rfl ?_
    show Steps p.tables e below (s₁.setTop (mkF m 13 #[.val (.int p0), .val (.int p1), .val (.int p2), .val (.int p3), .val (.int p4), .val (.int p5), .val (.int n), .unset, .unset, .unset, .unset, .unset, .unset] [(.int n), (.int (p1 &&& (2147483647 : Int32)))])) _
    refine iremM X0 hx rfl (hb hby at_13) rfl hnz_n ?_
    show Steps p.tables e below (s₁.setTop (mkF m 14 #[.val (.int p0), .val (.int p1), .val (.int p2), .val (.int p3), .val (.int p4), .val (.int p5), .val (.int n), .unset, .unset, .unset, .unset, .unset, .unset] [(.int ((p1 &&& (2147483647 : Int32)) % n))])) _
    exact κ)
  obtain ⟨t, h_t⟩ : ∃ z : Int32, z = ((p1 &&& (2147483647 : Int32)) % n) := ⟨_, rfl⟩
  rw [← h_t] at pre2
  obtain ⟨ht0, ht1⟩ : 0 ≤ t.toInt ∧ t.toInt < n.toInt := by rw [h_t]; exact own_idx _ hn1
  have ht2 : ¬ t < 0 := by rw [own_lt, show (0 : Int32).toInt = 0 from by decide]; omega
  have ht3 : t < n := by rw [own_lt]; exact ht1
  have htc := own_clamp ht0
  have pre3 := fun τ (κ : Steps p.tables e below (s₁.setTop (mkF m 20 #[.val (.int p0), .val (.int p1), .val (.int p2), .val (.int p3), .val (.int p4), .val (.int p5), .val (.int n), .val (.int t), .unset, .unset, .unset, .unset, .unset] [(.int (p3 ^^^ p5))])) τ) => pre2 τ (by
    refine XS.istore X0.here hx rfl (hb hby at_14) rfl (l' := #[.val (.int p0), .val (.int p1), .val (.int p2), .val (.int p3), .val (.int p4), .val (.int p5), .val (.int n), .val (.int t), .unset, .unset, .unset, .unset, .unset]) rfl ?_
    show Steps p.tables e below (s₁.setTop (mkF m 16 #[.val (.int p0), .val (.int p1), .val (.int p2), .val (.int p3), .val (.int p4), .val (.int p5), .val (.int n), .val (.int t), .unset, .unset, .unset, .unset, .unset] [])) _
    refine XS.iloadN X0.here hx rfl (hb hby at_16) rfl ?_
    show Steps p.tables e below (s₁.setTop (mkF m 17 #[.val (.int p0), .val (.int p1), .val (.int p2), .val (.int p3), .val (.int p4), .val (.int p5), .val (.int n), .val (.int t), .unset, .unset, .unset, .unset, .unset] [(.int p3)])) _
    refine XS.iload X0.here hx rfl (hb hby at_17) rfl ?_
    show Steps p.tables e below (s₁.setTop (mkF m 19 #[.val (.int p0), .val (.int p1), .val (.int p2), .val (.int p3), .val (.int p4), .val (.int p5), .val (.int n), .val (.int t), .unset, .unset, .unset, .unset, .unset] [(.int p5), (.int p3)])) _
    refine XS.ixor X0.here hx rfl (hb hby at_19) rfl ?_
    show Steps p.tables e below (s₁.setTop (mkF m 20 #[.val (.int p0), .val (.int p1), .val (.int p2), .val (.int p3), .val (.int p4), .val (.int p5), .val (.int n), .val (.int t), .unset, .unset, .unset, .unset, .unset] [(.int (p3 ^^^ p5))])) _
    exact κ)
  obtain ⟨g3, h_g3⟩ : ∃ z : Int32, z = (p3 ^^^ p5) := ⟨_, rfl⟩
  rw [← h_g3] at pre3
  have pre4 := fun τ (κ : Steps p.tables e below (s₁.setTop (mkF m 24 #[.val (.int p0), .val (.int p1), .val (.int p2), .val (.int p3), .val (.int p4), .val (.int p5), .val (.int n), .val (.int t), .val (.int g3), .unset, .unset, .unset, .unset] [(.int n)])) τ) => pre3 τ (by
    refine XS.istore X0.here hx rfl (hb hby at_20) rfl (l' := #[.val (.int p0), .val (.int p1), .val (.int p2), .val (.int p3), .val (.int p4), .val (.int p5), .val (.int n), .val (.int t), .val (.int g3), .unset, .unset, .unset, .unset]) rfl ?_
    show Steps p.tables e below (s₁.setTop (mkF m 22 #[.val (.int p0), .val (.int p1), .val (.int p2), .val (.int p3), .val (.int p4), .val (.int p5), .val (.int n), .val (.int t), .val (.int g3), .unset, .unset, .unset, .unset] [])) _
    refine XS.iload X0.here hx rfl (hb hby at_22) rfl ?_
    show Steps p.tables e below (s₁.setTop (mkF m 24 #[.val (.int p0), .val (.int p1), .val (.int p2), .val (.int p3), .val (.int p4), .val (.int p5), .val (.int n), .val (.int t), .val (.int g3), .unset, .unset, .unset, .unset] [(.int n)])) _
    exact κ)
  obtain ⟨T5, h5, k5, X5, e5, E5, A5, B5, st5⟩ := newPE X0 hx hZ (hw _ (List.mem_of_getElem? (i := 1) rfl)) e0 (g := (mkF m 24 #[.val (.int p0), .val (.int p1), .val (.int p2), .val (.int p3), .val (.int p4), .val (.int p5), .val (.int n), .val (.int t), .val (.int g3), .unset, .unset, .unset, .unset] [(.int n)])) rfl (hb hby at_24) rfl hnn (cap := 4) hn4 (by decide) (by decide) (by decide) (ad := "[I") (by decide)
  obtain ⟨ar, g5⟩ : ∃ z, z = h0.size := ⟨_, rfl⟩
  rw [← g5] at A5 st5 B5
  have g_ar : n0 ≤ ar := Nat.le_trans Z0 (Nat.le_of_eq g5.symm)
  have Z5 : n0 ≤ h5.size := Nat.le_trans Z0 E5.1
  have V_ar_5 : Arv Z h5 ar k5 .int n [(.int (0 : Int32)), (.int (0 : Int32)), (.int (0 : Int32)), (.int (0 : Int32))] (.int (0 : Int32)) := (Arv.new A5 hnn).pad (pad_rep [] (.int (0 : Int32)) 4)
  have pre6 := fun τ (κ : Steps p.tables e below (T5.setTop (mkF m 26 #[.val (.int p0), .val (.int p1), .val (.int p2), .val (.int p3), .val (.int p4), .val (.int p5), .val (.int n), .val (.int t), .val (.int g3), .unset, .unset, .unset, .unset] [(.ref ar)])) τ) => pre4 τ (st5 _ κ)
  have pre7 := fun τ (κ : Steps p.tables e below (T5.setTop (mkF m 32 #[.val (.int p0), .val (.int p1), .val (.int p2), .val (.int p3), .val (.int p4), .val (.int p5), .val (.int n), .val (.int t), .val (.int g3), .val (.ref ar), .unset, .unset, .unset] [(.int p3), (.int (0 : Int32)), (.ref ar)])) τ) => pre6 τ (by
    refine XS.astore X5.here hx rfl (hb hby at_26) rfl rfl (l' := #[.val (.int p0), .val (.int p1), .val (.int p2), .val (.int p3), .val (.int p4), .val (.int p5), .val (.int n), .val (.int t), .val (.int g3), .val (.ref ar), .unset, .unset, .unset]) rfl ?_
    show Steps p.tables e below (T5.setTop (mkF m 28 #[.val (.int p0), .val (.int p1), .val (.int p2), .val (.int p3), .val (.int p4), .val (.int p5), .val (.int n), .val (.int t), .val (.int g3), .val (.ref ar), .unset, .unset, .unset] [])) _
    refine XS.aload X5.here hx rfl (hb hby at_28) rfl rfl ?_
    show Steps p.tables e below (T5.setTop (mkF m 30 #[.val (.int p0), .val (.int p1), .val (.int p2), .val (.int p3), .val (.int p4), .val (.int p5), .val (.int n), .val (.int t), .val (.int g3), .val (.ref ar), .unset, .unset, .unset] [(.ref ar)])) _
    refine XS.iconst X5.here hx rfl (hb hby at_30) ?_
    show Steps p.tables e below (T5.setTop (mkF m 31 #[.val (.int p0), .val (.int p1), .val (.int p2), .val (.int p3), .val (.int p4), .val (.int p5), .val (.int n), .val (.int t), .val (.int g3), .val (.ref ar), .unset, .unset, .unset] [(.int (0 : Int32)), (.ref ar)])) _
    refine XS.iloadN X5.here hx rfl (hb hby at_31) rfl ?_
    show Steps p.tables e below (T5.setTop (mkF m 32 #[.val (.int p0), .val (.int p1), .val (.int p2), .val (.int p3), .val (.int p4), .val (.int p5), .val (.int n), .val (.int t), .val (.int g3), .val (.ref ar), .unset, .unset, .unset] [(.int p3), (.int (0 : Int32)), (.ref ar)])) _
    exact κ)
  obtain ⟨cl8, Ar8, q8, S8, M8, H8, G8⟩ := id V_ar_5
  have in8 : ¬ ((0 : Int32) < 0 ∨ cl8.slots.size ≤ ((0 : Int32)).toNatClampNeg) := inb_of S8 ⟨by decide, by rw [own_lt, show (0 : Int32).toInt = 0 from by decide]; omega⟩
  obtain ⟨T9, h9, X9, e9, W9, st9⟩ := stI X5 hx hZ e5 Ar8 (j := (0 : Int32)) in8 (g := (mkF m 32 #[.val (.int p0), .val (.int p1), .val (.int p2), .val (.int p3), .val (.int p4), .val (.int p5), .val (.int n), .val (.int t), .val (.int g3), .val (.ref ar), .unset, .unset, .unset] [(.int p3), (.int (0 : Int32)), (.ref ar)])) rfl rfl (hb hby at_32)
  have B5_9 : Exa Z h9 ar "[I" := B5.wr W9
  have N9 := Fr.snoc X9 N0 g_ar
  have Z9 : n0 ≤ h9.size := Nat.le_trans Z5 (Keep.of_wr W9).1
  have V_ar_9 : Arv Z h9 ar k5 .int n [(.int p3), (.int (0 : Int32)), (.int (0 : Int32)), (.int (0 : Int32))] (.int (0 : Int32)) := Arv.set Ar8 q8 S8 M8 H8 G8 rfl W9 0 rfl (Nat.le_of_ble_eq_true rfl)
  have pre10 := fun τ (κ : Steps p.tables e below (T9.setTop (mkF m 33 #[.val (.int p0), .val (.int p1), .val (.int p2), .val (.int p3), .val (.int p4), .val (.int p5), .val (.int n), .val (.int t), .val (.int g3), .val (.ref ar), .unset, .unset, .unset] [])) τ) => pre7 τ (st9 _ κ)
  have pre11 := fun τ (κ : Steps p.tables e below (T9.setTop (mkF m 36 #[.val (.int p0), .val (.int p1), .val (.int p2), .val (.int p3), .val (.int p4), .val (.int p5), .val (.int n), .val (.int t), .val (.int g3), .val (.ref ar), .unset, .unset, .unset] [(.int (1 : Int32)), (.int n)])) τ) => pre10 τ (by
    refine XS.iload X9.here hx rfl (hb hby at_33) rfl ?_
    show Steps p.tables e below (T9.setTop (mkF m 35 #[.val (.int p0), .val (.int p1), .val (.int p2), .val (.int p3), .val (.int p4), .val (.int p5), .val (.int n), .val (.int t), .val (.int g3), .val (.ref ar), .unset, .unset, .unset] [(.int n)])) _
    refine XS.iconst X9.here hx rfl (hb hby at_35) ?_
    show Steps p.tables e below (T9.setTop (mkF m 36 #[.val (.int p0), .val (.int p1), .val (.int p2), .val (.int p3), .val (.int p4), .val (.int p5), .val (.int n), .val (.int t), .val (.int g3), .val (.ref ar), .unset, .unset, .unset] [(.int (1 : Int32)), (.int n)])) _
    exact κ)
  obtain ⟨T12, h12, lo12, X12, e12, N12, Z12, V_ar_12, B5_12, pre12⟩ : ∃ (T12 : State) (h12 : Heap) (lo12 : List Loc), Stand p l e room_1 s m #[(.int p0), (.int p1), (.int p2), (.int p3), (.int p4), (.int p5)] below meth c T12 lo12 (1) (4) ∧ T12.heap = h12 ∧ Fr n0 lo12 ∧ n0 ≤ h12.size ∧ (Arv Z h12 ar k5 .int n [(.int p3), (.int p4), (.int (0 : Int32)), (.int (0 : Int32))] (.int (0 : Int32))) ∧ (Exa Z h12 ar "[I") ∧ ∀ τ, Steps p.tables e below (T12.setTop (mkF m 45 #[.val (.int p0), .val (.int p1), .val (.int p2), .val (.int p3), .val (.int p4), .val (.int p5), .val (.int n), .val (.int t), .val (.int g3), .val (.ref ar), .unset, .unset, .unset] [])) τ → Steps p.tables e below (s₁.setTop (entryFrame m #[(.int p0), (.int p1), (.int p2), (.int p3), (.int p4), (.int p5)] maxLocals)) τ := by
    by_cases hj : (1 : Int32) < n
    · have pre13 := fun τ (κ : Steps p.tables e below (T9.setTop (mkF m 44 #[.val (.int p0), .val (.int p1), .val (.int p2), .val (.int p3), .val (.int p4), .val (.int p5), .val (.int n), .val (.int t), .val (.int g3), .val (.ref ar), .unset, .unset, .unset] [(.int p4), (.int (1 : Int32)), (.ref ar)])) τ) => pre11 τ (by
        refine XS.icmpNo X9.here hx rfl (hb hby at_36) rfl (tlt hj).2.2.2 ?_
        show Steps p.tables e below (T9.setTop (mkF m 39 #[.val (.int p0), .val (.int p1), .val (.int p2), .val (.int p3), .val (.int p4), .val (.int p5), .val (.int n), .val (.int t), .val (.int g3), .val (.ref ar), .unset, .unset, .unset] [])) _
        refine XS.aload X9.here hx rfl (hb hby at_39) rfl rfl ?_
        show Steps p.tables e below (T9.setTop (mkF m 41 #[.val (.int p0), .val (.int p1), .val (.int p2), .val (.int p3), .val (.int p4), .val (.int p5), .val (.int n), .val (.int t), .val (.int g3), .val (.ref ar), .unset, .unset, .unset] [(.ref ar)])) _
        refine XS.iconst X9.here hx rfl (hb hby at_41) ?_
        show Steps p.tables e below (T9.setTop (mkF m 42 #[.val (.int p0), .val (.int p1), .val (.int p2), .val (.int p3), .val (.int p4), .val (.int p5), .val (.int n), .val (.int t), .val (.int g3), .val (.ref ar), .unset, .unset, .unset] [(.int (1 : Int32)), (.ref ar)])) _
        refine XS.iload X9.here hx rfl (hb hby at_42) rfl ?_
        show Steps p.tables e below (T9.setTop (mkF m 44 #[.val (.int p0), .val (.int p1), .val (.int p2), .val (.int p3), .val (.int p4), .val (.int p5), .val (.int n), .val (.int t), .val (.int g3), .val (.ref ar), .unset, .unset, .unset] [(.int p4), (.int (1 : Int32)), (.ref ar)])) _
        exact κ)
      obtain ⟨cl14, Ar14, q14, S14, M14, H14, G14⟩ := id V_ar_9
      have in14 : ¬ ((1 : Int32) < 0 ∨ cl14.slots.size ≤ ((1 : Int32)).toNatClampNeg) := inb_of S14 ⟨by decide, hj⟩
      obtain ⟨T15, h15, X15, e15, W15, st15⟩ := stI X9 hx hZ e9 Ar14 (j := (1 : Int32)) in14 (g := (mkF m 44 #[.val (.int p0), .val (.int p1), .val (.int p2), .val (.int p3), .val (.int p4), .val (.int p5), .val (.int n), .val (.int t), .val (.int g3), .val (.ref ar), .unset, .unset, .unset] [(.int p4), (.int (1 : Int32)), (.ref ar)])) rfl rfl (hb hby at_44)
      have B5_15 : Exa Z h15 ar "[I" := B5_9.wr W15
      have N15 := Fr.snoc X15 N9 g_ar
      have Z15 : n0 ≤ h15.size := Nat.le_trans Z9 (Keep.of_wr W15).1
      have V_ar_15 : Arv Z h15 ar k5 .int n [(.int p3), (.int p4), (.int (0 : Int32)), (.int (0 : Int32))] (.int (0 : Int32)) := Arv.set Ar14 q14 S14 M14 H14 G14 rfl W15 1 rfl (Nat.le_of_ble_eq_true rfl)
      have pre16 := fun τ (κ : Steps p.tables e below (T15.setTop (mkF m 45 #[.val (.int p0), .val (.int p1), .val (.int p2), .val (.int p3), .val (.int p4), .val (.int p5), .val (.int n), .val (.int t), .val (.int g3), .val (.ref ar), .unset, .unset, .unset] [])) τ) => pre13 τ (st15 _ κ)
      exact ⟨T15, h15, _, X15, e15, N15, Z15, V_ar_15, B5_15, pre16⟩
    · have pre17 := fun τ (κ : Steps p.tables e below (T9.setTop (mkF m 45 #[.val (.int p0), .val (.int p1), .val (.int p2), .val (.int p3), .val (.int p4), .val (.int p5), .val (.int n), .val (.int t), .val (.int g3), .val (.ref ar), .unset, .unset, .unset] [])) τ) => pre11 τ (by
        refine XS.icmpYes X9.here hx rfl (pc0 := 36) (pc' := 45) rfl (hb hby at_36) rfl (flt hj).2.2.2 (by decide) (by decide) ?_
        show Steps p.tables e below (T9.setTop (mkF m 45 #[.val (.int p0), .val (.int p1), .val (.int p2), .val (.int p3), .val (.int p4), .val (.int p5), .val (.int n), .val (.int t), .val (.int g3), .val (.ref ar), .unset, .unset, .unset] [])) _
        exact κ)
      exact ⟨T9, h9, _, X9, e9, N9, Z9, own_arv V_ar_9 (fun i hi => by have := own_far (k := 1) (by omega) (by decide) hj i hi; rcases i with _ | _ | _ | _ | i <;> first | rfl | omega), B5_9, pre17⟩
  have pre18 := fun τ (κ : Steps p.tables e below (T12.setTop (mkF m 48 #[.val (.int p0), .val (.int p1), .val (.int p2), .val (.int p3), .val (.int p4), .val (.int p5), .val (.int n), .val (.int t), .val (.int g3), .val (.ref ar), .unset, .unset, .unset] [(.int (2 : Int32)), (.int n)])) τ) => pre12 τ (by
    refine XS.iload X12.here hx rfl (hb hby at_45) rfl ?_
    show Steps p.tables e below (T12.setTop (mkF m 47 #[.val (.int p0), .val (.int p1), .val (.int p2), .val (.int p3), .val (.int p4), .val (.int p5), .val (.int n), .val (.int t), .val (.int g3), .val (.ref ar), .unset, .unset, .unset] [(.int n)])) _
    refine XS.iconst X12.here hx rfl (hb hby at_47) ?_
    show Steps p.tables e below (T12.setTop (mkF m 48 #[.val (.int p0), .val (.int p1), .val (.int p2), .val (.int p3), .val (.int p4), .val (.int p5), .val (.int n), .val (.int t), .val (.int g3), .val (.ref ar), .unset, .unset, .unset] [(.int (2 : Int32)), (.int n)])) _
    exact κ)
  obtain ⟨T19, h19, lo19, X19, e19, N19, Z19, V_ar_19, B5_19, pre19⟩ : ∃ (T19 : State) (h19 : Heap) (lo19 : List Loc), Stand p l e room_1 s m #[(.int p0), (.int p1), (.int p2), (.int p3), (.int p4), (.int p5)] below meth c T19 lo19 (1) (4) ∧ T19.heap = h19 ∧ Fr n0 lo19 ∧ n0 ≤ h19.size ∧ (Arv Z h19 ar k5 .int n [(.int p3), (.int p4), (.int p5), (.int (0 : Int32))] (.int (0 : Int32))) ∧ (Exa Z h19 ar "[I") ∧ ∀ τ, Steps p.tables e below (T19.setTop (mkF m 57 #[.val (.int p0), .val (.int p1), .val (.int p2), .val (.int p3), .val (.int p4), .val (.int p5), .val (.int n), .val (.int t), .val (.int g3), .val (.ref ar), .unset, .unset, .unset] [])) τ → Steps p.tables e below (s₁.setTop (entryFrame m #[(.int p0), (.int p1), (.int p2), (.int p3), (.int p4), (.int p5)] maxLocals)) τ := by
    by_cases hj : (2 : Int32) < n
    · have pre20 := fun τ (κ : Steps p.tables e below (T12.setTop (mkF m 56 #[.val (.int p0), .val (.int p1), .val (.int p2), .val (.int p3), .val (.int p4), .val (.int p5), .val (.int n), .val (.int t), .val (.int g3), .val (.ref ar), .unset, .unset, .unset] [(.int p5), (.int (2 : Int32)), (.ref ar)])) τ) => pre18 τ (by
        refine XS.icmpNo X12.here hx rfl (hb hby at_48) rfl (tlt hj).2.2.2 ?_
        show Steps p.tables e below (T12.setTop (mkF m 51 #[.val (.int p0), .val (.int p1), .val (.int p2), .val (.int p3), .val (.int p4), .val (.int p5), .val (.int n), .val (.int t), .val (.int g3), .val (.ref ar), .unset, .unset, .unset] [])) _
        refine XS.aload X12.here hx rfl (hb hby at_51) rfl rfl ?_
        show Steps p.tables e below (T12.setTop (mkF m 53 #[.val (.int p0), .val (.int p1), .val (.int p2), .val (.int p3), .val (.int p4), .val (.int p5), .val (.int n), .val (.int t), .val (.int g3), .val (.ref ar), .unset, .unset, .unset] [(.ref ar)])) _
        refine XS.iconst X12.here hx rfl (hb hby at_53) ?_
        show Steps p.tables e below (T12.setTop (mkF m 54 #[.val (.int p0), .val (.int p1), .val (.int p2), .val (.int p3), .val (.int p4), .val (.int p5), .val (.int n), .val (.int t), .val (.int g3), .val (.ref ar), .unset, .unset, .unset] [(.int (2 : Int32)), (.ref ar)])) _
        refine XS.iload X12.here hx rfl (hb hby at_54) rfl ?_
        show Steps p.tables e below (T12.setTop (mkF m 56 #[.val (.int p0), .val (.int p1), .val (.int p2), .val (.int p3), .val (.int p4), .val (.int p5), .val (.int n), .val (.int t), .val (.int g3), .val (.ref ar), .unset, .unset, .unset] [(.int p5), (.int (2 : Int32)), (.ref ar)])) _
        exact κ)
      obtain ⟨cl21, Ar21, q21, S21, M21, H21, G21⟩ := id V_ar_12
      have in21 : ¬ ((2 : Int32) < 0 ∨ cl21.slots.size ≤ ((2 : Int32)).toNatClampNeg) := inb_of S21 ⟨by decide, hj⟩
      obtain ⟨T22, h22, X22, e22, W22, st22⟩ := stI X12 hx hZ e12 Ar21 (j := (2 : Int32)) in21 (g := (mkF m 56 #[.val (.int p0), .val (.int p1), .val (.int p2), .val (.int p3), .val (.int p4), .val (.int p5), .val (.int n), .val (.int t), .val (.int g3), .val (.ref ar), .unset, .unset, .unset] [(.int p5), (.int (2 : Int32)), (.ref ar)])) rfl rfl (hb hby at_56)
      have B5_22 : Exa Z h22 ar "[I" := B5_12.wr W22
      have N22 := Fr.snoc X22 N12 g_ar
      have Z22 : n0 ≤ h22.size := Nat.le_trans Z12 (Keep.of_wr W22).1
      have V_ar_22 : Arv Z h22 ar k5 .int n [(.int p3), (.int p4), (.int p5), (.int (0 : Int32))] (.int (0 : Int32)) := Arv.set Ar21 q21 S21 M21 H21 G21 rfl W22 2 rfl (Nat.le_of_ble_eq_true rfl)
      have pre23 := fun τ (κ : Steps p.tables e below (T22.setTop (mkF m 57 #[.val (.int p0), .val (.int p1), .val (.int p2), .val (.int p3), .val (.int p4), .val (.int p5), .val (.int n), .val (.int t), .val (.int g3), .val (.ref ar), .unset, .unset, .unset] [])) τ) => pre20 τ (st22 _ κ)
      exact ⟨T22, h22, _, X22, e22, N22, Z22, V_ar_22, B5_22, pre23⟩
    · have pre24 := fun τ (κ : Steps p.tables e below (T12.setTop (mkF m 57 #[.val (.int p0), .val (.int p1), .val (.int p2), .val (.int p3), .val (.int p4), .val (.int p5), .val (.int n), .val (.int t), .val (.int g3), .val (.ref ar), .unset, .unset, .unset] [])) τ) => pre18 τ (by
        refine XS.icmpYes X12.here hx rfl (pc0 := 48) (pc' := 57) rfl (hb hby at_48) rfl (flt hj).2.2.2 (by decide) (by decide) ?_
        show Steps p.tables e below (T12.setTop (mkF m 57 #[.val (.int p0), .val (.int p1), .val (.int p2), .val (.int p3), .val (.int p4), .val (.int p5), .val (.int n), .val (.int t), .val (.int g3), .val (.ref ar), .unset, .unset, .unset] [])) _
        exact κ)
      exact ⟨T12, h12, _, X12, e12, N12, Z12, own_arv V_ar_12 (fun i hi => by have := own_far (k := 2) (by omega) (by decide) hj i hi; rcases i with _ | _ | _ | _ | i <;> first | rfl | omega), B5_12, pre24⟩
  have pre25 := fun τ (κ : Steps p.tables e below (T19.setTop (mkF m 60 #[.val (.int p0), .val (.int p1), .val (.int p2), .val (.int p3), .val (.int p4), .val (.int p5), .val (.int n), .val (.int t), .val (.int g3), .val (.ref ar), .unset, .unset, .unset] [(.int (3 : Int32)), (.int n)])) τ) => pre19 τ (by
    refine XS.iload X19.here hx rfl (hb hby at_57) rfl ?_
    show Steps p.tables e below (T19.setTop (mkF m 59 #[.val (.int p0), .val (.int p1), .val (.int p2), .val (.int p3), .val (.int p4), .val (.int p5), .val (.int n), .val (.int t), .val (.int g3), .val (.ref ar), .unset, .unset, .unset] [(.int n)])) _
    refine XS.iconst X19.here hx rfl (hb hby at_59) ?_
    show Steps p.tables e below (T19.setTop (mkF m 60 #[.val (.int p0), .val (.int p1), .val (.int p2), .val (.int p3), .val (.int p4), .val (.int p5), .val (.int n), .val (.int t), .val (.int g3), .val (.ref ar), .unset, .unset, .unset] [(.int (3 : Int32)), (.int n)])) _
    exact κ)
  obtain ⟨T26, h26, lo26, X26, e26, N26, Z26, V_ar_26, B5_26, pre26⟩ : ∃ (T26 : State) (h26 : Heap) (lo26 : List Loc), Stand p l e room_1 s m #[(.int p0), (.int p1), (.int p2), (.int p3), (.int p4), (.int p5)] below meth c T26 lo26 (1) (4) ∧ T26.heap = h26 ∧ Fr n0 lo26 ∧ n0 ≤ h26.size ∧ (Arv Z h26 ar k5 .int n [(.int p3), (.int p4), (.int p5), (.int g3)] (.int (0 : Int32))) ∧ (Exa Z h26 ar "[I") ∧ ∀ τ, Steps p.tables e below (T26.setTop (mkF m 69 #[.val (.int p0), .val (.int p1), .val (.int p2), .val (.int p3), .val (.int p4), .val (.int p5), .val (.int n), .val (.int t), .val (.int g3), .val (.ref ar), .unset, .unset, .unset] [])) τ → Steps p.tables e below (s₁.setTop (entryFrame m #[(.int p0), (.int p1), (.int p2), (.int p3), (.int p4), (.int p5)] maxLocals)) τ := by
    by_cases hj : (3 : Int32) < n
    · have pre27 := fun τ (κ : Steps p.tables e below (T19.setTop (mkF m 68 #[.val (.int p0), .val (.int p1), .val (.int p2), .val (.int p3), .val (.int p4), .val (.int p5), .val (.int n), .val (.int t), .val (.int g3), .val (.ref ar), .unset, .unset, .unset] [(.int g3), (.int (3 : Int32)), (.ref ar)])) τ) => pre25 τ (by
        refine XS.icmpNo X19.here hx rfl (hb hby at_60) rfl (tlt hj).2.2.2 ?_
        show Steps p.tables e below (T19.setTop (mkF m 63 #[.val (.int p0), .val (.int p1), .val (.int p2), .val (.int p3), .val (.int p4), .val (.int p5), .val (.int n), .val (.int t), .val (.int g3), .val (.ref ar), .unset, .unset, .unset] [])) _
        refine XS.aload X19.here hx rfl (hb hby at_63) rfl rfl ?_
        show Steps p.tables e below (T19.setTop (mkF m 65 #[.val (.int p0), .val (.int p1), .val (.int p2), .val (.int p3), .val (.int p4), .val (.int p5), .val (.int n), .val (.int t), .val (.int g3), .val (.ref ar), .unset, .unset, .unset] [(.ref ar)])) _
        refine XS.iconst X19.here hx rfl (hb hby at_65) ?_
        show Steps p.tables e below (T19.setTop (mkF m 66 #[.val (.int p0), .val (.int p1), .val (.int p2), .val (.int p3), .val (.int p4), .val (.int p5), .val (.int n), .val (.int t), .val (.int g3), .val (.ref ar), .unset, .unset, .unset] [(.int (3 : Int32)), (.ref ar)])) _
        refine XS.iload X19.here hx rfl (hb hby at_66) rfl ?_
        show Steps p.tables e below (T19.setTop (mkF m 68 #[.val (.int p0), .val (.int p1), .val (.int p2), .val (.int p3), .val (.int p4), .val (.int p5), .val (.int n), .val (.int t), .val (.int g3), .val (.ref ar), .unset, .unset, .unset] [(.int g3), (.int (3 : Int32)), (.ref ar)])) _
        exact κ)
      obtain ⟨cl28, Ar28, q28, S28, M28, H28, G28⟩ := id V_ar_19
      have in28 : ¬ ((3 : Int32) < 0 ∨ cl28.slots.size ≤ ((3 : Int32)).toNatClampNeg) := inb_of S28 ⟨by decide, hj⟩
      obtain ⟨T29, h29, X29, e29, W29, st29⟩ := stI X19 hx hZ e19 Ar28 (j := (3 : Int32)) in28 (g := (mkF m 68 #[.val (.int p0), .val (.int p1), .val (.int p2), .val (.int p3), .val (.int p4), .val (.int p5), .val (.int n), .val (.int t), .val (.int g3), .val (.ref ar), .unset, .unset, .unset] [(.int g3), (.int (3 : Int32)), (.ref ar)])) rfl rfl (hb hby at_68)
      have B5_29 : Exa Z h29 ar "[I" := B5_19.wr W29
      have N29 := Fr.snoc X29 N19 g_ar
      have Z29 : n0 ≤ h29.size := Nat.le_trans Z19 (Keep.of_wr W29).1
      have V_ar_29 : Arv Z h29 ar k5 .int n [(.int p3), (.int p4), (.int p5), (.int g3)] (.int (0 : Int32)) := Arv.set Ar28 q28 S28 M28 H28 G28 rfl W29 3 rfl (Nat.le_of_ble_eq_true rfl)
      have pre30 := fun τ (κ : Steps p.tables e below (T29.setTop (mkF m 69 #[.val (.int p0), .val (.int p1), .val (.int p2), .val (.int p3), .val (.int p4), .val (.int p5), .val (.int n), .val (.int t), .val (.int g3), .val (.ref ar), .unset, .unset, .unset] [])) τ) => pre27 τ (st29 _ κ)
      exact ⟨T29, h29, _, X29, e29, N29, Z29, V_ar_29, B5_29, pre30⟩
    · have pre31 := fun τ (κ : Steps p.tables e below (T19.setTop (mkF m 69 #[.val (.int p0), .val (.int p1), .val (.int p2), .val (.int p3), .val (.int p4), .val (.int p5), .val (.int n), .val (.int t), .val (.int g3), .val (.ref ar), .unset, .unset, .unset] [])) τ) => pre25 τ (by
        refine XS.icmpYes X19.here hx rfl (pc0 := 60) (pc' := 69) rfl (hb hby at_60) rfl (flt hj).2.2.2 (by decide) (by decide) ?_
        show Steps p.tables e below (T19.setTop (mkF m 69 #[.val (.int p0), .val (.int p1), .val (.int p2), .val (.int p3), .val (.int p4), .val (.int p5), .val (.int n), .val (.int t), .val (.int g3), .val (.ref ar), .unset, .unset, .unset] [])) _
        exact κ)
      exact ⟨T19, h19, _, X19, e19, N19, Z19, own_arv V_ar_19 (fun i hi => by have := own_far (k := 3) (by omega) (by decide) hj i hi; rcases i with _ | _ | _ | _ | i <;> first | rfl | omega), B5_19, pre31⟩
  obtain ⟨T32, h32, X32, e32, E32, A32, D32, -, st32⟩ := newO X26 hx hZ hown (hw _ (List.mem_of_getElem? (i := 2) rfl)) (hw _ (List.mem_of_getElem? (i := 3) rfl)) (hw _ (List.mem_of_getElem? (i := 4) rfl)) e26 (g := (mkF m 69 #[.val (.int p0), .val (.int p1), .val (.int p2), .val (.int p3), .val (.int p4), .val (.int p5), .val (.int n), .val (.int t), .val (.int g3), .val (.ref ar), .unset, .unset, .unset] [])) rfl (hb hby at_69) (by decide) (by decide)
  obtain ⟨ob, g32⟩ : ∃ z, z = h26.size := ⟨_, rfl⟩
  rw [← g32] at A32 D32 st32
  have g_ob : n0 ≤ ob := Nat.le_trans Z26 (Nat.le_of_eq g32.symm)
  have ne_ar_ob : ar ≠ ob := Nat.ne_of_lt (Nat.lt_of_lt_of_le V_ar_26.lt (Nat.le_of_eq g32.symm))
  have V_ar_32 : Arv Z h32 ar k5 .int n [(.int p3), (.int p4), (.int p5), (.int g3)] (.int (0 : Int32)) := V_ar_26.ext E32
  have B5_32 : Exa Z h32 ar "[I" := B5_26.ext E32
  have Z32 : n0 ≤ h32.size := Nat.le_trans Z26 E32.1
  have F_genes_ob_32 : Fld Z h32 ob "com/example/qualoom/qualoom/solver/GeneticOperators$Individual" "genes" "[I" .null := D32 (Or.inr (hw _ (List.mem_of_getElem? (i := 17) rfl))) (ty := (.array .int)) (by decide)
  have F_score_ob_32 : Fld Z h32 ob "com/example/qualoom/qualoom/solver/GeneticOperators$Individual" "score" "Lcom/example/qualoom/qualoom/evaluation/Score;" .null := D32 (Or.inr (hw _ (List.mem_of_getElem? (i := 19) rfl))) (ty := (.object "com/example/qualoom/qualoom/evaluation/Score")) (by decide)
  have pre33 := fun τ (κ : Steps p.tables e below (T32.setTop (mkF m 72 #[.val (.int p0), .val (.int p1), .val (.int p2), .val (.int p3), .val (.int p4), .val (.int p5), .val (.int n), .val (.int t), .val (.int g3), .val (.ref ar), .unset, .unset, .unset] [(.ref ob)])) τ) => pre26 τ (st32 _ κ)
  have pre34 := fun τ (κ : Steps p.tables e below (T32.setTop (mkF m 76 #[.val (.int p0), .val (.int p1), .val (.int p2), .val (.int p3), .val (.int p4), .val (.int p5), .val (.int n), .val (.int t), .val (.int g3), .val (.ref ar), .unset, .unset, .unset] [.null, (.ref ar), (.ref ob), (.ref ob)])) τ) => pre33 τ (by
    refine XS.dup X32.here hx rfl (hb hby at_72) rfl rfl ?_
    show Steps p.tables e below (T32.setTop (mkF m 73 #[.val (.int p0), .val (.int p1), .val (.int p2), .val (.int p3), .val (.int p4), .val (.int p5), .val (.int n), .val (.int t), .val (.int g3), .val (.ref ar), .unset, .unset, .unset] [(.ref ob), (.ref ob)])) _
    refine XS.aload X32.here hx rfl (hb hby at_73) rfl rfl ?_
    show Steps p.tables e below (T32.setTop (mkF m 75 #[.val (.int p0), .val (.int p1), .val (.int p2), .val (.int p3), .val (.int p4), .val (.int p5), .val (.int n), .val (.int t), .val (.int g3), .val (.ref ar), .unset, .unset, .unset] [(.ref ar), (.ref ob), (.ref ob)])) _
    refine XS.aconstNull X32.here hx rfl (hb hby at_75) ?_
    show Steps p.tables e below (T32.setTop (mkF m 76 #[.val (.int p0), .val (.int p1), .val (.int p2), .val (.int p3), .val (.int p4), .val (.int p5), .val (.int n), .val (.int t), .val (.int g3), .val (.ref ar), .unset, .unset, .unset] [.null, (.ref ar), (.ref ob), (.ref ob)])) _
    exact κ)
  obtain ⟨_, _, ⟨T35, L35, k35, n35⟩, -, X35, ⟨Lc35, hQ35, l35, y35, z35⟩, st35⟩ := X32.specialBack hx (y := (⟨"com/example/qualoom/qualoom/solver/GeneticOperators$Individual", "<init>", "([ILcom/example/qualoom/qualoom/evaluation/Score;)V"⟩ : MethodName)) rfl hown (mvT hZ (hw _ (List.mem_of_getElem? (i := 5) rfl))) (mvT hZ (hw _ (List.mem_of_getElem? (i := 6) rfl))) (mvT hZ (hw _ (List.mem_of_getElem? (i := 7) rfl))) (by decide) (backOf (W := 1) (rm1 l Z a0 hw [] ob ar h32 n0 Z32 A32 F_genes_ob_32 F_score_ob_32 g_ob) hZ (hw _ (List.mem_of_getElem? (i := 7) rfl)) (hw _ (List.mem_of_getElem? (i := 4) rfl)) (by decide) (by decide)) (g := (mkF m 76 #[.val (.int p0), .val (.int p1), .val (.int p2), .val (.int p3), .val (.int p4), .val (.int p5), .val (.int n), .val (.int t), .val (.int g3), .val (.ref ar), .unset, .unset, .unset] [.null, (.ref ar), (.ref ob), (.ref ob)])) rfl (by rw [hml]; rfl) (Steps.refl _) (a := ob) (argsL := [(.ref ar), .null]) (rest := [(.ref ob)]) (lenOf pd_1 rfl) rfl (by show 2 * 0 + _ ≤ _; exact Nat.le_of_eq rfl) (hb hby at_76) (fun _ _ => ⟨rfl, e32, (by decide : 2 + 0 ≤ _), (by decide : 6 + 0 ≤ _)⟩)
  dsimp only [Pt.U, Pt.locs, Pt.cells, Pt.slots] at X35 l35 y35 z35 st35 hQ35
  subst l35 y35 z35
  obtain ⟨rfl, Nq35, K35, Fg35, Fs35⟩ := hQ35
  have V_ar_35 : Arv Z T35.heap ar k5 .int n [(.int p3), (.int p4), (.int p5), (.int g3)] (.int (0 : Int32)) := V_ar_32.keep K35 (ninS ne_ar_ob nin0)
  have B5_35 : Exa Z T35.heap ar "[I" := B5_32.keep K35
  have A32_35 : Exa Z T35.heap ob "com/example/qualoom/qualoom/solver/GeneticOperators$Individual" := A32.keep K35
  have Z35 : n0 ≤ T35.heap.size := Nat.le_trans Z32 K35.1
  have N35 := Fr.app N26 Nq35
  have pre36 := fun τ (κ : Steps p.tables e below (T35.setTop (mkF m 79 #[.val (.int p0), .val (.int p1), .val (.int p2), .val (.int p3), .val (.int p4), .val (.int p5), .val (.int n), .val (.int t), .val (.int g3), .val (.ref ar), .unset, .unset, .unset] [(.ref ob)])) τ) => pre34 τ (st35.trans κ)
  have pre37 := fun τ (κ : Steps p.tables e below (T35.setTop (mkF m 87 #[.val (.int p0), .val (.int p1), .val (.int p2), .val (.int p3), .val (.int p4), .val (.int p5), .val (.int n), .val (.int t), .val (.int g3), .val (.ref ar), .val (.ref ob), .unset, .unset] [.null, (.int p2), (.int t), (.ref ob)])) τ) => pre36 τ (by
    refine XS.astore X35.here hx rfl (hb hby at_79) rfl rfl (l' := #[.val (.int p0), .val (.int p1), .val (.int p2), .val (.int p3), .val (.int p4), .val (.int p5), .val (.int n), .val (.int t), .val (.int g3), .val (.ref ar), .val (.ref ob), .unset, .unset]) rfl ?_
    show Steps p.tables e below (T35.setTop (mkF m 81 #[.val (.int p0), .val (.int p1), .val (.int p2), .val (.int p3), .val (.int p4), .val (.int p5), .val (.int n), .val (.int t), .val (.int g3), .val (.ref ar), .val (.ref ob), .unset, .unset] [])) _
    refine XS.aload X35.here hx rfl (hb hby at_81) rfl rfl ?_
    show Steps p.tables e below (T35.setTop (mkF m 83 #[.val (.int p0), .val (.int p1), .val (.int p2), .val (.int p3), .val (.int p4), .val (.int p5), .val (.int n), .val (.int t), .val (.int g3), .val (.ref ar), .val (.ref ob), .unset, .unset] [(.ref ob)])) _
    refine XS.iload X35.here hx rfl (hb hby at_83) rfl ?_
    show Steps p.tables e below (T35.setTop (mkF m 85 #[.val (.int p0), .val (.int p1), .val (.int p2), .val (.int p3), .val (.int p4), .val (.int p5), .val (.int n), .val (.int t), .val (.int g3), .val (.ref ar), .val (.ref ob), .unset, .unset] [(.int t), (.ref ob)])) _
    refine XS.iloadN X35.here hx rfl (hb hby at_85) rfl ?_
    show Steps p.tables e below (T35.setTop (mkF m 86 #[.val (.int p0), .val (.int p1), .val (.int p2), .val (.int p3), .val (.int p4), .val (.int p5), .val (.int n), .val (.int t), .val (.int g3), .val (.ref ar), .val (.ref ob), .unset, .unset] [(.int p2), (.int t), (.ref ob)])) _
    refine XS.aconstNull X35.here hx rfl (hb hby at_86) ?_
    show Steps p.tables e below (T35.setTop (mkF m 87 #[.val (.int p0), .val (.int p1), .val (.int p2), .val (.int p3), .val (.int p4), .val (.int p5), .val (.int n), .val (.int t), .val (.int g3), .val (.ref ar), .val (.ref ob), .unset, .unset] [.null, (.int p2), (.int t), (.ref ob)])) _
    exact κ)
  obtain ⟨cq38, kq38, q38a, q38b, q38c⟩ := isOf hZ rfl A32_35
  obtain ⟨_, _, ⟨T38, L38, k38, n38⟩, -, X38, ⟨Lc38, hQ38, l38, y38, z38⟩, st38⟩ := X35.virtualBack hx (y := (⟨"com/example/qualoom/qualoom/solver/GeneticOperators$Individual", "with", "(IILcom/example/qualoom/qualoom/evaluation/Score;)Lcom/example/qualoom/qualoom/solver/GeneticOperators$Individual;"⟩ : MethodName)) (z := (⟨"com/example/qualoom/qualoom/solver/GeneticOperators$Individual", "with", "(IILcom/example/qualoom/qualoom/evaluation/Score;)Lcom/example/qualoom/qualoom/solver/GeneticOperators$Individual;"⟩ : MethodName)) hown (mvT hZ (hw _ (List.mem_of_getElem? (i := 20) rfl))) (mvT hZ (hw _ (List.mem_of_getElem? (i := 21) rfl))) (notFace_of_selects (args := #[]) (mvT hZ (hw _ (List.mem_of_getElem? (i := 23) rfl)))) (mvT hZ (hw _ (List.mem_of_getElem? (i := 23) rfl))) (mvT hZ (hw _ (List.mem_of_getElem? (i := 22) rfl))) (by decide) (backOf (W := 0) (rm4 l Z a0 hw [] ob t p2 ar n k5 [(.int p3), (.int p4), (.int p5), (.int g3)] T35.heap n0 Z35 Fg35 B5_35 V_ar_35 ht2 ht3 hn4 (by show t.toNatClampNeg < 4; omega)) hZ (hw _ (List.mem_of_getElem? (i := 24) rfl)) (hw _ (List.mem_of_getElem? (i := 4) rfl)) (by decide) (by decide)) q38a q38c (g := (mkF m 87 #[.val (.int p0), .val (.int p1), .val (.int p2), .val (.int p3), .val (.int p4), .val (.int p5), .val (.int n), .val (.int t), .val (.int g3), .val (.ref ar), .val (.ref ob), .unset, .unset] [.null, (.int p2), (.int t), (.ref ob)])) rfl (by rw [hml]; rfl) (Steps.refl _) (argsL := [(.int t), (.int p2), .null]) (rest := []) (lenOf pd_2 rfl) rfl (by show 2 * 0 + _ ≤ _; exact Nat.le_of_eq rfl) (hb hby at_87) (fun _ _ => ⟨rfl, rfl, (by decide : 2 + 2 ≤ _), (by decide : 6 + 6 ≤ _)⟩)
  dsimp only [Pt.U, Pt.locs, Pt.cells, Pt.slots] at X38 l38 y38 z38 st38 hQ38
  subst l38 y38 z38
  obtain ⟨bg, af, rfl, Nq38, K38, Ea38, Fag38, Fas38, Va38, sb38, sa38⟩ := hQ38
  have V_ar_38 : Arv Z T38.heap ar k5 .int n [(.int p3), (.int p4), (.int p5), (.int g3)] (.int (0 : Int32)) := V_ar_35.keep K38 nin0
  have B5_38 : Exa Z T38.heap ar "[I" := B5_35.keep K38
  have A32_38 : Exa Z T38.heap ob "com/example/qualoom/qualoom/solver/GeneticOperators$Individual" := A32_35.keep K38
  have Fg35_38 : Fld Z T38.heap ob "com/example/qualoom/qualoom/solver/GeneticOperators$Individual" "genes" "[I" (.ref ar) := Fg35.keep K38 nin0
  have Fs35_38 : Fld Z T38.heap ob "com/example/qualoom/qualoom/solver/GeneticOperators$Individual" "score" "Lcom/example/qualoom/qualoom/evaluation/Score;" .null := Fs35.keep K38 nin0
  have Z38 : n0 ≤ T38.heap.size := Nat.le_trans Z35 K38.1
  have N38 := Fr.app N35 Nq38
  have pre39 := fun τ (κ : Steps p.tables e below (T38.setTop (mkF m 90 #[.val (.int p0), .val (.int p1), .val (.int p2), .val (.int p3), .val (.int p4), .val (.int p5), .val (.int n), .val (.int t), .val (.int g3), .val (.ref ar), .val (.ref ob), .unset, .unset] [(.ref af)])) τ) => pre37 τ (st38.trans κ)
  have ne1 : ¬ af = ob := fun h => (Nat.ne_of_lt (Nat.lt_of_lt_of_le A32_35.lt sa38)) h.symm
  have ne2 : ¬ bg = ar := fun h => (Nat.ne_of_lt (Nat.lt_of_lt_of_le V_ar_35.lt sb38)) h.symm
  have pre40 := fun τ (κ : Steps p.tables e below (T38.setTop (mkF m 108 #[.val (.int p0), .val (.int p1), .val (.int p2), .val (.int p3), .val (.int p4), .val (.int p5), .val (.int n), .val (.int t), .val (.int g3), .val (.ref ar), .val (.ref ob), .val (.ref af), .unset] [(.ref af)])) τ) => pre39 τ (by
    refine XS.astore X38.here hx rfl (hb hby at_90) rfl rfl (l' := #[.val (.int p0), .val (.int p1), .val (.int p2), .val (.int p3), .val (.int p4), .val (.int p5), .val (.int n), .val (.int t), .val (.int g3), .val (.ref ar), .val (.ref ob), .val (.ref af), .unset]) rfl ?_
    show Steps p.tables e below (T38.setTop (mkF m 92 #[.val (.int p0), .val (.int p1), .val (.int p2), .val (.int p3), .val (.int p4), .val (.int p5), .val (.int n), .val (.int t), .val (.int g3), .val (.ref ar), .val (.ref ob), .val (.ref af), .unset] [])) _
    refine XS.aload X38.here hx rfl (hb hby at_92) rfl rfl ?_
    show Steps p.tables e below (T38.setTop (mkF m 94 #[.val (.int p0), .val (.int p1), .val (.int p2), .val (.int p3), .val (.int p4), .val (.int p5), .val (.int n), .val (.int t), .val (.int g3), .val (.ref ar), .val (.ref ob), .val (.ref af), .unset] [(.ref af)])) _
    refine XS.ifnullNo X38.here hx rfl (hb hby at_94) rfl ?_
    show Steps p.tables e below (T38.setTop (mkF m 97 #[.val (.int p0), .val (.int p1), .val (.int p2), .val (.int p3), .val (.int p4), .val (.int p5), .val (.int n), .val (.int t), .val (.int g3), .val (.ref ar), .val (.ref ob), .val (.ref af), .unset] [])) _
    refine XS.aload X38.here hx rfl (hb hby at_97) rfl rfl ?_
    show Steps p.tables e below (T38.setTop (mkF m 99 #[.val (.int p0), .val (.int p1), .val (.int p2), .val (.int p3), .val (.int p4), .val (.int p5), .val (.int n), .val (.int t), .val (.int g3), .val (.ref ar), .val (.ref ob), .val (.ref af), .unset] [(.ref af)])) _
    refine XS.aload X38.here hx rfl (hb hby at_99) rfl rfl ?_
    show Steps p.tables e below (T38.setTop (mkF m 101 #[.val (.int p0), .val (.int p1), .val (.int p2), .val (.int p3), .val (.int p4), .val (.int p5), .val (.int n), .val (.int t), .val (.int g3), .val (.ref ar), .val (.ref ob), .val (.ref af), .unset] [(.ref ob), (.ref af)])) _
    refine Jvm.RoadKit.acmp (g := (mkF m 101 #[.val (.int p0), .val (.int p1), .val (.int p2), .val (.int p3), .val (.int p4), .val (.int p5), .val (.int n), .val (.int t), .val (.int g3), .val (.ref ar), .val (.ref ob), .val (.ref af), .unset] [(.ref ob), (.ref af)])) X38 hx rfl rfl rfl (pc0 := 101) (pc' := 106) (same := false) rfl (hb hby at_101) rfl (decide_eq_false fun q => ne1 (Value.ref.inj q)) (by decide) (by decide) ?_
    show Steps p.tables e below (T38.setTop (mkF m 106 #[.val (.int p0), .val (.int p1), .val (.int p2), .val (.int p3), .val (.int p4), .val (.int p5), .val (.int n), .val (.int t), .val (.int g3), .val (.ref ar), .val (.ref ob), .val (.ref af), .unset] [])) _
    refine XS.aload X38.here hx rfl (hb hby at_106) rfl rfl ?_
    show Steps p.tables e below (T38.setTop (mkF m 108 #[.val (.int p0), .val (.int p1), .val (.int p2), .val (.int p3), .val (.int p4), .val (.int p5), .val (.int n), .val (.int t), .val (.int g3), .val (.ref ar), .val (.ref ob), .val (.ref af), .unset] [(.ref af)])) _
    exact κ)
  obtain ⟨cq41, kq41, q41a, q41b, q41c⟩ := isOf hZ rfl Ea38
  obtain ⟨_, _, ⟨T41, L41, k41, n41⟩, -, X41, ⟨Lc41, hQ41, l41, y41, z41⟩, st41⟩ := X38.virtualBack hx (y := (⟨"com/example/qualoom/qualoom/solver/GeneticOperators$Individual", "genes", "()[I"⟩ : MethodName)) (z := (⟨"com/example/qualoom/qualoom/solver/GeneticOperators$Individual", "genes", "()[I"⟩ : MethodName)) hown (mvT hZ (hw _ (List.mem_of_getElem? (i := 36) rfl))) (mvT hZ (hw _ (List.mem_of_getElem? (i := 37) rfl))) (notFace_of_selects (args := #[]) (mvT hZ (hw _ (List.mem_of_getElem? (i := 39) rfl)))) (mvT hZ (hw _ (List.mem_of_getElem? (i := 39) rfl))) (mvT hZ (hw _ (List.mem_of_getElem? (i := 38) rfl))) (by decide) (backOf (W := 0) (rm5 l Z a0 hw [] af bg T38.heap n0 Z38 Fag38) hZ (hw _ (List.mem_of_getElem? (i := 40) rfl)) (hw _ (List.mem_of_getElem? (i := 4) rfl)) (by decide) (by decide)) q41a q41c (g := (mkF m 108 #[.val (.int p0), .val (.int p1), .val (.int p2), .val (.int p3), .val (.int p4), .val (.int p5), .val (.int n), .val (.int t), .val (.int g3), .val (.ref ar), .val (.ref ob), .val (.ref af), .unset] [(.ref af)])) rfl (by rw [hml]; rfl) (Steps.refl _) (argsL := []) (rest := []) (lenOf pd_3 rfl) rfl (by show 2 * 0 + _ ≤ _; exact Nat.le_of_eq rfl) (hb hby at_108) (fun _ _ => ⟨rfl, rfl, (by decide : 4 + 0 ≤ _), (by decide : 12 + 0 ≤ _)⟩)
  dsimp only [Pt.U, Pt.locs, Pt.cells, Pt.slots] at X41 l41 y41 z41 st41 hQ41
  subst l41 y41 z41
  obtain ⟨rfl, Nq41, hh41⟩ := hQ41
  have V_ar_41 : Arv Z T41.heap ar k5 .int n [(.int p3), (.int p4), (.int p5), (.int g3)] (.int (0 : Int32)) := by rw [hh41]; exact V_ar_38
  have B5_41 : Exa Z T41.heap ar "[I" := by rw [hh41]; exact B5_38
  have A32_41 : Exa Z T41.heap ob "com/example/qualoom/qualoom/solver/GeneticOperators$Individual" := by rw [hh41]; exact A32_38
  have Fg35_41 : Fld Z T41.heap ob "com/example/qualoom/qualoom/solver/GeneticOperators$Individual" "genes" "[I" (.ref ar) := by rw [hh41]; exact Fg35_38
  have Fs35_41 : Fld Z T41.heap ob "com/example/qualoom/qualoom/solver/GeneticOperators$Individual" "score" "Lcom/example/qualoom/qualoom/evaluation/Score;" .null := by rw [hh41]; exact Fs35_38
  have Ea38_41 : Exa Z T41.heap af "com/example/qualoom/qualoom/solver/GeneticOperators$Individual" := by rw [hh41]; exact Ea38
  have Fag38_41 : Fld Z T41.heap af "com/example/qualoom/qualoom/solver/GeneticOperators$Individual" "genes" "[I" (.ref bg) := by rw [hh41]; exact Fag38
  have Fas38_41 : Fld Z T41.heap af "com/example/qualoom/qualoom/solver/GeneticOperators$Individual" "score" "Lcom/example/qualoom/qualoom/evaluation/Score;" .null := by rw [hh41]; exact Fas38
  have Va38_41 : Arv Z T41.heap bg k5 .int n ([(.int p3), (.int p4), (.int p5), (.int g3)].set t.toNatClampNeg (.int p2)) (.int (0 : Int32)) := by rw [hh41]; exact Va38
  have Z41 : n0 ≤ T41.heap.size := by rw [hh41]; exact Z38
  have N41 := Fr.app N38 Nq41
  have pre42 := fun τ (κ : Steps p.tables e below (T41.setTop (mkF m 111 #[.val (.int p0), .val (.int p1), .val (.int p2), .val (.int p3), .val (.int p4), .val (.int p5), .val (.int n), .val (.int t), .val (.int g3), .val (.ref ar), .val (.ref ob), .val (.ref af), .unset] [(.ref bg)])) τ) => pre40 τ (st41.trans κ)
  have pre43 := fun τ (κ : Steps p.tables e below (T41.setTop (mkF m 127 #[.val (.int p0), .val (.int p1), .val (.int p2), .val (.int p3), .val (.int p4), .val (.int p5), .val (.int n), .val (.int t), .val (.int g3), .val (.ref ar), .val (.ref ob), .val (.ref af), .val (.ref bg)] [(.ref bg)])) τ) => pre42 τ (by
    refine XS.astore X41.here hx rfl (hb hby at_111) rfl rfl (l' := #[.val (.int p0), .val (.int p1), .val (.int p2), .val (.int p3), .val (.int p4), .val (.int p5), .val (.int n), .val (.int t), .val (.int g3), .val (.ref ar), .val (.ref ob), .val (.ref af), .val (.ref bg)]) rfl ?_
    show Steps p.tables e below (T41.setTop (mkF m 113 #[.val (.int p0), .val (.int p1), .val (.int p2), .val (.int p3), .val (.int p4), .val (.int p5), .val (.int n), .val (.int t), .val (.int g3), .val (.ref ar), .val (.ref ob), .val (.ref af), .val (.ref bg)] [])) _
    refine XS.aload X41.here hx rfl (hb hby at_113) rfl rfl ?_
    show Steps p.tables e below (T41.setTop (mkF m 115 #[.val (.int p0), .val (.int p1), .val (.int p2), .val (.int p3), .val (.int p4), .val (.int p5), .val (.int n), .val (.int t), .val (.int g3), .val (.ref ar), .val (.ref ob), .val (.ref af), .val (.ref bg)] [(.ref bg)])) _
    refine XS.ifnullNo X41.here hx rfl (hb hby at_115) rfl ?_
    show Steps p.tables e below (T41.setTop (mkF m 118 #[.val (.int p0), .val (.int p1), .val (.int p2), .val (.int p3), .val (.int p4), .val (.int p5), .val (.int n), .val (.int t), .val (.int g3), .val (.ref ar), .val (.ref ob), .val (.ref af), .val (.ref bg)] [])) _
    refine XS.aload X41.here hx rfl (hb hby at_118) rfl rfl ?_
    show Steps p.tables e below (T41.setTop (mkF m 120 #[.val (.int p0), .val (.int p1), .val (.int p2), .val (.int p3), .val (.int p4), .val (.int p5), .val (.int n), .val (.int t), .val (.int g3), .val (.ref ar), .val (.ref ob), .val (.ref af), .val (.ref bg)] [(.ref bg)])) _
    refine XS.aload X41.here hx rfl (hb hby at_120) rfl rfl ?_
    show Steps p.tables e below (T41.setTop (mkF m 122 #[.val (.int p0), .val (.int p1), .val (.int p2), .val (.int p3), .val (.int p4), .val (.int p5), .val (.int n), .val (.int t), .val (.int g3), .val (.ref ar), .val (.ref ob), .val (.ref af), .val (.ref bg)] [(.ref ar), (.ref bg)])) _
    refine Jvm.RoadKit.acmp (g := (mkF m 122 #[.val (.int p0), .val (.int p1), .val (.int p2), .val (.int p3), .val (.int p4), .val (.int p5), .val (.int n), .val (.int t), .val (.int g3), .val (.ref ar), .val (.ref ob), .val (.ref af), .val (.ref bg)] [(.ref ar), (.ref bg)])) X41 hx rfl rfl rfl (pc0 := 122) (pc' := 125) (same := false) rfl (hb hby at_122) rfl (decide_eq_false fun q => ne2 (Value.ref.inj q)) (by decide) (by decide) ?_
    show Steps p.tables e below (T41.setTop (mkF m 125 #[.val (.int p0), .val (.int p1), .val (.int p2), .val (.int p3), .val (.int p4), .val (.int p5), .val (.int n), .val (.int t), .val (.int g3), .val (.ref ar), .val (.ref ob), .val (.ref af), .val (.ref bg)] [])) _
    refine XS.aload X41.here hx rfl (hb hby at_125) rfl rfl ?_
    show Steps p.tables e below (T41.setTop (mkF m 127 #[.val (.int p0), .val (.int p1), .val (.int p2), .val (.int p3), .val (.int p4), .val (.int p5), .val (.int n), .val (.int t), .val (.int g3), .val (.ref ar), .val (.ref ob), .val (.ref af), .val (.ref bg)] [(.ref bg)])) _
    exact κ)
  obtain ⟨cl44, Ar44, -, S44, M44, -, -⟩ := id Va38_41
  have pre45 := fun τ (κ : Steps p.tables e below (T41.setTop (mkF m 137 #[.val (.int p0), .val (.int p1), .val (.int p2), .val (.int p3), .val (.int p4), .val (.int p5), .val (.int n), .val (.int t), .val (.int g3), .val (.ref ar), .val (.ref ob), .val (.ref af), .val (.ref bg)] [(.ref ob)])) τ) => pre43 τ (by
    refine X41.arraylength hx Ar44.1 (State.isArrayOf_alike hZ.alike Ar44.2.1) (g := (mkF m 127 #[.val (.int p0), .val (.int p1), .val (.int p2), .val (.int p3), .val (.int p4), .val (.int p5), .val (.int n), .val (.int t), .val (.int g3), .val (.ref ar), .val (.ref ob), .val (.ref af), .val (.ref bg)] [(.ref bg)])) rfl rfl (hb hby at_127) _ ?_
    rw [len_of S44 M44]
    show Steps p.tables e below (T41.setTop (mkF m 128 #[.val (.int p0), .val (.int p1), .val (.int p2), .val (.int p3), .val (.int p4), .val (.int p5), .val (.int n), .val (.int t), .val (.int g3), .val (.ref ar), .val (.ref ob), .val (.ref af), .val (.ref bg)] [(.int n)])) _
    refine XS.iload X41.here hx rfl (hb hby at_128) rfl ?_
    show Steps p.tables e below (T41.setTop (mkF m 130 #[.val (.int p0), .val (.int p1), .val (.int p2), .val (.int p3), .val (.int p4), .val (.int p5), .val (.int n), .val (.int t), .val (.int g3), .val (.ref ar), .val (.ref ob), .val (.ref af), .val (.ref bg)] [(.int n), (.int n)])) _
    refine XS.icmpYes X41.here hx rfl (pc0 := 130) (pc' := 135) rfl (hb hby at_130) rfl (teq rfl).1 (by decide) (by decide) ?_
    show Steps p.tables e below (T41.setTop (mkF m 135 #[.val (.int p0), .val (.int p1), .val (.int p2), .val (.int p3), .val (.int p4), .val (.int p5), .val (.int n), .val (.int t), .val (.int g3), .val (.ref ar), .val (.ref ob), .val (.ref af), .val (.ref bg)] [])) _
    refine XS.aload X41.here hx rfl (hb hby at_135) rfl rfl ?_
    show Steps p.tables e below (T41.setTop (mkF m 137 #[.val (.int p0), .val (.int p1), .val (.int p2), .val (.int p3), .val (.int p4), .val (.int p5), .val (.int n), .val (.int t), .val (.int g3), .val (.ref ar), .val (.ref ob), .val (.ref af), .val (.ref bg)] [(.ref ob)])) _
    exact κ)
  obtain ⟨cq46, kq46, q46a, q46b, q46c⟩ := isOf hZ rfl A32_41
  obtain ⟨_, _, ⟨T46, L46, k46, n46⟩, -, X46, ⟨Lc46, hQ46, l46, y46, z46⟩, st46⟩ := X41.virtualBack hx (y := (⟨"com/example/qualoom/qualoom/solver/GeneticOperators$Individual", "genes", "()[I"⟩ : MethodName)) (z := (⟨"com/example/qualoom/qualoom/solver/GeneticOperators$Individual", "genes", "()[I"⟩ : MethodName)) hown (mvT hZ (hw _ (List.mem_of_getElem? (i := 36) rfl))) (mvT hZ (hw _ (List.mem_of_getElem? (i := 37) rfl))) (notFace_of_selects (args := #[]) (mvT hZ (hw _ (List.mem_of_getElem? (i := 39) rfl)))) (mvT hZ (hw _ (List.mem_of_getElem? (i := 39) rfl))) (mvT hZ (hw _ (List.mem_of_getElem? (i := 38) rfl))) (by decide) (backOf (W := 0) (rm5 l Z a0 hw [] ob ar T41.heap n0 Z41 Fg35_41) hZ (hw _ (List.mem_of_getElem? (i := 40) rfl)) (hw _ (List.mem_of_getElem? (i := 4) rfl)) (by decide) (by decide)) q46a q46c (g := (mkF m 137 #[.val (.int p0), .val (.int p1), .val (.int p2), .val (.int p3), .val (.int p4), .val (.int p5), .val (.int n), .val (.int t), .val (.int g3), .val (.ref ar), .val (.ref ob), .val (.ref af), .val (.ref bg)] [(.ref ob)])) rfl (by rw [hml]; rfl) (Steps.refl _) (argsL := []) (rest := []) (lenOf pd_3 rfl) rfl (by show 2 * 0 + _ ≤ _; exact Nat.le_of_eq rfl) (hb hby at_137) (fun _ _ => ⟨rfl, rfl, (by decide : 4 + 0 ≤ _), (by decide : 12 + 0 ≤ _)⟩)
  dsimp only [Pt.U, Pt.locs, Pt.cells, Pt.slots] at X46 l46 y46 z46 st46 hQ46
  subst l46 y46 z46
  obtain ⟨rfl, Nq46, hh46⟩ := hQ46
  have V_ar_46 : Arv Z T46.heap ar k5 .int n [(.int p3), (.int p4), (.int p5), (.int g3)] (.int (0 : Int32)) := by rw [hh46]; exact V_ar_41
  have B5_46 : Exa Z T46.heap ar "[I" := by rw [hh46]; exact B5_41
  have A32_46 : Exa Z T46.heap ob "com/example/qualoom/qualoom/solver/GeneticOperators$Individual" := by rw [hh46]; exact A32_41
  have Fg35_46 : Fld Z T46.heap ob "com/example/qualoom/qualoom/solver/GeneticOperators$Individual" "genes" "[I" (.ref ar) := by rw [hh46]; exact Fg35_41
  have Fs35_46 : Fld Z T46.heap ob "com/example/qualoom/qualoom/solver/GeneticOperators$Individual" "score" "Lcom/example/qualoom/qualoom/evaluation/Score;" .null := by rw [hh46]; exact Fs35_41
  have Ea38_46 : Exa Z T46.heap af "com/example/qualoom/qualoom/solver/GeneticOperators$Individual" := by rw [hh46]; exact Ea38_41
  have Fag38_46 : Fld Z T46.heap af "com/example/qualoom/qualoom/solver/GeneticOperators$Individual" "genes" "[I" (.ref bg) := by rw [hh46]; exact Fag38_41
  have Fas38_46 : Fld Z T46.heap af "com/example/qualoom/qualoom/solver/GeneticOperators$Individual" "score" "Lcom/example/qualoom/qualoom/evaluation/Score;" .null := by rw [hh46]; exact Fas38_41
  have Va38_46 : Arv Z T46.heap bg k5 .int n ([(.int p3), (.int p4), (.int p5), (.int g3)].set t.toNatClampNeg (.int p2)) (.int (0 : Int32)) := by rw [hh46]; exact Va38_41
  have Z46 : n0 ≤ T46.heap.size := by rw [hh46]; exact Z41
  have N46 := Fr.app N41 Nq46
  have pre47 := fun τ (κ : Steps p.tables e below (T46.setTop (mkF m 140 #[.val (.int p0), .val (.int p1), .val (.int p2), .val (.int p3), .val (.int p4), .val (.int p5), .val (.int n), .val (.int t), .val (.int g3), .val (.ref ar), .val (.ref ob), .val (.ref af), .val (.ref bg)] [(.ref ar)])) τ) => pre45 τ (st46.trans κ)
  have pre48 := fun τ (κ : Steps p.tables e below (T46.setTop (mkF m 149 #[.val (.int p0), .val (.int p1), .val (.int p2), .val (.int p3), .val (.int p4), .val (.int p5), .val (.int n), .val (.int t), .val (.int g3), .val (.ref ar), .val (.ref ob), .val (.ref af), .val (.ref bg)] [(.ref af)])) τ) => pre47 τ (by
    refine XS.aload X46.here hx rfl (hb hby at_140) rfl rfl ?_
    show Steps p.tables e below (T46.setTop (mkF m 142 #[.val (.int p0), .val (.int p1), .val (.int p2), .val (.int p3), .val (.int p4), .val (.int p5), .val (.int n), .val (.int t), .val (.int g3), .val (.ref ar), .val (.ref ob), .val (.ref af), .val (.ref bg)] [(.ref ar), (.ref ar)])) _
    refine Jvm.RoadKit.acmp (g := (mkF m 142 #[.val (.int p0), .val (.int p1), .val (.int p2), .val (.int p3), .val (.int p4), .val (.int p5), .val (.int n), .val (.int t), .val (.int g3), .val (.ref ar), .val (.ref ob), .val (.ref af), .val (.ref bg)] [(.ref ar), (.ref ar)])) X46 hx rfl rfl rfl (pc0 := 142) (pc' := 147) (same := true) rfl (hb hby at_142) rfl (decide_eq_true (congrArg Value.ref rfl)) (by decide) (by decide) ?_
    show Steps p.tables e below (T46.setTop (mkF m 147 #[.val (.int p0), .val (.int p1), .val (.int p2), .val (.int p3), .val (.int p4), .val (.int p5), .val (.int n), .val (.int t), .val (.int g3), .val (.ref ar), .val (.ref ob), .val (.ref af), .val (.ref bg)] [])) _
    refine XS.aload X46.here hx rfl (hb hby at_147) rfl rfl ?_
    show Steps p.tables e below (T46.setTop (mkF m 149 #[.val (.int p0), .val (.int p1), .val (.int p2), .val (.int p3), .val (.int p4), .val (.int p5), .val (.int n), .val (.int t), .val (.int g3), .val (.ref ar), .val (.ref ob), .val (.ref af), .val (.ref bg)] [(.ref af)])) _
    exact κ)
  obtain ⟨cq49, kq49, q49a, q49b, q49c⟩ := isOf hZ rfl Ea38_46
  obtain ⟨_, _, ⟨T49, L49, k49, n49⟩, -, X49, ⟨Lc49, hQ49, l49, y49, z49⟩, st49⟩ := X46.virtualBack hx (y := (⟨"com/example/qualoom/qualoom/solver/GeneticOperators$Individual", "score", "()Lcom/example/qualoom/qualoom/evaluation/Score;"⟩ : MethodName)) (z := (⟨"com/example/qualoom/qualoom/solver/GeneticOperators$Individual", "score", "()Lcom/example/qualoom/qualoom/evaluation/Score;"⟩ : MethodName)) hown (mvT hZ (hw _ (List.mem_of_getElem? (i := 41) rfl))) (mvT hZ (hw _ (List.mem_of_getElem? (i := 42) rfl))) (notFace_of_selects (args := #[]) (mvT hZ (hw _ (List.mem_of_getElem? (i := 44) rfl)))) (mvT hZ (hw _ (List.mem_of_getElem? (i := 44) rfl))) (mvT hZ (hw _ (List.mem_of_getElem? (i := 43) rfl))) (by decide) (backOf (W := 0) (rm6 l Z a0 hw [] af T46.heap n0 Z46 Fas38_46) hZ (hw _ (List.mem_of_getElem? (i := 45) rfl)) (hw _ (List.mem_of_getElem? (i := 4) rfl)) (by decide) (by decide)) q49a q49c (g := (mkF m 149 #[.val (.int p0), .val (.int p1), .val (.int p2), .val (.int p3), .val (.int p4), .val (.int p5), .val (.int n), .val (.int t), .val (.int g3), .val (.ref ar), .val (.ref ob), .val (.ref af), .val (.ref bg)] [(.ref af)])) rfl (by rw [hml]; rfl) (Steps.refl _) (argsL := []) (rest := []) (lenOf pd_4 rfl) rfl (by show 2 * 0 + _ ≤ _; exact Nat.le_of_eq rfl) (hb hby at_149) (fun _ _ => ⟨rfl, rfl, (by decide : 4 + 0 ≤ _), (by decide : 12 + 0 ≤ _)⟩)
  dsimp only [Pt.U, Pt.locs, Pt.cells, Pt.slots] at X49 l49 y49 z49 st49 hQ49
  subst l49 y49 z49
  obtain ⟨rfl, Nq49, hh49⟩ := hQ49
  have V_ar_49 : Arv Z T49.heap ar k5 .int n [(.int p3), (.int p4), (.int p5), (.int g3)] (.int (0 : Int32)) := by rw [hh49]; exact V_ar_46
  have B5_49 : Exa Z T49.heap ar "[I" := by rw [hh49]; exact B5_46
  have A32_49 : Exa Z T49.heap ob "com/example/qualoom/qualoom/solver/GeneticOperators$Individual" := by rw [hh49]; exact A32_46
  have Fg35_49 : Fld Z T49.heap ob "com/example/qualoom/qualoom/solver/GeneticOperators$Individual" "genes" "[I" (.ref ar) := by rw [hh49]; exact Fg35_46
  have Fs35_49 : Fld Z T49.heap ob "com/example/qualoom/qualoom/solver/GeneticOperators$Individual" "score" "Lcom/example/qualoom/qualoom/evaluation/Score;" .null := by rw [hh49]; exact Fs35_46
  have Ea38_49 : Exa Z T49.heap af "com/example/qualoom/qualoom/solver/GeneticOperators$Individual" := by rw [hh49]; exact Ea38_46
  have Fag38_49 : Fld Z T49.heap af "com/example/qualoom/qualoom/solver/GeneticOperators$Individual" "genes" "[I" (.ref bg) := by rw [hh49]; exact Fag38_46
  have Fas38_49 : Fld Z T49.heap af "com/example/qualoom/qualoom/solver/GeneticOperators$Individual" "score" "Lcom/example/qualoom/qualoom/evaluation/Score;" .null := by rw [hh49]; exact Fas38_46
  have Va38_49 : Arv Z T49.heap bg k5 .int n ([(.int p3), (.int p4), (.int p5), (.int g3)].set t.toNatClampNeg (.int p2)) (.int (0 : Int32)) := by rw [hh49]; exact Va38_46
  have Z49 : n0 ≤ T49.heap.size := by rw [hh49]; exact Z46
  have N49 := Fr.app N46 Nq49
  have pre50 := fun τ (κ : Steps p.tables e below (T49.setTop (mkF m 152 #[.val (.int p0), .val (.int p1), .val (.int p2), .val (.int p3), .val (.int p4), .val (.int p5), .val (.int n), .val (.int t), .val (.int g3), .val (.ref ar), .val (.ref ob), .val (.ref af), .val (.ref bg)] [.null])) τ) => pre48 τ (st49.trans κ)
  have pre51 := fun τ (κ : Steps p.tables e below (T49.setTop (mkF m 157 #[.val (.int p0), .val (.int p1), .val (.int p2), .val (.int p3), .val (.int p4), .val (.int p5), .val (.int n), .val (.int t), .val (.int g3), .val (.ref ar), .val (.ref ob), .val (.ref af), .val (.ref bg)] [])) τ) => pre50 τ (by
    refine XS.ifnullYes X49.here hx rfl (pc0 := 152) (pc' := 157) rfl (hb hby at_152) rfl (by decide) (by decide) ?_
    show Steps p.tables e below (T49.setTop (mkF m 157 #[.val (.int p0), .val (.int p1), .val (.int p2), .val (.int p3), .val (.int p4), .val (.int p5), .val (.int n), .val (.int t), .val (.int g3), .val (.ref ar), .val (.ref ob), .val (.ref af), .val (.ref bg)] [])) _
    exact κ)
  obtain ⟨s0, s1, s2, s3⟩ := own_slot p3 p4 p5 g3 p2 ht0 (by omega)
  have pre52 := fun τ (κ : Steps p.tables e below (T49.setTop (mkF m 168 #[.val (.int p0), .val (.int p1), .val (.int p2), .val (.int p3), .val (.int p4), .val (.int p5), .val (.int n), .val (.int t), .val (.int g3), .val (.ref ar), .val (.ref ob), .val (.ref af), .val (.ref bg)] [(.int p3), (.int p2), (.int t), (.int n), (.int (0 : Int32)), (.ref ar), (.ref bg)])) τ) => pre51 τ (by
    refine XS.aload X49.here hx rfl (hb hby at_157) rfl rfl ?_
    show Steps p.tables e below (T49.setTop (mkF m 159 #[.val (.int p0), .val (.int p1), .val (.int p2), .val (.int p3), .val (.int p4), .val (.int p5), .val (.int n), .val (.int t), .val (.int g3), .val (.ref ar), .val (.ref ob), .val (.ref af), .val (.ref bg)] [(.ref bg)])) _
    refine XS.aload X49.here hx rfl (hb hby at_159) rfl rfl ?_
    show Steps p.tables e below (T49.setTop (mkF m 161 #[.val (.int p0), .val (.int p1), .val (.int p2), .val (.int p3), .val (.int p4), .val (.int p5), .val (.int n), .val (.int t), .val (.int g3), .val (.ref ar), .val (.ref ob), .val (.ref af), .val (.ref bg)] [(.ref ar), (.ref bg)])) _
    refine XS.iconst X49.here hx rfl (hb hby at_161) ?_
    show Steps p.tables e below (T49.setTop (mkF m 162 #[.val (.int p0), .val (.int p1), .val (.int p2), .val (.int p3), .val (.int p4), .val (.int p5), .val (.int n), .val (.int t), .val (.int g3), .val (.ref ar), .val (.ref ob), .val (.ref af), .val (.ref bg)] [(.int (0 : Int32)), (.ref ar), (.ref bg)])) _
    refine XS.iload X49.here hx rfl (hb hby at_162) rfl ?_
    show Steps p.tables e below (T49.setTop (mkF m 164 #[.val (.int p0), .val (.int p1), .val (.int p2), .val (.int p3), .val (.int p4), .val (.int p5), .val (.int n), .val (.int t), .val (.int g3), .val (.ref ar), .val (.ref ob), .val (.ref af), .val (.ref bg)] [(.int n), (.int (0 : Int32)), (.ref ar), (.ref bg)])) _
    refine XS.iload X49.here hx rfl (hb hby at_164) rfl ?_
    show Steps p.tables e below (T49.setTop (mkF m 166 #[.val (.int p0), .val (.int p1), .val (.int p2), .val (.int p3), .val (.int p4), .val (.int p5), .val (.int n), .val (.int t), .val (.int g3), .val (.ref ar), .val (.ref ob), .val (.ref af), .val (.ref bg)] [(.int t), (.int n), (.int (0 : Int32)), (.ref ar), (.ref bg)])) _
    refine XS.iloadN X49.here hx rfl (hb hby at_166) rfl ?_
    show Steps p.tables e below (T49.setTop (mkF m 167 #[.val (.int p0), .val (.int p1), .val (.int p2), .val (.int p3), .val (.int p4), .val (.int p5), .val (.int n), .val (.int t), .val (.int g3), .val (.ref ar), .val (.ref ob), .val (.ref af), .val (.ref bg)] [(.int p2), (.int t), (.int n), (.int (0 : Int32)), (.ref ar), (.ref bg)])) _
    refine XS.iloadN X49.here hx rfl (hb hby at_167) rfl ?_
    show Steps p.tables e below (T49.setTop (mkF m 168 #[.val (.int p0), .val (.int p1), .val (.int p2), .val (.int p3), .val (.int p4), .val (.int p5), .val (.int n), .val (.int t), .val (.int g3), .val (.ref ar), .val (.ref ob), .val (.ref af), .val (.ref bg)] [(.int p3), (.int p2), (.int t), (.int n), (.int (0 : Int32)), (.ref ar), (.ref bg)])) _
    exact κ)
  obtain ⟨_, _, ⟨T53, L53, k53, n53⟩, -, X53, ⟨Lc53, hQ53, l53, y53, z53⟩, st53⟩ := Jvm.LawKit.callS X49 hx (y := (⟨"com/example/qualoom/qualoom/solver/IndividualWithPinLaw", "slot", "([I[IIIIII)Z"⟩ : MethodName)) hown (mvT hZ (hw _ (List.mem_of_getElem? (i := 46) rfl))) (mvT hZ (hw _ (List.mem_of_getElem? (i := 47) rfl))) (mvT hZ (hw _ (List.mem_of_getElem? (i := 48) rfl))) (mvT hZ (hw _ (List.mem_of_getElem? (i := 49) rfl))) (by decide) (backOf (W := 0) (rm7 l Z a0 hw [] bg ar (0 : Int32) n t p2 p3 k5 k5 ([(.int p3), (.int p4), (.int p5), (.int g3)].set t.toNatClampNeg (.int p2)) [(.int p3), (.int p4), (.int p5), (.int g3)] T49.heap n0 Z49 Va38_49 V_ar_49 (by decide) (fun _ => ⟨s0, rfl⟩)) hZ (hw _ (List.mem_of_getElem? (i := 49) rfl)) (hw _ (List.mem_of_getElem? (i := 48) rfl)) (by decide) (by decide)) (g := (mkF m 168 #[.val (.int p0), .val (.int p1), .val (.int p2), .val (.int p3), .val (.int p4), .val (.int p5), .val (.int n), .val (.int t), .val (.int g3), .val (.ref ar), .val (.ref ob), .val (.ref af), .val (.ref bg)] [(.int p3), (.int p2), (.int t), (.int n), (.int (0 : Int32)), (.ref ar), (.ref bg)])) rfl (by rw [hml]; rfl) (argsL := [(.ref bg), (.ref ar), (.int (0 : Int32)), (.int n), (.int t), (.int p2), (.int p3)]) (rest := []) (lenOf pd_5 rfl) rfl (by show 2 * 0 + _ ≤ _; exact Nat.le_of_eq rfl) (hb hby at_168) (fun _ _ => ⟨rfl, rfl, (by decide : 4 + 0 ≤ _), (by decide : 12 + 0 ≤ _)⟩)
  dsimp only [Pt.U, Pt.locs, Pt.cells, Pt.slots] at X53 l53 y53 z53 st53 hQ53
  subst l53 y53 z53
  obtain ⟨rfl, Nq53, hh53⟩ := hQ53
  have V_ar_53 : Arv Z T53.heap ar k5 .int n [(.int p3), (.int p4), (.int p5), (.int g3)] (.int (0 : Int32)) := by rw [hh53]; exact V_ar_49
  have B5_53 : Exa Z T53.heap ar "[I" := by rw [hh53]; exact B5_49
  have A32_53 : Exa Z T53.heap ob "com/example/qualoom/qualoom/solver/GeneticOperators$Individual" := by rw [hh53]; exact A32_49
  have Fg35_53 : Fld Z T53.heap ob "com/example/qualoom/qualoom/solver/GeneticOperators$Individual" "genes" "[I" (.ref ar) := by rw [hh53]; exact Fg35_49
  have Fs35_53 : Fld Z T53.heap ob "com/example/qualoom/qualoom/solver/GeneticOperators$Individual" "score" "Lcom/example/qualoom/qualoom/evaluation/Score;" .null := by rw [hh53]; exact Fs35_49
  have Ea38_53 : Exa Z T53.heap af "com/example/qualoom/qualoom/solver/GeneticOperators$Individual" := by rw [hh53]; exact Ea38_49
  have Fag38_53 : Fld Z T53.heap af "com/example/qualoom/qualoom/solver/GeneticOperators$Individual" "genes" "[I" (.ref bg) := by rw [hh53]; exact Fag38_49
  have Fas38_53 : Fld Z T53.heap af "com/example/qualoom/qualoom/solver/GeneticOperators$Individual" "score" "Lcom/example/qualoom/qualoom/evaluation/Score;" .null := by rw [hh53]; exact Fas38_49
  have Va38_53 : Arv Z T53.heap bg k5 .int n ([(.int p3), (.int p4), (.int p5), (.int g3)].set t.toNatClampNeg (.int p2)) (.int (0 : Int32)) := by rw [hh53]; exact Va38_49
  have Z53 : n0 ≤ T53.heap.size := by rw [hh53]; exact Z49
  have N53 := Fr.app N49 Nq53
  have pre54 := fun τ (κ : Steps p.tables e below (T53.setTop (mkF m 171 #[.val (.int p0), .val (.int p1), .val (.int p2), .val (.int p3), .val (.int p4), .val (.int p5), .val (.int n), .val (.int t), .val (.int g3), .val (.ref ar), .val (.ref ob), .val (.ref af), .val (.ref bg)] [(.int (1 : Int32))])) τ) => pre52 τ (st53 _ κ)
  have pre55 := fun τ (κ : Steps p.tables e below (T53.setTop (mkF m 186 #[.val (.int p0), .val (.int p1), .val (.int p2), .val (.int p3), .val (.int p4), .val (.int p5), .val (.int n), .val (.int t), .val (.int g3), .val (.ref ar), .val (.ref ob), .val (.ref af), .val (.ref bg)] [(.int p4), (.int p2), (.int t), (.int n), (.int (1 : Int32)), (.ref ar), (.ref bg)])) τ) => pre54 τ (by
    refine XS.ifNo X53.here hx rfl (hb hby at_171) rfl ((if0 _ _).trans (feq (by decide)).1) ?_
    show Steps p.tables e below (T53.setTop (mkF m 174 #[.val (.int p0), .val (.int p1), .val (.int p2), .val (.int p3), .val (.int p4), .val (.int p5), .val (.int n), .val (.int t), .val (.int g3), .val (.ref ar), .val (.ref ob), .val (.ref af), .val (.ref bg)] [])) _
    refine XS.aload X53.here hx rfl (hb hby at_174) rfl rfl ?_
    show Steps p.tables e below (T53.setTop (mkF m 176 #[.val (.int p0), .val (.int p1), .val (.int p2), .val (.int p3), .val (.int p4), .val (.int p5), .val (.int n), .val (.int t), .val (.int g3), .val (.ref ar), .val (.ref ob), .val (.ref af), .val (.ref bg)] [(.ref bg)])) _
    refine XS.aload X53.here hx rfl (hb hby at_176) rfl rfl ?_
    show Steps p.tables e below (T53.setTop (mkF m 178 #[.val (.int p0), .val (.int p1), .val (.int p2), .val (.int p3), .val (.int p4), .val (.int p5), .val (.int n), .val (.int t), .val (.int g3), .val (.ref ar), .val (.ref ob), .val (.ref af), .val (.ref bg)] [(.ref ar), (.ref bg)])) _
    refine XS.iconst X53.here hx rfl (hb hby at_178) ?_
    show Steps p.tables e below (T53.setTop (mkF m 179 #[.val (.int p0), .val (.int p1), .val (.int p2), .val (.int p3), .val (.int p4), .val (.int p5), .val (.int n), .val (.int t), .val (.int g3), .val (.ref ar), .val (.ref ob), .val (.ref af), .val (.ref bg)] [(.int (1 : Int32)), (.ref ar), (.ref bg)])) _
    refine XS.iload X53.here hx rfl (hb hby at_179) rfl ?_
    show Steps p.tables e below (T53.setTop (mkF m 181 #[.val (.int p0), .val (.int p1), .val (.int p2), .val (.int p3), .val (.int p4), .val (.int p5), .val (.int n), .val (.int t), .val (.int g3), .val (.ref ar), .val (.ref ob), .val (.ref af), .val (.ref bg)] [(.int n), (.int (1 : Int32)), (.ref ar), (.ref bg)])) _
    refine XS.iload X53.here hx rfl (hb hby at_181) rfl ?_
    show Steps p.tables e below (T53.setTop (mkF m 183 #[.val (.int p0), .val (.int p1), .val (.int p2), .val (.int p3), .val (.int p4), .val (.int p5), .val (.int n), .val (.int t), .val (.int g3), .val (.ref ar), .val (.ref ob), .val (.ref af), .val (.ref bg)] [(.int t), (.int n), (.int (1 : Int32)), (.ref ar), (.ref bg)])) _
    refine XS.iloadN X53.here hx rfl (hb hby at_183) rfl ?_
    show Steps p.tables e below (T53.setTop (mkF m 184 #[.val (.int p0), .val (.int p1), .val (.int p2), .val (.int p3), .val (.int p4), .val (.int p5), .val (.int n), .val (.int t), .val (.int g3), .val (.ref ar), .val (.ref ob), .val (.ref af), .val (.ref bg)] [(.int p2), (.int t), (.int n), (.int (1 : Int32)), (.ref ar), (.ref bg)])) _
    refine XS.iload X53.here hx rfl (hb hby at_184) rfl ?_
    show Steps p.tables e below (T53.setTop (mkF m 186 #[.val (.int p0), .val (.int p1), .val (.int p2), .val (.int p3), .val (.int p4), .val (.int p5), .val (.int n), .val (.int t), .val (.int g3), .val (.ref ar), .val (.ref ob), .val (.ref af), .val (.ref bg)] [(.int p4), (.int p2), (.int t), (.int n), (.int (1 : Int32)), (.ref ar), (.ref bg)])) _
    exact κ)
  obtain ⟨_, _, ⟨T56, L56, k56, n56⟩, -, X56, ⟨Lc56, hQ56, l56, y56, z56⟩, st56⟩ := Jvm.LawKit.callS X53 hx (y := (⟨"com/example/qualoom/qualoom/solver/IndividualWithPinLaw", "slot", "([I[IIIIII)Z"⟩ : MethodName)) hown (mvT hZ (hw _ (List.mem_of_getElem? (i := 46) rfl))) (mvT hZ (hw _ (List.mem_of_getElem? (i := 47) rfl))) (mvT hZ (hw _ (List.mem_of_getElem? (i := 48) rfl))) (mvT hZ (hw _ (List.mem_of_getElem? (i := 49) rfl))) (by decide) (backOf (W := 0) (rm7 l Z a0 hw [] bg ar (1 : Int32) n t p2 p4 k5 k5 ([(.int p3), (.int p4), (.int p5), (.int g3)].set t.toNatClampNeg (.int p2)) [(.int p3), (.int p4), (.int p5), (.int g3)] T53.heap n0 Z53 Va38_53 V_ar_53 (by decide) (fun _ => ⟨s1, rfl⟩)) hZ (hw _ (List.mem_of_getElem? (i := 49) rfl)) (hw _ (List.mem_of_getElem? (i := 48) rfl)) (by decide) (by decide)) (g := (mkF m 186 #[.val (.int p0), .val (.int p1), .val (.int p2), .val (.int p3), .val (.int p4), .val (.int p5), .val (.int n), .val (.int t), .val (.int g3), .val (.ref ar), .val (.ref ob), .val (.ref af), .val (.ref bg)] [(.int p4), (.int p2), (.int t), (.int n), (.int (1 : Int32)), (.ref ar), (.ref bg)])) rfl (by rw [hml]; rfl) (argsL := [(.ref bg), (.ref ar), (.int (1 : Int32)), (.int n), (.int t), (.int p2), (.int p4)]) (rest := []) (lenOf pd_5 rfl) rfl (by show 2 * 0 + _ ≤ _; exact Nat.le_of_eq rfl) (hb hby at_186) (fun _ _ => ⟨rfl, rfl, (by decide : 4 + 0 ≤ _), (by decide : 12 + 0 ≤ _)⟩)
  dsimp only [Pt.U, Pt.locs, Pt.cells, Pt.slots] at X56 l56 y56 z56 st56 hQ56
  subst l56 y56 z56
  obtain ⟨rfl, Nq56, hh56⟩ := hQ56
  have V_ar_56 : Arv Z T56.heap ar k5 .int n [(.int p3), (.int p4), (.int p5), (.int g3)] (.int (0 : Int32)) := by rw [hh56]; exact V_ar_53
  have B5_56 : Exa Z T56.heap ar "[I" := by rw [hh56]; exact B5_53
  have A32_56 : Exa Z T56.heap ob "com/example/qualoom/qualoom/solver/GeneticOperators$Individual" := by rw [hh56]; exact A32_53
  have Fg35_56 : Fld Z T56.heap ob "com/example/qualoom/qualoom/solver/GeneticOperators$Individual" "genes" "[I" (.ref ar) := by rw [hh56]; exact Fg35_53
  have Fs35_56 : Fld Z T56.heap ob "com/example/qualoom/qualoom/solver/GeneticOperators$Individual" "score" "Lcom/example/qualoom/qualoom/evaluation/Score;" .null := by rw [hh56]; exact Fs35_53
  have Ea38_56 : Exa Z T56.heap af "com/example/qualoom/qualoom/solver/GeneticOperators$Individual" := by rw [hh56]; exact Ea38_53
  have Fag38_56 : Fld Z T56.heap af "com/example/qualoom/qualoom/solver/GeneticOperators$Individual" "genes" "[I" (.ref bg) := by rw [hh56]; exact Fag38_53
  have Fas38_56 : Fld Z T56.heap af "com/example/qualoom/qualoom/solver/GeneticOperators$Individual" "score" "Lcom/example/qualoom/qualoom/evaluation/Score;" .null := by rw [hh56]; exact Fas38_53
  have Va38_56 : Arv Z T56.heap bg k5 .int n ([(.int p3), (.int p4), (.int p5), (.int g3)].set t.toNatClampNeg (.int p2)) (.int (0 : Int32)) := by rw [hh56]; exact Va38_53
  have Z56 : n0 ≤ T56.heap.size := by rw [hh56]; exact Z53
  have N56 := Fr.app N53 Nq56
  have pre57 := fun τ (κ : Steps p.tables e below (T56.setTop (mkF m 189 #[.val (.int p0), .val (.int p1), .val (.int p2), .val (.int p3), .val (.int p4), .val (.int p5), .val (.int n), .val (.int t), .val (.int g3), .val (.ref ar), .val (.ref ob), .val (.ref af), .val (.ref bg)] [(.int (1 : Int32))])) τ) => pre55 τ (st56 _ κ)
  have pre58 := fun τ (κ : Steps p.tables e below (T56.setTop (mkF m 204 #[.val (.int p0), .val (.int p1), .val (.int p2), .val (.int p3), .val (.int p4), .val (.int p5), .val (.int n), .val (.int t), .val (.int g3), .val (.ref ar), .val (.ref ob), .val (.ref af), .val (.ref bg)] [(.int p5), (.int p2), (.int t), (.int n), (.int (2 : Int32)), (.ref ar), (.ref bg)])) τ) => pre57 τ (by
    refine XS.ifNo X56.here hx rfl (hb hby at_189) rfl ((if0 _ _).trans (feq (by decide)).1) ?_
    show Steps p.tables e below (T56.setTop (mkF m 192 #[.val (.int p0), .val (.int p1), .val (.int p2), .val (.int p3), .val (.int p4), .val (.int p5), .val (.int n), .val (.int t), .val (.int g3), .val (.ref ar), .val (.ref ob), .val (.ref af), .val (.ref bg)] [])) _
    refine XS.aload X56.here hx rfl (hb hby at_192) rfl rfl ?_
    show Steps p.tables e below (T56.setTop (mkF m 194 #[.val (.int p0), .val (.int p1), .val (.int p2), .val (.int p3), .val (.int p4), .val (.int p5), .val (.int n), .val (.int t), .val (.int g3), .val (.ref ar), .val (.ref ob), .val (.ref af), .val (.ref bg)] [(.ref bg)])) _
    refine XS.aload X56.here hx rfl (hb hby at_194) rfl rfl ?_
    show Steps p.tables e below (T56.setTop (mkF m 196 #[.val (.int p0), .val (.int p1), .val (.int p2), .val (.int p3), .val (.int p4), .val (.int p5), .val (.int n), .val (.int t), .val (.int g3), .val (.ref ar), .val (.ref ob), .val (.ref af), .val (.ref bg)] [(.ref ar), (.ref bg)])) _
    refine XS.iconst X56.here hx rfl (hb hby at_196) ?_
    show Steps p.tables e below (T56.setTop (mkF m 197 #[.val (.int p0), .val (.int p1), .val (.int p2), .val (.int p3), .val (.int p4), .val (.int p5), .val (.int n), .val (.int t), .val (.int g3), .val (.ref ar), .val (.ref ob), .val (.ref af), .val (.ref bg)] [(.int (2 : Int32)), (.ref ar), (.ref bg)])) _
    refine XS.iload X56.here hx rfl (hb hby at_197) rfl ?_
    show Steps p.tables e below (T56.setTop (mkF m 199 #[.val (.int p0), .val (.int p1), .val (.int p2), .val (.int p3), .val (.int p4), .val (.int p5), .val (.int n), .val (.int t), .val (.int g3), .val (.ref ar), .val (.ref ob), .val (.ref af), .val (.ref bg)] [(.int n), (.int (2 : Int32)), (.ref ar), (.ref bg)])) _
    refine XS.iload X56.here hx rfl (hb hby at_199) rfl ?_
    show Steps p.tables e below (T56.setTop (mkF m 201 #[.val (.int p0), .val (.int p1), .val (.int p2), .val (.int p3), .val (.int p4), .val (.int p5), .val (.int n), .val (.int t), .val (.int g3), .val (.ref ar), .val (.ref ob), .val (.ref af), .val (.ref bg)] [(.int t), (.int n), (.int (2 : Int32)), (.ref ar), (.ref bg)])) _
    refine XS.iloadN X56.here hx rfl (hb hby at_201) rfl ?_
    show Steps p.tables e below (T56.setTop (mkF m 202 #[.val (.int p0), .val (.int p1), .val (.int p2), .val (.int p3), .val (.int p4), .val (.int p5), .val (.int n), .val (.int t), .val (.int g3), .val (.ref ar), .val (.ref ob), .val (.ref af), .val (.ref bg)] [(.int p2), (.int t), (.int n), (.int (2 : Int32)), (.ref ar), (.ref bg)])) _
    refine XS.iload X56.here hx rfl (hb hby at_202) rfl ?_
    show Steps p.tables e below (T56.setTop (mkF m 204 #[.val (.int p0), .val (.int p1), .val (.int p2), .val (.int p3), .val (.int p4), .val (.int p5), .val (.int n), .val (.int t), .val (.int g3), .val (.ref ar), .val (.ref ob), .val (.ref af), .val (.ref bg)] [(.int p5), (.int p2), (.int t), (.int n), (.int (2 : Int32)), (.ref ar), (.ref bg)])) _
    exact κ)
  obtain ⟨_, _, ⟨T59, L59, k59, n59⟩, -, X59, ⟨Lc59, hQ59, l59, y59, z59⟩, st59⟩ := Jvm.LawKit.callS X56 hx (y := (⟨"com/example/qualoom/qualoom/solver/IndividualWithPinLaw", "slot", "([I[IIIIII)Z"⟩ : MethodName)) hown (mvT hZ (hw _ (List.mem_of_getElem? (i := 46) rfl))) (mvT hZ (hw _ (List.mem_of_getElem? (i := 47) rfl))) (mvT hZ (hw _ (List.mem_of_getElem? (i := 48) rfl))) (mvT hZ (hw _ (List.mem_of_getElem? (i := 49) rfl))) (by decide) (backOf (W := 0) (rm7 l Z a0 hw [] bg ar (2 : Int32) n t p2 p5 k5 k5 ([(.int p3), (.int p4), (.int p5), (.int g3)].set t.toNatClampNeg (.int p2)) [(.int p3), (.int p4), (.int p5), (.int g3)] T56.heap n0 Z56 Va38_56 V_ar_56 (by decide) (fun _ => ⟨s2, rfl⟩)) hZ (hw _ (List.mem_of_getElem? (i := 49) rfl)) (hw _ (List.mem_of_getElem? (i := 48) rfl)) (by decide) (by decide)) (g := (mkF m 204 #[.val (.int p0), .val (.int p1), .val (.int p2), .val (.int p3), .val (.int p4), .val (.int p5), .val (.int n), .val (.int t), .val (.int g3), .val (.ref ar), .val (.ref ob), .val (.ref af), .val (.ref bg)] [(.int p5), (.int p2), (.int t), (.int n), (.int (2 : Int32)), (.ref ar), (.ref bg)])) rfl (by rw [hml]; rfl) (argsL := [(.ref bg), (.ref ar), (.int (2 : Int32)), (.int n), (.int t), (.int p2), (.int p5)]) (rest := []) (lenOf pd_5 rfl) rfl (by show 2 * 0 + _ ≤ _; exact Nat.le_of_eq rfl) (hb hby at_204) (fun _ _ => ⟨rfl, rfl, (by decide : 4 + 0 ≤ _), (by decide : 12 + 0 ≤ _)⟩)
  dsimp only [Pt.U, Pt.locs, Pt.cells, Pt.slots] at X59 l59 y59 z59 st59 hQ59
  subst l59 y59 z59
  obtain ⟨rfl, Nq59, hh59⟩ := hQ59
  have V_ar_59 : Arv Z T59.heap ar k5 .int n [(.int p3), (.int p4), (.int p5), (.int g3)] (.int (0 : Int32)) := by rw [hh59]; exact V_ar_56
  have B5_59 : Exa Z T59.heap ar "[I" := by rw [hh59]; exact B5_56
  have A32_59 : Exa Z T59.heap ob "com/example/qualoom/qualoom/solver/GeneticOperators$Individual" := by rw [hh59]; exact A32_56
  have Fg35_59 : Fld Z T59.heap ob "com/example/qualoom/qualoom/solver/GeneticOperators$Individual" "genes" "[I" (.ref ar) := by rw [hh59]; exact Fg35_56
  have Fs35_59 : Fld Z T59.heap ob "com/example/qualoom/qualoom/solver/GeneticOperators$Individual" "score" "Lcom/example/qualoom/qualoom/evaluation/Score;" .null := by rw [hh59]; exact Fs35_56
  have Ea38_59 : Exa Z T59.heap af "com/example/qualoom/qualoom/solver/GeneticOperators$Individual" := by rw [hh59]; exact Ea38_56
  have Fag38_59 : Fld Z T59.heap af "com/example/qualoom/qualoom/solver/GeneticOperators$Individual" "genes" "[I" (.ref bg) := by rw [hh59]; exact Fag38_56
  have Fas38_59 : Fld Z T59.heap af "com/example/qualoom/qualoom/solver/GeneticOperators$Individual" "score" "Lcom/example/qualoom/qualoom/evaluation/Score;" .null := by rw [hh59]; exact Fas38_56
  have Va38_59 : Arv Z T59.heap bg k5 .int n ([(.int p3), (.int p4), (.int p5), (.int g3)].set t.toNatClampNeg (.int p2)) (.int (0 : Int32)) := by rw [hh59]; exact Va38_56
  have Z59 : n0 ≤ T59.heap.size := by rw [hh59]; exact Z56
  have N59 := Fr.app N56 Nq59
  have pre60 := fun τ (κ : Steps p.tables e below (T59.setTop (mkF m 207 #[.val (.int p0), .val (.int p1), .val (.int p2), .val (.int p3), .val (.int p4), .val (.int p5), .val (.int n), .val (.int t), .val (.int g3), .val (.ref ar), .val (.ref ob), .val (.ref af), .val (.ref bg)] [(.int (1 : Int32))])) τ) => pre58 τ (st59 _ κ)
  have pre61 := fun τ (κ : Steps p.tables e below (T59.setTop (mkF m 222 #[.val (.int p0), .val (.int p1), .val (.int p2), .val (.int p3), .val (.int p4), .val (.int p5), .val (.int n), .val (.int t), .val (.int g3), .val (.ref ar), .val (.ref ob), .val (.ref af), .val (.ref bg)] [(.int g3), (.int p2), (.int t), (.int n), (.int (3 : Int32)), (.ref ar), (.ref bg)])) τ) => pre60 τ (by
    refine XS.ifNo X59.here hx rfl (hb hby at_207) rfl ((if0 _ _).trans (feq (by decide)).1) ?_
    show Steps p.tables e below (T59.setTop (mkF m 210 #[.val (.int p0), .val (.int p1), .val (.int p2), .val (.int p3), .val (.int p4), .val (.int p5), .val (.int n), .val (.int t), .val (.int g3), .val (.ref ar), .val (.ref ob), .val (.ref af), .val (.ref bg)] [])) _
    refine XS.aload X59.here hx rfl (hb hby at_210) rfl rfl ?_
    show Steps p.tables e below (T59.setTop (mkF m 212 #[.val (.int p0), .val (.int p1), .val (.int p2), .val (.int p3), .val (.int p4), .val (.int p5), .val (.int n), .val (.int t), .val (.int g3), .val (.ref ar), .val (.ref ob), .val (.ref af), .val (.ref bg)] [(.ref bg)])) _
    refine XS.aload X59.here hx rfl (hb hby at_212) rfl rfl ?_
    show Steps p.tables e below (T59.setTop (mkF m 214 #[.val (.int p0), .val (.int p1), .val (.int p2), .val (.int p3), .val (.int p4), .val (.int p5), .val (.int n), .val (.int t), .val (.int g3), .val (.ref ar), .val (.ref ob), .val (.ref af), .val (.ref bg)] [(.ref ar), (.ref bg)])) _
    refine XS.iconst X59.here hx rfl (hb hby at_214) ?_
    show Steps p.tables e below (T59.setTop (mkF m 215 #[.val (.int p0), .val (.int p1), .val (.int p2), .val (.int p3), .val (.int p4), .val (.int p5), .val (.int n), .val (.int t), .val (.int g3), .val (.ref ar), .val (.ref ob), .val (.ref af), .val (.ref bg)] [(.int (3 : Int32)), (.ref ar), (.ref bg)])) _
    refine XS.iload X59.here hx rfl (hb hby at_215) rfl ?_
    show Steps p.tables e below (T59.setTop (mkF m 217 #[.val (.int p0), .val (.int p1), .val (.int p2), .val (.int p3), .val (.int p4), .val (.int p5), .val (.int n), .val (.int t), .val (.int g3), .val (.ref ar), .val (.ref ob), .val (.ref af), .val (.ref bg)] [(.int n), (.int (3 : Int32)), (.ref ar), (.ref bg)])) _
    refine XS.iload X59.here hx rfl (hb hby at_217) rfl ?_
    show Steps p.tables e below (T59.setTop (mkF m 219 #[.val (.int p0), .val (.int p1), .val (.int p2), .val (.int p3), .val (.int p4), .val (.int p5), .val (.int n), .val (.int t), .val (.int g3), .val (.ref ar), .val (.ref ob), .val (.ref af), .val (.ref bg)] [(.int t), (.int n), (.int (3 : Int32)), (.ref ar), (.ref bg)])) _
    refine XS.iloadN X59.here hx rfl (hb hby at_219) rfl ?_
    show Steps p.tables e below (T59.setTop (mkF m 220 #[.val (.int p0), .val (.int p1), .val (.int p2), .val (.int p3), .val (.int p4), .val (.int p5), .val (.int n), .val (.int t), .val (.int g3), .val (.ref ar), .val (.ref ob), .val (.ref af), .val (.ref bg)] [(.int p2), (.int t), (.int n), (.int (3 : Int32)), (.ref ar), (.ref bg)])) _
    refine XS.iload X59.here hx rfl (hb hby at_220) rfl ?_
    show Steps p.tables e below (T59.setTop (mkF m 222 #[.val (.int p0), .val (.int p1), .val (.int p2), .val (.int p3), .val (.int p4), .val (.int p5), .val (.int n), .val (.int t), .val (.int g3), .val (.ref ar), .val (.ref ob), .val (.ref af), .val (.ref bg)] [(.int g3), (.int p2), (.int t), (.int n), (.int (3 : Int32)), (.ref ar), (.ref bg)])) _
    exact κ)
  obtain ⟨_, _, ⟨T62, L62, k62, n62⟩, -, X62, ⟨Lc62, hQ62, l62, y62, z62⟩, st62⟩ := Jvm.LawKit.callS X59 hx (y := (⟨"com/example/qualoom/qualoom/solver/IndividualWithPinLaw", "slot", "([I[IIIIII)Z"⟩ : MethodName)) hown (mvT hZ (hw _ (List.mem_of_getElem? (i := 46) rfl))) (mvT hZ (hw _ (List.mem_of_getElem? (i := 47) rfl))) (mvT hZ (hw _ (List.mem_of_getElem? (i := 48) rfl))) (mvT hZ (hw _ (List.mem_of_getElem? (i := 49) rfl))) (by decide) (backOf (W := 0) (rm7 l Z a0 hw [] bg ar (3 : Int32) n t p2 g3 k5 k5 ([(.int p3), (.int p4), (.int p5), (.int g3)].set t.toNatClampNeg (.int p2)) [(.int p3), (.int p4), (.int p5), (.int g3)] T59.heap n0 Z59 Va38_59 V_ar_59 (by decide) (fun _ => ⟨s3, rfl⟩)) hZ (hw _ (List.mem_of_getElem? (i := 49) rfl)) (hw _ (List.mem_of_getElem? (i := 48) rfl)) (by decide) (by decide)) (g := (mkF m 222 #[.val (.int p0), .val (.int p1), .val (.int p2), .val (.int p3), .val (.int p4), .val (.int p5), .val (.int n), .val (.int t), .val (.int g3), .val (.ref ar), .val (.ref ob), .val (.ref af), .val (.ref bg)] [(.int g3), (.int p2), (.int t), (.int n), (.int (3 : Int32)), (.ref ar), (.ref bg)])) rfl (by rw [hml]; rfl) (argsL := [(.ref bg), (.ref ar), (.int (3 : Int32)), (.int n), (.int t), (.int p2), (.int g3)]) (rest := []) (lenOf pd_5 rfl) rfl (by show 2 * 0 + _ ≤ _; exact Nat.le_of_eq rfl) (hb hby at_222) (fun _ _ => ⟨rfl, rfl, (by decide : 4 + 0 ≤ _), (by decide : 12 + 0 ≤ _)⟩)
  dsimp only [Pt.U, Pt.locs, Pt.cells, Pt.slots] at X62 l62 y62 z62 st62 hQ62
  subst l62 y62 z62
  obtain ⟨rfl, Nq62, hh62⟩ := hQ62
  have V_ar_62 : Arv Z T62.heap ar k5 .int n [(.int p3), (.int p4), (.int p5), (.int g3)] (.int (0 : Int32)) := by rw [hh62]; exact V_ar_59
  have B5_62 : Exa Z T62.heap ar "[I" := by rw [hh62]; exact B5_59
  have A32_62 : Exa Z T62.heap ob "com/example/qualoom/qualoom/solver/GeneticOperators$Individual" := by rw [hh62]; exact A32_59
  have Fg35_62 : Fld Z T62.heap ob "com/example/qualoom/qualoom/solver/GeneticOperators$Individual" "genes" "[I" (.ref ar) := by rw [hh62]; exact Fg35_59
  have Fs35_62 : Fld Z T62.heap ob "com/example/qualoom/qualoom/solver/GeneticOperators$Individual" "score" "Lcom/example/qualoom/qualoom/evaluation/Score;" .null := by rw [hh62]; exact Fs35_59
  have Ea38_62 : Exa Z T62.heap af "com/example/qualoom/qualoom/solver/GeneticOperators$Individual" := by rw [hh62]; exact Ea38_59
  have Fag38_62 : Fld Z T62.heap af "com/example/qualoom/qualoom/solver/GeneticOperators$Individual" "genes" "[I" (.ref bg) := by rw [hh62]; exact Fag38_59
  have Fas38_62 : Fld Z T62.heap af "com/example/qualoom/qualoom/solver/GeneticOperators$Individual" "score" "Lcom/example/qualoom/qualoom/evaluation/Score;" .null := by rw [hh62]; exact Fas38_59
  have Va38_62 : Arv Z T62.heap bg k5 .int n ([(.int p3), (.int p4), (.int p5), (.int g3)].set t.toNatClampNeg (.int p2)) (.int (0 : Int32)) := by rw [hh62]; exact Va38_59
  have Z62 : n0 ≤ T62.heap.size := by rw [hh62]; exact Z59
  have N62 := Fr.app N59 Nq62
  have pre63 := fun τ (κ : Steps p.tables e below (T62.setTop (mkF m 225 #[.val (.int p0), .val (.int p1), .val (.int p2), .val (.int p3), .val (.int p4), .val (.int p5), .val (.int n), .val (.int t), .val (.int g3), .val (.ref ar), .val (.ref ob), .val (.ref af), .val (.ref bg)] [(.int (1 : Int32))])) τ) => pre61 τ (st62 _ κ)
  have pre64 := fun τ (κ : Steps p.tables e below (T62.setTop (mkF m 233 #[.val (.int p0), .val (.int p1), .val (.int p2), .val (.int p3), .val (.int p4), .val (.int p5), .val (.int n), .val (.int t), .val (.int g3), .val (.ref ar), .val (.ref ob), .val (.ref af), .val (.ref bg)] [(.int (1 : Int32))])) τ) => pre63 τ (by
    refine XS.ifNo X62.here hx rfl (hb hby at_225) rfl ((if0 _ _).trans (feq (by decide)).1) ?_
    show Steps p.tables e below (T62.setTop (mkF m 228 #[.val (.int p0), .val (.int p1), .val (.int p2), .val (.int p3), .val (.int p4), .val (.int p5), .val (.int n), .val (.int t), .val (.int g3), .val (.ref ar), .val (.ref ob), .val (.ref af), .val (.ref bg)] [])) _
    refine XS.iconst X62.here hx rfl (hb hby at_228) ?_
    show Steps p.tables e below (T62.setTop (mkF m 229 #[.val (.int p0), .val (.int p1), .val (.int p2), .val (.int p3), .val (.int p4), .val (.int p5), .val (.int n), .val (.int t), .val (.int g3), .val (.ref ar), .val (.ref ob), .val (.ref af), .val (.ref bg)] [(.int (1 : Int32))])) _
    refine XS.goto X62.here hx rfl (pc0 := 229) (pc' := 233) rfl (hb hby at_229) (by decide) (by decide) ?_
    show Steps p.tables e below (T62.setTop (mkF m 233 #[.val (.int p0), .val (.int p1), .val (.int p2), .val (.int p3), .val (.int p4), .val (.int p5), .val (.int n), .val (.int t), .val (.int g3), .val (.ref ar), .val (.ref ob), .val (.ref af), .val (.ref bg)] [(.int (1 : Int32))])) _
    exact κ)
  obtain ⟨fs, hr, hrun, hended, hW, hsame⟩ := X62.leave (v := some (.int (1 : Int32))) (fun h => by rw [Bd.returns] at h; cases h)
  refine ⟨_, _, pre64 _ ?_, hrun, hended, _, _, rfl, ?_, ⟨_, rfl⟩, hW, hsame.mono (by decide) (by decide)⟩
  · exact retN X62 hx (t := .boolean) Bd.returns (by simp) (hb hby at_233) hr
  · show Q0 Z p0 p1 p2 p3 p4 p5 h0 n0 _ T62.heap _
    exact ⟨rfl, N62⟩
set_option maxRecDepth 65536 in
set_option maxHeartbeats 40000000 in
theorem comes_1 {Post : Tables → Env → Array Value → State → Outcome → State → Prop} (hpost : ∀ tb e args s v u, (limb_1_1.after args s (.returned v) u = true ∧ limb_1_2.after args s (.returned v) u = true ∧ True) → FrameEnd s (.returned v) u (Jvm.fieldLocs frame_1_writes args s ++ Jvm.arrayLocs frame_1_arrays args s ++ Jvm.staticLocs frame_1_statics s) 16 128 → Post tb e args s (.returned v) u) :
    ArmFor flags0 classFile x code maxLocals ret World_1 tables_1 room_1 Calls_1 rest_1 Pre_1 Post := by
  intro l hfl _ _ p e ha hc hk s m args below hf hA hF happ hP
  obtain ⟨hcalls, hrest, hpre⟩ := hP
  obtain ⟨-, -, -, hnamed, -, -, -, hat⟩ := (Spec.applies_iff hf).mp happ
  obtain ⟨hg, hn⟩ := and_e (Cond.before_iff.mp (show (Jvm.Cond.and given_1 narrow_1).before args s = true from hpre))
  obtain ⟨gc, ga⟩ := and_e hg
  obtain ⟨ga0, gr0⟩ := and_e ga
  obtain ⟨ga1, gr1⟩ := and_e gr0
  obtain ⟨ga2, gr2⟩ := and_e gr1
  obtain ⟨ga3, gr3⟩ := and_e gr2
  obtain ⟨ga4, gr4⟩ := and_e gr3
  obtain ⟨w0, w1, w2, w3, w4, w5, rfl⟩ : ∃ w0 w1 w2 w3 w4 w5 : Value, args = #[w0, w1, w2, w3, w4, w5] := by
    have hs : args.size = 6 := by simpa [Cond.value, given_1] using gc
    obtain ⟨L⟩ := args
    match L, hs with
    | [w0, w1, w2, w3, w4, w5], _ => exact ⟨w0, w1, w2, w3, w4, w5, rfl⟩
  have hw := fun d (hd : d ∈ tables_1) => atoms_spec (ws := Jvm.Cond.code x code maxLocals ret :: tables_1) hat d (List.mem_cons_of_mem _ hd)
  have hfit : Fit s := fun {y c} hc i hi => by
    obtain ⟨ha, rfl⟩ := Array.getElem?_eq_some_iff.mp hc
    have q := List.all_eq_true.mp ((Array.all_eq_true_iff_forall_mem.mp hF) _ (Array.getElem_mem ha)) i (List.mem_range.mpr hi)
    simpa [Array.getElem?_eq_getElem hi] using q
  obtain ⟨i0, ei0⟩ := is_v ga0
  obtain rfl : w0 = (.int i0) := Option.some.inj ei0
  obtain ⟨i1, ei1⟩ := is_v ga1
  obtain rfl : w1 = (.int i1) := Option.some.inj ei1
  obtain ⟨i2, ei2⟩ := is_v ga2
  obtain rfl : w2 = (.int i2) := Option.some.inj ei2
  obtain ⟨i3, ei3⟩ := is_v ga3
  obtain rfl : w3 = (.int i3) := Option.some.inj ei3
  obtain ⟨i4, ei4⟩ := is_v ga4
  obtain rfl : w4 = (.int i4) := Option.some.inj ei4
  obtain ⟨i5, ei5⟩ := is_v gr4
  obtain rfl : w5 = (.int i5) := Option.some.inj ei5
  obtain ⟨n, o, h1, h2, h3, _, L, rfl, ⟨rfl, N⟩, hq⟩ := rm0 l s _ hw tables_1 i0 i1 i2 i3 i4 i5 s.heap s.heap.size (Nat.le_refl _) p e ha hc hk s m _ below hf ((Spec.applies_iff_loose hf).mp happ).1 ⟨rfl, State.Warmed39.refl s, rfl⟩ trivial
  refine ⟨n, _, h1, h2, h3, hpost _ _ _ _ _ _ ⟨Cond.after_iff.mpr rfl, Cond.after_iff.mpr (eq_i res_at (Term.int_eval (1)) rfl), trivial⟩ ⟨hq.1, hq.2.1, (hq.2.2.sift fun y hy => Or.inr (N y hy)).mono (by decide) (by decide)⟩⟩
theorem main_1_1 : Claimed_1_1 := comes_1 fun _ _ _ _ _ _ h hF => ⟨h.1, hF⟩
theorem main_1_2 : Claimed_1_2 := comes_1 fun _ _ _ _ _ _ h hF => ⟨h.2.1, hF⟩
end Jvm.Pilot.@@N@@
namespace Jvm.Pilot.@@N@@
open Jvm Jvm.ClassFile Sem Op Lib Jvm.Free Jvm.Stand Jvm.Pilot.@@N@@.Jvm.D
/-! MADE BY PROGRAM (witnessworld.py) out of the Statement's table words and the real class files: 10 classes; the members and pool entries that the words name. The judged class is class 1, her method 1. -/
namespace start1
open Jvm.ClassFile
def u (s : String) : CpInfo := .utf8 (stringToUtf16 s)
/-- a pool by its gaps: so many unusable entries, then the entry; so many at the end -/
def gap : Nat → List CpInfo → List CpInfo
  | 0, r => r
  | n + 1, r => .unusable :: gap n r
def poolList (es : List (Nat × CpInfo)) (last : Nat) : List CpInfo := es.foldr (fun e r => gap e.1 (e.2 :: r)) (gap last [])
def pool (es : List (Nat × CpInfo)) (last : Nat) : Array CpInfo := ⟨poolList es last⟩
def fileOf (pool : Array CpInfo) (this : Nat) (attrs : Array Attribute := #[]) (ms : Array MethodInfo := #[]) (fl : Nat := 33) (sup : Nat := 0) (ifs : Array Nat := #[]) (fds : Array FieldInfo := #[]) : ClassFile where
  minorVersion := 0
  majorVersion := 65
  constantPool := pool
  accessFlags := fl
  thisClass := this
  superClass := sup
  interfaces := ifs
  fields := fds
  methods := ms
  attributes := attrs
def plain (name : String) (sup : Option ClassId) : Class where
  name := name
  kind := .ordinary
  loader := none
  accessFlags := 33
  super := sup
  interfaces := #[]
  cf := none
  fields := #[]
  methods := #[]
  instanceTypes := #[]
  staticTypes := #[]
  resolved := #[]
  callSites := []
  init := .initialized
  statics := none
  mirror := none

def pool0 : Array CpInfo := pool [(5, u "<init>"), (0, u "()V"), (1, .class_ 10), (1, u "java/lang/Object"), (85, u "clone"), (0, u "()Ljava/lang/Object;")] 26

def k0c0 : Code := { maxStack := 0, maxLocals := 1, code := object_method_1_code, exceptionTable := #[], attributes := #[] }
def k0m0 : Method := { name := "<init>", desc := "()V", sig := { parameters := [], returnType := none }, accessFlags := 1, code := some k0c0 }
def k0m1 : Method := { name := "clone", desc := "()Ljava/lang/Object;", sig := { parameters := [], returnType := some (.object "java/lang/Object") }, accessFlags := 260, code := none }
/-- java/lang/Object -/
def k0 : Class := { plain "java/lang/Object" none with
  accessFlags := 33
  interfaces := #[]
  cf := some (fileOf pool0 8 #[] #[{ accessFlags := 1, nameIndex := 5, descriptorIndex := 6, attributes := #[] }, { accessFlags := 260, nameIndex := 96, descriptorIndex := 97, attributes := #[] }] 33 0 #[] #[])
  fields := #[]
  methods := #[k0m0, k0m1]
  instanceTypes := #[]
  staticTypes := #[]
  resolved := Array.replicate 124 none
  statics := none }

def pool1 : Array CpInfo := pool [(2, .class_ 4), (1, u "java/lang/Object"), (0, u "<init>"), (0, u "()V"), (0, .integer 2147483647), (0, .class_ 9), (0, u "com/example/qualoom/qualoom/solver/GeneticOperators$Individual"), (0, .methodref 8 11), (0, .nameAndType 5 12), (0, u "([ILcom/example/qualoom/qualoom/evaluation/Score;)V"), (0, .methodref 8 14), (0, .nameAndType 15 16), (0, u "with"), (0, u "(IILcom/example/qualoom/qualoom/evaluation/Score;)Lcom/example/qualoom/qualoom/solver/GeneticOperators$Individual;"), (0, .methodref 8 18), (0, .nameAndType 19 20), (0, u "genes"), (0, u "()[I"), (0, .methodref 8 22), (0, .nameAndType 23 24), (0, u "score"), (0, u "()Lcom/example/qualoom/qualoom/evaluation/Score;"), (0, .methodref 26 27), (0, .class_ 28), (0, .nameAndType 29 30), (0, u "com/example/qualoom/qualoom/solver/IndividualWithPinLaw"), (0, u "slot"), (0, u "([I[IIIIII)Z"), (2, u "law"), (0, u "(IIIIII)Z")] 9

def k1m0 : Method := { name := "<init>", desc := "()V", sig := { parameters := [], returnType := none }, accessFlags := 1, code := none }
def k1c1 : Code := { maxStack := 7, maxLocals := 13, code := code, exceptionTable := #[], attributes := #[] }
def k1m1 : Method := { name := "law", desc := "(IIIIII)Z", sig := { parameters := [.int, .int, .int, .int, .int, .int], returnType := some .boolean }, accessFlags := 9, code := some k1c1 }
def k1c2 : Code := { maxStack := 2, maxLocals := 8, code := method_3_code, exceptionTable := #[], attributes := #[] }
def k1m2 : Method := { name := "slot", desc := "([I[IIIIII)Z", sig := { parameters := [(.array .int), (.array .int), .int, .int, .int, .int, .int], returnType := some .boolean }, accessFlags := 10, code := some k1c2 }
/-- com/example/qualoom/qualoom/solver/IndividualWithPinLaw -/
def k1 : Class := { plain "com/example/qualoom/qualoom/solver/IndividualWithPinLaw" (some 0) with
  accessFlags := 49
  interfaces := #[]
  cf := some (fileOf pool1 26 #[] #[{ accessFlags := 1, nameIndex := 5, descriptorIndex := 6, attributes := #[] }, { accessFlags := 9, nameIndex := 33, descriptorIndex := 34, attributes := #[] }, { accessFlags := 10, nameIndex := 29, descriptorIndex := 30, attributes := #[] }] 49 2 #[] #[])
  fields := #[]
  methods := #[k1m0, k1m1, k1m2]
  instanceTypes := #[]
  staticTypes := #[]
  resolved := Array.replicate 44 none
  statics := none }

def pool2 : Array CpInfo := pool [(1, .methodref 2 3), (0, .class_ 4), (0, .nameAndType 5 6), (0, u "java/lang/Object"), (0, u "<init>"), (0, u "()V"), (0, .class_ 8), (0, u "java/lang/Record")] 13

def k2c0 : Code := { maxStack := 1, maxLocals := 1, code := jdk_30_method_1_code, exceptionTable := #[], attributes := #[] }
def k2m0 : Method := { name := "<init>", desc := "()V", sig := { parameters := [], returnType := none }, accessFlags := 4, code := some k2c0 }
/-- java/lang/Record -/
def k2 : Class := { plain "java/lang/Record" (some 0) with
  accessFlags := 1057
  interfaces := #[]
  cf := some (fileOf pool2 7 #[] #[{ accessFlags := 4, nameIndex := 5, descriptorIndex := 6, attributes := #[] }] 1057 2 #[] #[])
  fields := #[]
  methods := #[k2m0]
  instanceTypes := #[]
  staticTypes := #[]
  resolved := Array.replicate 22 none
  statics := none }

def pool3 : Array CpInfo := pool [(1, .methodref 2 3), (0, .class_ 4), (0, .nameAndType 5 6), (0, u "java/lang/Record"), (0, u "<init>"), (0, u "()V"), (0, .fieldref 8 9), (0, .class_ 10), (0, .nameAndType 11 12), (0, u "com/example/qualoom/qualoom/solver/GeneticOperators$Individual"), (0, u "genes"), (0, u "[I"), (0, .fieldref 8 14), (0, .nameAndType 15 16), (0, u "score"), (0, u "Lcom/example/qualoom/qualoom/evaluation/Score;"), (6, .methodref 24 25), (0, .class_ 12), (0, .nameAndType 26 27), (0, u "clone"), (0, u "()Ljava/lang/Object;"), (0, .methodref 8 29), (0, .nameAndType 5 30), (0, u "([ILcom/example/qualoom/qualoom/evaluation/Score;)V"), (16, u "with"), (0, u "(IILcom/example/qualoom/qualoom/evaluation/Score;)Lcom/example/qualoom/qualoom/solver/GeneticOperators$Individual;"), (3, u "()[I"), (0, u "()Lcom/example/qualoom/qualoom/evaluation/Score;"), (3, .class_ 58), (0, u "com/example/qualoom/qualoom/solver/GeneticOperators")] 20

def k3c0 : Code := { maxStack := 2, maxLocals := 3, code := prog_46_method_1_code, exceptionTable := #[], attributes := #[] }
def k3m0 : Method := { name := "<init>", desc := "([ILcom/example/qualoom/qualoom/evaluation/Score;)V", sig := { parameters := [(.array .int), (.object "com/example/qualoom/qualoom/evaluation/Score")], returnType := none }, accessFlags := 0, code := some k3c0 }
def k3c1 : Code := { maxStack := 4, maxLocals := 5, code := prog_46_method_3_code, exceptionTable := #[], attributes := #[] }
def k3m1 : Method := { name := "with", desc := "(IILcom/example/qualoom/qualoom/evaluation/Score;)Lcom/example/qualoom/qualoom/solver/GeneticOperators$Individual;", sig := { parameters := [.int, .int, (.object "com/example/qualoom/qualoom/evaluation/Score")], returnType := some (.object "com/example/qualoom/qualoom/solver/GeneticOperators$Individual") }, accessFlags := 0, code := some k3c1 }
def k3c2 : Code := { maxStack := 1, maxLocals := 1, code := prog_46_method_7_code, exceptionTable := #[], attributes := #[] }
def k3m2 : Method := { name := "genes", desc := "()[I", sig := { parameters := [], returnType := some (.array .int) }, accessFlags := 1, code := some k3c2 }
def k3c3 : Code := { maxStack := 1, maxLocals := 1, code := prog_46_method_8_code, exceptionTable := #[], attributes := #[] }
def k3m3 : Method := { name := "score", desc := "()Lcom/example/qualoom/qualoom/evaluation/Score;", sig := { parameters := [], returnType := some (.object "com/example/qualoom/qualoom/evaluation/Score") }, accessFlags := 1, code := some k3c3 }
/-- com/example/qualoom/qualoom/solver/GeneticOperators$Individual -/
def k3 : Class := { plain "com/example/qualoom/qualoom/solver/GeneticOperators$Individual" (some 2) with
  accessFlags := 48
  interfaces := #[]
  cf := some (fileOf pool3 8 #[.nestHost 57] #[{ accessFlags := 0, nameIndex := 5, descriptorIndex := 30, attributes := #[] }, { accessFlags := 0, nameIndex := 47, descriptorIndex := 48, attributes := #[] }, { accessFlags := 1, nameIndex := 11, descriptorIndex := 52, attributes := #[] }, { accessFlags := 1, nameIndex := 15, descriptorIndex := 53, attributes := #[] }] 48 2 #[] #[{ accessFlags := 18, nameIndex := 11, descriptorIndex := 12, attributes := #[] }, { accessFlags := 18, nameIndex := 15, descriptorIndex := 16, attributes := #[] }])
  fields := #[{ name := "genes", type := (.array .int), accessFlags := 18, slot := 0, constantValue := 0 }, { name := "score", type := (.object "com/example/qualoom/qualoom/evaluation/Score"), accessFlags := 18, slot := 1, constantValue := 0 }]
  methods := #[k3m0, k3m1, k3m2, k3m3]
  instanceTypes := #[(.array .int), (.object "com/example/qualoom/qualoom/evaluation/Score")]
  staticTypes := #[]
  resolved := Array.replicate 79 none
  statics := none }

def pool4 : Array CpInfo := pool [(1, .class_ 2), (0, u "java/lang/Cloneable"), (0, .class_ 4), (0, u "java/lang/Object")] 2

/-- java/lang/Cloneable -/
def k4 : Class := { plain "java/lang/Cloneable" (some 0) with
  accessFlags := 1537
  interfaces := #[]
  cf := some (fileOf pool4 1 #[] #[] 1537 3 #[] #[])
  fields := #[]
  methods := #[]
  instanceTypes := #[]
  staticTypes := #[]
  resolved := Array.replicate 7 none
  statics := none }

def pool5 : Array CpInfo := pool [(1, u "java/io/Serializable"), (0, .class_ 1), (0, u "java/lang/Object"), (0, .class_ 3)] 3

/-- java/io/Serializable -/
def k5 : Class := { plain "java/io/Serializable" (some 0) with
  accessFlags := 1537
  interfaces := #[]
  cf := some (fileOf pool5 2 #[] #[] 1537 4 #[] #[])
  fields := #[]
  methods := #[]
  instanceTypes := #[]
  staticTypes := #[]
  resolved := Array.replicate 8 none
  statics := none }

/-- the primitive byte -/
def k6 : Class := { plain "byte" none with kind := .primitive 'B', accessFlags := 0x411 }
/-- [B -/
def k7 : Class := { plain "[B" (some 0) with kind := .array 6 .byte, interfaces := #[4, 5], accessFlags := 1041 }

/-- the primitive int -/
def k8 : Class := { plain "int" none with kind := .primitive 'I', accessFlags := 0x411 }
/-- [I -/
def k9 : Class := { plain "[I" (some 0) with kind := .array 8 .int, interfaces := #[4, 5], accessFlags := 1041 }

def heap : Heap := #[]
def classes : Array Class := #[k0, k1, k2, k3, k4, k5, k6, k7, k8, k9]
def interned : List (Array UInt16 × Addr) := []
def slotsUsed : Nat := 0
def theMethod : MethodId := ⟨1, 1⟩
def args0 : Array Value := #[.int 5, .int 3, .int 2, .int 1, .int 4, .int 7]
def aboutOver (below : List Frame) : State where
  vm := { classes := classes, interned := interned.toArray }
  heap := heap
  slotsUsed := slotsUsed
  threads := #[{ frames := .invoking theMethod args0 :: below }]
def below0 : List Frame := [.native { method := ⟨0, 0⟩, args := #[] }]
def about1 : State := aboutOver below0
def p0 : Program := .bare "" "" ""
def e0 : Env := launch0.env 0 0 0
theorem w_frames : about1.frames = Frame.invoking theMethod args0 :: below0 := rfl
set_option maxRecDepth 65536 in
theorem w_args : argsFit about1.vm theMethod args0 = true := by decide +kernel
set_option maxRecDepth 65536 in
theorem w_heap : heapFits about1 = true := by decide +kernel
set_option maxRecDepth 65536 in
theorem w_runnable : about1.curStatus? = some .runnable := by decide +kernel
set_option maxRecDepth 65536 in
theorem w_alone : about1.alone = true := by decide +kernel
set_option maxRecDepth 65536 in
theorem w_named : about1.methodNamed? x = some theMethod := by decide +kernel
set_option maxRecDepth 65536 in
theorem w_hears : about1.hears theMethod below0 = true := by decide +kernel
set_option maxRecDepth 65536 in
theorem w_ripe : about1.ripe theMethod args0 below0 = true := by decide +kernel
theorem w_running : about1.status = .running := rfl
set_option maxRecDepth 65536 in
theorem w_room : about1.hasRoom e0.platform room_1 = true :=
  launch0.hasRoom_least _ room_1 (by decide +kernel) (by decide +kernel) (by decide +kernel) (by decide +kernel) (by decide +kernel) (by decide +kernel)
theorem allAtoms_all (ts : List Jvm.Cond) (a : Array Jvm.Value) (st : Jvm.State) : (allAtoms ts).before a st = ts.all (fun c => c.before a st) := by
  induction ts with
  | nil => rfl
  | cons c t ih =>
    show (Jvm.Cond.and c (allAtoms t)).before a st = _
    rw [Jvm.Cond.before_and, ih, List.all_cons]
def words1 : List Jvm.Cond := Jvm.Cond.code x code maxLocals ret :: tables_1
/-- a 'code' word, met by the world's own term for the bytes: nothing is compared byte by byte -/
theorem code_word {y : MethodName} {bytes : ByteArray} {mx : Nat} {rt : Option FieldType} {a : Array Value} {s : State} {m : MethodId} {meth : Method} {c : Code} (h1 : s.methodNamed? y = some m) (h2 : s.vm.method? m = some meth) (h3 : meth.code = some c) (h4 : c.code = bytes)
    (h5 : (c.maxLocals == mx && c.exceptionTable.isEmpty && decide (c.maxStack ≤ mostOperands) && decide (meth.sig.returnType = rt) && !meth.locks && decide (parseMethodDescriptor y.desc = some meth.sig)) = true) : (Jvm.Cond.code y bytes mx rt).before a s = true := by
  simp only [Bool.and_eq_true, beq_iff_eq, Bool.not_eq_true', decide_eq_true_eq] at h5
  obtain ⟨⟨⟨⟨⟨g1, g2⟩, g3⟩, g4⟩, g5⟩, g6⟩ := h5
  simp [Cond.before, Cond.holds, Cond.value, h1, h2, h3, h4, g1, g2, g3, g4, g5, g6]
def isCode : Jvm.Cond → Bool
  | .code _ _ _ _ => true
  | _ => false
theorem all_split {L : List Jvm.Cond} {P : Jvm.Cond → Bool} (h1 : L.all (fun c => isCode c || P c) = true) (h2 : ∀ c ∈ L.filter isCode, P c = true) : L.all P = true := by
  refine List.all_eq_true.mpr fun c hc => ?_
  have h := List.all_eq_true.mp h1 c hc
  rcases Bool.eq_false_or_eq_true (isCode c) with hi | hi
  · exact h2 c (List.mem_filter.mpr ⟨hc, hi⟩)
  · simpa [hi] using h
set_option maxRecDepth 65536 in
theorem w_c0 : (Jvm.Cond.code x code maxLocals ret).before args0 about1 = true := code_word (m := ⟨1, 1⟩) (meth := k1m1) (c := k1c1) (by decide +kernel) rfl rfl rfl (by decide +kernel)
set_option maxRecDepth 65536 in
theorem w_c1 : (Jvm.Cond.code ({ cls := "com/example/qualoom/qualoom/solver/GeneticOperators$Individual", name := "<init>", desc := "([ILcom/example/qualoom/qualoom/evaluation/Score;)V" } : Jvm.MethodName) prog_46_method_1_code (3 : Nat) (Option.none : Option Jvm.ClassFile.FieldType)).before args0 about1 = true := code_word (m := ⟨3, 0⟩) (meth := k3m0) (c := k3c0) (by decide +kernel) rfl rfl rfl (by decide +kernel)
set_option maxRecDepth 65536 in
theorem w_c2 : (Jvm.Cond.code ({ cls := "java/lang/Record", name := "<init>", desc := "()V" } : Jvm.MethodName) jdk_30_method_1_code (1 : Nat) (Option.none : Option Jvm.ClassFile.FieldType)).before args0 about1 = true := code_word (m := ⟨2, 0⟩) (meth := k2m0) (c := k2c0) (by decide +kernel) rfl rfl rfl (by decide +kernel)
set_option maxRecDepth 65536 in
theorem w_c3 : (Jvm.Cond.code ({ cls := "java/lang/Object", name := "<init>", desc := "()V" } : Jvm.MethodName) object_method_1_code (1 : Nat) (Option.none : Option Jvm.ClassFile.FieldType)).before args0 about1 = true := code_word (m := ⟨0, 0⟩) (meth := k0m0) (c := k0c0) (by decide +kernel) rfl rfl rfl (by decide +kernel)
set_option maxRecDepth 65536 in
theorem w_c4 : (Jvm.Cond.code ({ cls := "com/example/qualoom/qualoom/solver/GeneticOperators$Individual", name := "with", desc := "(IILcom/example/qualoom/qualoom/evaluation/Score;)Lcom/example/qualoom/qualoom/solver/GeneticOperators$Individual;" } : Jvm.MethodName) prog_46_method_3_code (5 : Nat) (Option.some (Jvm.ClassFile.FieldType.object "com/example/qualoom/qualoom/solver/GeneticOperators$Individual"))).before args0 about1 = true := code_word (m := ⟨3, 1⟩) (meth := k3m1) (c := k3c1) (by decide +kernel) rfl rfl rfl (by decide +kernel)
set_option maxRecDepth 65536 in
theorem w_c5 : (Jvm.Cond.code ({ cls := "com/example/qualoom/qualoom/solver/GeneticOperators$Individual", name := "genes", desc := "()[I" } : Jvm.MethodName) prog_46_method_7_code (1 : Nat) (Option.some (Jvm.ClassFile.FieldType.array Jvm.ClassFile.FieldType.int))).before args0 about1 = true := code_word (m := ⟨3, 2⟩) (meth := k3m2) (c := k3c2) (by decide +kernel) rfl rfl rfl (by decide +kernel)
set_option maxRecDepth 65536 in
theorem w_c6 : (Jvm.Cond.code ({ cls := "com/example/qualoom/qualoom/solver/GeneticOperators$Individual", name := "score", desc := "()Lcom/example/qualoom/qualoom/evaluation/Score;" } : Jvm.MethodName) prog_46_method_8_code (1 : Nat) (Option.some (Jvm.ClassFile.FieldType.object "com/example/qualoom/qualoom/evaluation/Score"))).before args0 about1 = true := code_word (m := ⟨3, 3⟩) (meth := k3m3) (c := k3c3) (by decide +kernel) rfl rfl rfl (by decide +kernel)
set_option maxRecDepth 65536 in
theorem w_c7 : (Jvm.Cond.code ({ cls := "com/example/qualoom/qualoom/solver/IndividualWithPinLaw", name := "slot", desc := "([I[IIIIII)Z" } : Jvm.MethodName) method_3_code (8 : Nat) (Option.some Jvm.ClassFile.FieldType.boolean)).before args0 about1 = true := code_word (m := ⟨1, 2⟩) (meth := k1m2) (c := k1c2) (by decide +kernel) rfl rfl rfl (by decide +kernel)
def codes1 : List Jvm.Cond := [Jvm.Cond.code x code maxLocals ret, Jvm.Cond.code ({ cls := "com/example/qualoom/qualoom/solver/GeneticOperators$Individual", name := "<init>", desc := "([ILcom/example/qualoom/qualoom/evaluation/Score;)V" } : Jvm.MethodName) prog_46_method_1_code (3 : Nat) (Option.none : Option Jvm.ClassFile.FieldType), Jvm.Cond.code ({ cls := "java/lang/Record", name := "<init>", desc := "()V" } : Jvm.MethodName) jdk_30_method_1_code (1 : Nat) (Option.none : Option Jvm.ClassFile.FieldType), Jvm.Cond.code ({ cls := "java/lang/Object", name := "<init>", desc := "()V" } : Jvm.MethodName) object_method_1_code (1 : Nat) (Option.none : Option Jvm.ClassFile.FieldType), Jvm.Cond.code ({ cls := "com/example/qualoom/qualoom/solver/GeneticOperators$Individual", name := "with", desc := "(IILcom/example/qualoom/qualoom/evaluation/Score;)Lcom/example/qualoom/qualoom/solver/GeneticOperators$Individual;" } : Jvm.MethodName) prog_46_method_3_code (5 : Nat) (Option.some (Jvm.ClassFile.FieldType.object "com/example/qualoom/qualoom/solver/GeneticOperators$Individual")), Jvm.Cond.code ({ cls := "com/example/qualoom/qualoom/solver/GeneticOperators$Individual", name := "genes", desc := "()[I" } : Jvm.MethodName) prog_46_method_7_code (1 : Nat) (Option.some (Jvm.ClassFile.FieldType.array Jvm.ClassFile.FieldType.int)), Jvm.Cond.code ({ cls := "com/example/qualoom/qualoom/solver/GeneticOperators$Individual", name := "score", desc := "()Lcom/example/qualoom/qualoom/evaluation/Score;" } : Jvm.MethodName) prog_46_method_8_code (1 : Nat) (Option.some (Jvm.ClassFile.FieldType.object "com/example/qualoom/qualoom/evaluation/Score")), Jvm.Cond.code ({ cls := "com/example/qualoom/qualoom/solver/IndividualWithPinLaw", name := "slot", desc := "([I[IIIIII)Z" } : Jvm.MethodName) method_3_code (8 : Nat) (Option.some Jvm.ClassFile.FieldType.boolean)]
set_option maxRecDepth 65536 in
theorem codes_eq : words1.filter isCode = codes1 := rfl
theorem w_codes : ∀ c ∈ words1.filter isCode, c.before args0 about1 = true := by
  rw [codes_eq]
  intro c hc
  simp only [codes1, List.mem_cons, List.not_mem_nil, or_false] at hc
  rcases hc with rfl | rfl | rfl | rfl | rfl | rfl | rfl | rfl
  · exact w_c0
  · exact w_c1
  · exact w_c2
  · exact w_c3
  · exact w_c4
  · exact w_c5
  · exact w_c6
  · exact w_c7
set_option maxRecDepth 65536 in
theorem w_t1 : (words1.take 24).all (fun c => isCode c || c.before args0 about1) = true := by decide +kernel
set_option maxRecDepth 65536 in
theorem w_t2 : ((words1.drop 24).take 24).all (fun c => isCode c || c.before args0 about1) = true := by decide +kernel
set_option maxRecDepth 65536 in
theorem w_t3 : ((words1.drop 24).drop 24).all (fun c => isCode c || c.before args0 about1) = true := by decide +kernel
theorem w_tables : (allAtoms (Jvm.Cond.code x code maxLocals ret :: tables_1)).before args0 about1 = true := by
  rw [allAtoms_all]
  show words1.all (fun c => c.before args0 about1) = true
  refine all_split ?_ w_codes
  rw [← List.take_append_drop 24 words1, List.all_append, w_t1, ← List.take_append_drop 24 (words1.drop 24), List.all_append, w_t2, w_t3]
  rfl
set_option maxRecDepth 65536 in
theorem w_case : (Jvm.Cond.and given_1 narrow_1).before args0 about1 = true := by decide +kernel
theorem w_applies : (headSpec (Jvm.Cond.code x code maxLocals ret :: tables_1) room_1).applies x e0.platform about1 = true :=
  (Spec.applies_iff w_frames).mpr ⟨w_running, w_runnable, w_alone, w_named, w_hears, w_ripe, w_room, w_tables⟩
theorem atStart : AtStart classFile x code maxLocals ret World_1 tables_1 room_1 Calls_1 rest_1 Pre_1 launch0 p0 e0 about1 theMethod args0 below0 :=
  ⟨lists_1, trivial, launch0.admits_env _ _ _, launch0.least_env, fairChoices_fair.cas, fairChoices_fair.clock, w_frames, w_args, w_heap, w_applies, trivial, trivial, w_case⟩
end start1
theorem witness_1 : WitnessClaimed_1 := ⟨start1.p0, start1.e0, start1.about1, start1.theMethod, start1.args0, start1.below0, start1.atStart⟩
end Jvm.Pilot.@@N@@
