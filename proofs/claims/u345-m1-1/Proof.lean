import JvmDerived
import JvmDerived.Pilot.@@N@@Statement
import JvmDerived.Pilot.@@N@@Code
set_option linter.unusedVariables false
set_option linter.unusedSimpArgs false
namespace Jvm.RoadKit
open Sem ClassFile Op Lib Jvm.Stand Jvm.Free Jvm.LawKit
section New
variable {p : Program} {l : Launch} {e : Env} {R : Room} {s : State} {m : MethodId} {args : Array Value} {below : List Frame} {meth : Method} {c : Code} {T : State} {locs : List Loc} {cells slots : Nat}
theorem retI (X : Stand p l e R s m args below meth c T locs cells slots) (hx : p.tables.exec = Jvm.exec) {pc : Nat} {Ls : Array Slot} {z : Int32} {rest : List Value} (hret : meth.sig.returnType = some .int) (hd : decode c.code pc = .ok (.ireturn, 1)) {fs : List Frame}
    (hl : ∀ (f : JFrame) (acts : List Action), f.method = m → f.locked = none → f.entered = [] → (doReturn e (T.setTop f) acts (some (.int z))).1 = T.setFrames fs) : Steps p.tables e below (T.setTop (mkF m pc Ls (.int z :: rest))) (T.setFrames fs) := by
  have hm' : T.vm.method? m = some meth := X.method'
  have hn : narrow .int (.int z) = .int z := rfl
  show Steps p.tables e below (T.setTop { method := m, pc := pc, locals := Ls, stack := _ :: rest, locked := none }) _
  jvm_step X.here [X.here.top, hx, hd, hm', hret, hn]
  first | (intro acts; rw [hl _ acts rfl rfl rfl]) | rw [hl _ _ rfl rfl rfl]
  exact Steps.refl _
theorem retL (X : Stand p l e R s m args below meth c T locs cells slots) (hx : p.tables.exec = Jvm.exec) {pc : Nat} {Ls : Array Slot} {z : Int64} {rest : List Value} (hret : meth.sig.returnType = some .long) (hd : decode c.code pc = .ok (.lreturn, 1)) {fs : List Frame}
    (hl : ∀ (f : JFrame) (acts : List Action), f.method = m → f.locked = none → f.entered = [] → (doReturn e (T.setTop f) acts (some (.long z))).1 = T.setFrames fs) : Steps p.tables e below (T.setTop (mkF m pc Ls (.long z :: rest))) (T.setFrames fs) := by
  have hm' : T.vm.method? m = some meth := X.method'
  have hn : narrow .long (.long z) = .long z := rfl
  show Steps p.tables e below (T.setTop { method := m, pc := pc, locals := Ls, stack := _ :: rest, locked := none }) _
  jvm_step X.here [X.here.top, hx, hd, hm', hret, hn]
  first | (intro acts; rw [hl _ acts rfl rfl rfl]) | rw [hl _ _ rfl rfl rfl]
  exact Steps.refl _
end New
end Jvm.RoadKit
namespace Jvm.Pilot.@@N@@
open Jvm Jvm.ClassFile Sem Op Lib Jvm.Free Jvm.Stand Jvm.LawKit Jvm.RoadKit Bundle Jvm.Pilot.@@N@@.Jvm.D

def own_sp (x : Int32) : Int32 := if x = 32 ∨ x = 9 ∨ x = 13 ∨ x = 10 then 1 else 0
theorem own_sp1 {x : Int32} (h : x = 32 ∨ x = 9 ∨ x = 13 ∨ x = 10) : 1 = own_sp x := (if_pos h).symm
theorem own_sp0 {x : Int32} (h : ¬ (x = 32 ∨ x = 9 ∨ x = 13 ∨ x = 10)) : 0 = own_sp x := (if_neg h).symm
theorem own_cls {x : Int32} (h1 : ¬ x < 9) (h2 : ¬ 13 < x) (h3 : ¬ x = 11) (h4 : ¬ x = 12) : x = 9 ∨ x = 13 ∨ x = 10 := by
  rw [Int32.lt_iff_toInt_lt, show (9 : Int32).toInt = 9 from by decide] at h1
  rw [Int32.lt_iff_toInt_lt, show (13 : Int32).toInt = 13 from by decide] at h2
  rw [← Int32.toInt_inj, show (11 : Int32).toInt = 11 from by decide] at h3
  rw [← Int32.toInt_inj, show (12 : Int32).toInt = 12 from by decide] at h4
  rw [← Int32.toInt_inj, ← Int32.toInt_inj, ← Int32.toInt_inj, show (9 : Int32).toInt = 9 from by decide, show (13 : Int32).toInt = 13 from by decide, show (10 : Int32).toInt = 10 from by decide]
  omega
theorem own_ints (vs : List Int32) (j : Nat) : (vs.map Value.int).getD j (.int 0) = .int (vs.getD j 0) := by
  induction vs generalizing j with
  | nil => rfl
  | cons a t ih => cases j with
    | zero => rfl
    | succ j => exact ih j
theorem own_nn (x : Int32) : ¬ (x &&& 31) < 0 := by
  rw [Int32.lt_iff_toInt_lt, show (0 : Int32).toInt = 0 from by decide]
  have := c_and x 31 (by decide)
  omega

theorem d1_0 : decode prog_7_method_4_code 0 = .ok (.iload_n 0, 1) := by decide +kernel
theorem d1_1 : decode prog_7_method_4_code 1 = .ok (.bipush 32, 2) := by decide +kernel
theorem d1_3 : decode prog_7_method_4_code 3 = .ok (.if_icmp .eq 21, 3) := by decide +kernel
theorem d1_6 : decode prog_7_method_4_code 6 = .ok (.iload_n 0, 1) := by decide +kernel
theorem d1_7 : decode prog_7_method_4_code 7 = .ok (.bipush 9, 2) := by decide +kernel
theorem d1_9 : decode prog_7_method_4_code 9 = .ok (.if_icmp .eq 15, 3) := by decide +kernel
theorem d1_12 : decode prog_7_method_4_code 12 = .ok (.iload_n 0, 1) := by decide +kernel
theorem d1_13 : decode prog_7_method_4_code 13 = .ok (.bipush 13, 2) := by decide +kernel
theorem d1_15 : decode prog_7_method_4_code 15 = .ok (.if_icmp .eq 9, 3) := by decide +kernel
theorem d1_18 : decode prog_7_method_4_code 18 = .ok (.iload_n 0, 1) := by decide +kernel
theorem d1_19 : decode prog_7_method_4_code 19 = .ok (.bipush 10, 2) := by decide +kernel
theorem d1_21 : decode prog_7_method_4_code 21 = .ok (.if_icmp .ne 7, 3) := by decide +kernel
theorem d1_24 : decode prog_7_method_4_code 24 = .ok (.iconst 1, 1) := by decide +kernel
theorem d1_25 : decode prog_7_method_4_code 25 = .ok (.goto 4, 3) := by decide +kernel
theorem d1_28 : decode prog_7_method_4_code 28 = .ok (.iconst 0, 1) := by decide +kernel
theorem d1_29 : decode prog_7_method_4_code 29 = .ok (.ireturn, 1) := by decide +kernel
theorem pn_com_example_huiqiao_huiqiao_clearing_ElementValueIsXmlSpacePinLaw : plainName "com/example/huiqiao/huiqiao/clearing/ElementValueIsXmlSpacePinLaw" = true := by first | (simp [plainName, overriddenIn]; done) | decide +kernel
theorem pn_com_example_huiqiao_huiqiao_clearing_ElementValue : plainName "com/example/huiqiao/huiqiao/clearing/ElementValue" = true := by first | (simp [plainName, overriddenIn]; done) | decide +kernel
theorem pd_0 : parseMethodDescriptor "(I)Z" = some ⟨[.int], some .boolean⟩ := by decide +kernel
theorem ef_1 (m : MethodId) (x : Int32) : entryFrame m #[(.int x)] 1 = mkF m 0 #[.val (.int x)] [] := by first | (simp [entryFrame, mkF, argsToLocals, Value.category]; done) | rfl
def Q1 (Z : State) (x : Int32) (h0 : Heap) (n0 : Nat) (v : Option Value) (h : Heap) (L : List Loc) : Prop := v = some (.int (own_sp x)) ∧ Fr n0 L ∧ h = h0
set_option maxRecDepth 65536 in
set_option maxHeartbeats 40000000 in
theorem rm1 (l : Launch) (Z : State) (a0 : Array Value) (hw : ∀ d ∈ tables_1, d.before a0 Z = true) (ws : List Jvm.Cond) (x : Int32) (h0 : Heap) (n0 : Nat) (Z0 : n0 ≤ h0.size) :
    MetFree l (⟨"com/example/huiqiao/huiqiao/clearing/ElementValue", "isXmlSpace", "(I)Z"⟩ : MethodName) (head1 (Jvm.Cond.code (⟨"com/example/huiqiao/huiqiao/clearing/ElementValue", "isXmlSpace", "(I)Z"⟩ : MethodName) prog_7_method_4_code 1 (some .boolean) :: ws) ({ frames := 0, cells := 0, slots := 0, locals := 0 } : Room)) (fun α υ => α = #[(.int x)] ∧ Z.Warmed39 υ.vm ∧ υ.heap = h0) (fun _ _ _ _ _ => True) (fun _ υ ω υ' => ∃ v L, ω = .returned v ∧ Q1 Z x h0 n0 v υ'.heap L ∧ FrameEnd υ ω υ' L ({ frames := 0, cells := 0, slots := 0, locals := 0 } : Room).cells ({ frames := 0, cells := 0, slots := 0, locals := 0 } : Room).slots) := by
  refine MetFree.of_bodySF (plainFor_of_name pn_com_example_huiqiao_huiqiao_clearing_ElementValue) hisR ?_
  intro p e s m args below meth c s₁ Bd hml0 hP hK
  obtain ⟨rfl, hZ, hh⟩ := hP
  have hx := Bd.exec
  have hby := Bd.bytes
  have hml : c.maxLocals = 1 := hml0
  have hown : s.vm.findClass "com/example/huiqiao/huiqiao/clearing/ElementValue" = some m.cls := findClass_of_methodNamed Bd.named
  have hnm := (name_of_methodNamed Bd.named Bd.method).1
  have X0 : Stand p l e ({ frames := 0, cells := 0, slots := 0, locals := 0 } : Room) s m #[(.int x)] below meth c s₁ [] 0 0 := Stand.of_body Bd
  have e0 : s₁.heap = h0 := by rw [← hh, Bd.state]; rfl
  have N0 := Fr.nil n0
  have pre0 : ∀ τ, Steps p.tables e below (s₁.setTop (mkF m 0 #[.val (.int x)] [])) τ → Steps p.tables e below (s₁.setTop (entryFrame m #[(.int x)] 1)) τ := fun τ κ => castTop (ef_1 m x) κ
  have pre1 := fun τ (κ : Steps p.tables e below (s₁.setTop (mkF m 3 #[.val (.int x)] [(.int (32 : Int32)), (.int x)])) τ) => pre0 τ (by
    refine XS.iloadN X0.here hx rfl (hb hby d1_0) rfl ?_
    show Steps p.tables e below (s₁.setTop (mkF m 1 #[.val (.int x)] [(.int x)])) _
    refine XS.bipush X0.here hx rfl (hb hby d1_1) ?_
    show Steps p.tables e below (s₁.setTop (mkF m 3 #[.val (.int x)] [(.int (32 : Int32)), (.int x)])) _
    exact κ)
  by_cases hc3 : x = (32 : Int32)
  · have pre2 := fun τ (κ : Steps p.tables e below (s₁.setTop (mkF m 29 #[.val (.int x)] [(.int (1 : Int32))])) τ) => pre1 τ (by
      refine XS.icmpYes X0.here hx rfl (pc0 := 3) (pc' := 24) rfl (hb hby d1_3) rfl (teq hc3).1 (by decide) (by decide) ?_
      show Steps p.tables e below (s₁.setTop (mkF m 24 #[.val (.int x)] [])) _
      refine XS.iconst X0.here hx rfl (hb hby d1_24) ?_
      show Steps p.tables e below (s₁.setTop (mkF m 25 #[.val (.int x)] [(.int (1 : Int32))])) _
      refine XS.goto X0.here hx rfl (pc0 := 25) (pc' := 29) rfl (hb hby d1_25) (by decide) (by decide) ?_
      show Steps p.tables e below (s₁.setTop (mkF m 29 #[.val (.int x)] [(.int (1 : Int32))])) _
      exact κ)
    obtain ⟨fs, hr, hrun, hended, hW, hsame⟩ := X0.leave (v := some (.int (1 : Int32))) (fun h => by rw [Bd.returns] at h; cases h)
    refine ⟨_, _, pre2 _ ?_, hrun, hended, _, _, rfl, ?_, ⟨_, rfl⟩, hW, hsame.mono (by decide) (by decide)⟩
    · exact retN X0 hx (t := .boolean) Bd.returns (by simp) (hb hby d1_29) hr
    · show Q1 Z x h0 n0 _ s₁.heap _
      rw [e0]
      exact ⟨congrArg (fun z => some (Value.int z)) (own_sp1 (Or.inl hc3)), N0, rfl⟩
  · have pre3 := fun τ (κ : Steps p.tables e below (s₁.setTop (mkF m 9 #[.val (.int x)] [(.int (9 : Int32)), (.int x)])) τ) => pre1 τ (by
      refine XS.icmpNo X0.here hx rfl (hb hby d1_3) rfl (feq hc3).1 ?_
      show Steps p.tables e below (s₁.setTop (mkF m 6 #[.val (.int x)] [])) _
      refine XS.iloadN X0.here hx rfl (hb hby d1_6) rfl ?_
      show Steps p.tables e below (s₁.setTop (mkF m 7 #[.val (.int x)] [(.int x)])) _
      refine XS.bipush X0.here hx rfl (hb hby d1_7) ?_
      show Steps p.tables e below (s₁.setTop (mkF m 9 #[.val (.int x)] [(.int (9 : Int32)), (.int x)])) _
      exact κ)
    by_cases hc9 : x = (9 : Int32)
    · have pre4 := fun τ (κ : Steps p.tables e below (s₁.setTop (mkF m 29 #[.val (.int x)] [(.int (1 : Int32))])) τ) => pre3 τ (by
        refine XS.icmpYes X0.here hx rfl (pc0 := 9) (pc' := 24) rfl (hb hby d1_9) rfl (teq hc9).1 (by decide) (by decide) ?_
        show Steps p.tables e below (s₁.setTop (mkF m 24 #[.val (.int x)] [])) _
        refine XS.iconst X0.here hx rfl (hb hby d1_24) ?_
        show Steps p.tables e below (s₁.setTop (mkF m 25 #[.val (.int x)] [(.int (1 : Int32))])) _
        refine XS.goto X0.here hx rfl (pc0 := 25) (pc' := 29) rfl (hb hby d1_25) (by decide) (by decide) ?_
        show Steps p.tables e below (s₁.setTop (mkF m 29 #[.val (.int x)] [(.int (1 : Int32))])) _
        exact κ)
      obtain ⟨fs, hr, hrun, hended, hW, hsame⟩ := X0.leave (v := some (.int (1 : Int32))) (fun h => by rw [Bd.returns] at h; cases h)
      refine ⟨_, _, pre4 _ ?_, hrun, hended, _, _, rfl, ?_, ⟨_, rfl⟩, hW, hsame.mono (by decide) (by decide)⟩
      · exact retN X0 hx (t := .boolean) Bd.returns (by simp) (hb hby d1_29) hr
      · show Q1 Z x h0 n0 _ s₁.heap _
        rw [e0]
        exact ⟨congrArg (fun z => some (Value.int z)) (own_sp1 (Or.inr (Or.inl hc9))), N0, rfl⟩
    · have pre5 := fun τ (κ : Steps p.tables e below (s₁.setTop (mkF m 15 #[.val (.int x)] [(.int (13 : Int32)), (.int x)])) τ) => pre3 τ (by
        refine XS.icmpNo X0.here hx rfl (hb hby d1_9) rfl (feq hc9).1 ?_
        show Steps p.tables e below (s₁.setTop (mkF m 12 #[.val (.int x)] [])) _
        refine XS.iloadN X0.here hx rfl (hb hby d1_12) rfl ?_
        show Steps p.tables e below (s₁.setTop (mkF m 13 #[.val (.int x)] [(.int x)])) _
        refine XS.bipush X0.here hx rfl (hb hby d1_13) ?_
        show Steps p.tables e below (s₁.setTop (mkF m 15 #[.val (.int x)] [(.int (13 : Int32)), (.int x)])) _
        exact κ)
      by_cases hc15 : x = (13 : Int32)
      · have pre6 := fun τ (κ : Steps p.tables e below (s₁.setTop (mkF m 29 #[.val (.int x)] [(.int (1 : Int32))])) τ) => pre5 τ (by
          refine XS.icmpYes X0.here hx rfl (pc0 := 15) (pc' := 24) rfl (hb hby d1_15) rfl (teq hc15).1 (by decide) (by decide) ?_
          show Steps p.tables e below (s₁.setTop (mkF m 24 #[.val (.int x)] [])) _
          refine XS.iconst X0.here hx rfl (hb hby d1_24) ?_
          show Steps p.tables e below (s₁.setTop (mkF m 25 #[.val (.int x)] [(.int (1 : Int32))])) _
          refine XS.goto X0.here hx rfl (pc0 := 25) (pc' := 29) rfl (hb hby d1_25) (by decide) (by decide) ?_
          show Steps p.tables e below (s₁.setTop (mkF m 29 #[.val (.int x)] [(.int (1 : Int32))])) _
          exact κ)
        obtain ⟨fs, hr, hrun, hended, hW, hsame⟩ := X0.leave (v := some (.int (1 : Int32))) (fun h => by rw [Bd.returns] at h; cases h)
        refine ⟨_, _, pre6 _ ?_, hrun, hended, _, _, rfl, ?_, ⟨_, rfl⟩, hW, hsame.mono (by decide) (by decide)⟩
        · exact retN X0 hx (t := .boolean) Bd.returns (by simp) (hb hby d1_29) hr
        · show Q1 Z x h0 n0 _ s₁.heap _
          rw [e0]
          exact ⟨congrArg (fun z => some (Value.int z)) (own_sp1 (Or.inr (Or.inr (Or.inl hc15)))), N0, rfl⟩
      · have pre7 := fun τ (κ : Steps p.tables e below (s₁.setTop (mkF m 21 #[.val (.int x)] [(.int (10 : Int32)), (.int x)])) τ) => pre5 τ (by
          refine XS.icmpNo X0.here hx rfl (hb hby d1_15) rfl (feq hc15).1 ?_
          show Steps p.tables e below (s₁.setTop (mkF m 18 #[.val (.int x)] [])) _
          refine XS.iloadN X0.here hx rfl (hb hby d1_18) rfl ?_
          show Steps p.tables e below (s₁.setTop (mkF m 19 #[.val (.int x)] [(.int x)])) _
          refine XS.bipush X0.here hx rfl (hb hby d1_19) ?_
          show Steps p.tables e below (s₁.setTop (mkF m 21 #[.val (.int x)] [(.int (10 : Int32)), (.int x)])) _
          exact κ)
        by_cases hc21 : x = (10 : Int32)
        · have pre8 := fun τ (κ : Steps p.tables e below (s₁.setTop (mkF m 29 #[.val (.int x)] [(.int (1 : Int32))])) τ) => pre7 τ (by
            refine XS.icmpNo X0.here hx rfl (hb hby d1_21) rfl (teq hc21).2 ?_
            show Steps p.tables e below (s₁.setTop (mkF m 24 #[.val (.int x)] [])) _
            refine XS.iconst X0.here hx rfl (hb hby d1_24) ?_
            show Steps p.tables e below (s₁.setTop (mkF m 25 #[.val (.int x)] [(.int (1 : Int32))])) _
            refine XS.goto X0.here hx rfl (pc0 := 25) (pc' := 29) rfl (hb hby d1_25) (by decide) (by decide) ?_
            show Steps p.tables e below (s₁.setTop (mkF m 29 #[.val (.int x)] [(.int (1 : Int32))])) _
            exact κ)
          obtain ⟨fs, hr, hrun, hended, hW, hsame⟩ := X0.leave (v := some (.int (1 : Int32))) (fun h => by rw [Bd.returns] at h; cases h)
          refine ⟨_, _, pre8 _ ?_, hrun, hended, _, _, rfl, ?_, ⟨_, rfl⟩, hW, hsame.mono (by decide) (by decide)⟩
          · exact retN X0 hx (t := .boolean) Bd.returns (by simp) (hb hby d1_29) hr
          · show Q1 Z x h0 n0 _ s₁.heap _
            rw [e0]
            exact ⟨congrArg (fun z => some (Value.int z)) (own_sp1 (Or.inr (Or.inr (Or.inr hc21)))), N0, rfl⟩
        · have pre9 := fun τ (κ : Steps p.tables e below (s₁.setTop (mkF m 29 #[.val (.int x)] [(.int (0 : Int32))])) τ) => pre7 τ (by
            refine XS.icmpYes X0.here hx rfl (pc0 := 21) (pc' := 28) rfl (hb hby d1_21) rfl (feq hc21).2 (by decide) (by decide) ?_
            show Steps p.tables e below (s₁.setTop (mkF m 28 #[.val (.int x)] [])) _
            refine XS.iconst X0.here hx rfl (hb hby d1_28) ?_
            show Steps p.tables e below (s₁.setTop (mkF m 29 #[.val (.int x)] [(.int (0 : Int32))])) _
            exact κ)
          obtain ⟨fs, hr, hrun, hended, hW, hsame⟩ := X0.leave (v := some (.int (0 : Int32))) (fun h => by rw [Bd.returns] at h; cases h)
          refine ⟨_, _, pre9 _ ?_, hrun, hended, _, _, rfl, ?_, ⟨_, rfl⟩, hW, hsame.mono (by decide) (by decide)⟩
          · exact retN X0 hx (t := .boolean) Bd.returns (by simp) (hb hby d1_29) hr
          · show Q1 Z x h0 n0 _ s₁.heap _
            rw [e0]
            exact ⟨congrArg (fun z => some (Value.int z)) (own_sp0 (fun h => h.elim hc3 (fun h => h.elim hc9 (fun h => h.elim hc15 hc21)))), N0, rfl⟩
theorem ef_0 (m : MethodId) (p0 : Int32) (p1 : Int32) : entryFrame m #[(.int p0), (.int p1)] maxLocals = mkF m 0 #[.val (.int p0), .val (.int p1), .unset, .unset, .unset, .unset] [] := by first | (simp [entryFrame, mkF, argsToLocals, Value.category, maxLocals]; done) | rfl
def Q0 (Z : State) (p0 : Int32) (p1 : Int32) (h0 : Heap) (n0 : Nat) (v : Option Value) (h : Heap) (L : List Loc) : Prop := v = some (.int 1) ∧ Fr n0 L
set_option maxRecDepth 65536 in
set_option maxHeartbeats 40000000 in
theorem rm0 (l : Launch) (Z : State) (a0 : Array Value) (hw : ∀ d ∈ tables_1, d.before a0 Z = true) (ws : List Jvm.Cond) (p0 : Int32) (p1 : Int32) (h0 : Heap) (n0 : Nat) (Z0 : n0 ≤ h0.size) :
    MetFree l x (head1 (Jvm.Cond.code x code maxLocals ret :: ws) room_1) (fun α υ => α = #[(.int p0), (.int p1)] ∧ Z.Warmed39 υ.vm ∧ υ.heap = h0) (fun _ _ _ _ _ => True) (fun _ υ ω υ' => ∃ v L, ω = .returned v ∧ Q0 Z p0 p1 h0 n0 v υ'.heap L ∧ FrameEnd υ ω υ' L room_1.cells room_1.slots) := by
  refine MetFree.of_bodySF (plainFor_of_name pn_com_example_huiqiao_huiqiao_clearing_ElementValueIsXmlSpacePinLaw) hisR ?_
  intro p e s m args below meth c s₁ Bd hml0 hP hK
  obtain ⟨rfl, hZ, hh⟩ := hP
  have hx := Bd.exec
  have hby := Bd.bytes
  have hml : c.maxLocals = 6 := hml0
  have hown : s.vm.findClass "com/example/huiqiao/huiqiao/clearing/ElementValueIsXmlSpacePinLaw" = some m.cls := findClass_of_methodNamed Bd.named
  have hnm := (name_of_methodNamed Bd.named Bd.method).1
  have X0 : Stand p l e room_1 s m #[(.int p0), (.int p1)] below meth c s₁ [] 0 0 := Stand.of_body Bd
  have e0 : s₁.heap = h0 := by rw [← hh, Bd.state]; rfl
  have N0 := Fr.nil n0
  have pre0 : ∀ τ, Steps p.tables e below (s₁.setTop (mkF m 0 #[.val (.int p0), .val (.int p1), .unset, .unset, .unset, .unset] [])) τ → Steps p.tables e below (s₁.setTop (entryFrame m #[(.int p0), (.int p1)] maxLocals)) τ := fun τ κ => castTop (ef_0 m p0 p1) κ
  have pre1 := fun τ (κ : Steps p.tables e below (s₁.setTop (mkF m 2 #[.val (.int p0), .val (.int p1), .unset, .unset, .unset, .unset] [(.int (15 : Int32))])) τ) => pre0 τ (by
    refine XS.bipush X0.here hx rfl (hb hby at_0) ?_
    show Steps p.tables e below (s₁.setTop (mkF m 2 #[.val (.int p0), .val (.int p1), .unset, .unset, .unset, .unset] [(.int (15 : Int32))])) _
    exact κ)
  obtain ⟨T2, h2, k2, X2, e2, E2, A2, st2⟩ := newP X0 hx hZ (hw _ (List.mem_of_getElem? (i := 0) rfl)) e0 (g := (mkF m 2 #[.val (.int p0), .val (.int p1), .unset, .unset, .unset, .unset] [(.int (15 : Int32))])) rfl (hb hby at_2) rfl (by decide) (cap := 15) (by decide) (by decide) (by decide) (by decide)
  obtain ⟨ar, g2⟩ : ∃ z, z = h0.size := ⟨_, rfl⟩
  rw [← g2] at A2 st2
  have g_ar : n0 ≤ ar := Nat.le_trans Z0 (Nat.le_of_eq g2.symm)
  have Z2 : n0 ≤ h2.size := Nat.le_trans Z0 E2.1
  have V_ar_2 : Arv Z h2 ar k2 .int (15 : Int32) [(.int (0 : Int32)), (.int (0 : Int32)), (.int (0 : Int32)), (.int (0 : Int32)), (.int (0 : Int32)), (.int (0 : Int32)), (.int (0 : Int32)), (.int (0 : Int32)), (.int (0 : Int32)), (.int (0 : Int32)), (.int (0 : Int32)), (.int (0 : Int32)), (.int (0 : Int32)), (.int (0 : Int32)), (.int (0 : Int32))] (.int (0 : Int32)) := (Arv.new A2 (by decide)).pad (pad_rep [] (.int (0 : Int32)) 15)
  have pre3 := fun τ (κ : Steps p.tables e below (T2.setTop (mkF m 4 #[.val (.int p0), .val (.int p1), .unset, .unset, .unset, .unset] [(.ref ar)])) τ) => pre1 τ (st2 _ κ)
  have pre4 := fun τ (κ : Steps p.tables e below (T2.setTop (mkF m 8 #[.val (.int p0), .val (.int p1), .unset, .unset, .unset, .unset] [(.int (9 : Int32)), (.int (0 : Int32)), (.ref ar), (.ref ar)])) τ) => pre3 τ (by
    refine XS.dup X2.here hx rfl (hb hby at_4) rfl rfl ?_
    show Steps p.tables e below (T2.setTop (mkF m 5 #[.val (.int p0), .val (.int p1), .unset, .unset, .unset, .unset] [(.ref ar), (.ref ar)])) _
    refine XS.iconst X2.here hx rfl (hb hby at_5) ?_
    show Steps p.tables e below (T2.setTop (mkF m 6 #[.val (.int p0), .val (.int p1), .unset, .unset, .unset, .unset] [(.int (0 : Int32)), (.ref ar), (.ref ar)])) _
    refine XS.bipush X2.here hx rfl (hb hby at_6) ?_
    show Steps p.tables e below (T2.setTop (mkF m 8 #[.val (.int p0), .val (.int p1), .unset, .unset, .unset, .unset] [(.int (9 : Int32)), (.int (0 : Int32)), (.ref ar), (.ref ar)])) _
    exact κ)
  obtain ⟨cl5, Ar5, q5, S5, M5, H5, G5⟩ := V_ar_2
  have in5 : ¬ ((0 : Int32) < 0 ∨ cl5.slots.size ≤ ((0 : Int32)).toNatClampNeg) := inb_of S5 ⟨by decide, by decide⟩
  obtain ⟨T6, h6, X6, e6, W6, st6⟩ := stI X2 hx hZ e2 Ar5 (j := (0 : Int32)) in5 (g := (mkF m 8 #[.val (.int p0), .val (.int p1), .unset, .unset, .unset, .unset] [(.int (9 : Int32)), (.int (0 : Int32)), (.ref ar), (.ref ar)])) rfl rfl (hb hby at_8)
  have N6 := Fr.snoc X6 N0 g_ar
  have Z6 : n0 ≤ h6.size := Nat.le_trans Z2 (Keep.of_wr W6).1
  have V_ar_6 : Arv Z h6 ar k2 .int (15 : Int32) [(.int (9 : Int32)), (.int (0 : Int32)), (.int (0 : Int32)), (.int (0 : Int32)), (.int (0 : Int32)), (.int (0 : Int32)), (.int (0 : Int32)), (.int (0 : Int32)), (.int (0 : Int32)), (.int (0 : Int32)), (.int (0 : Int32)), (.int (0 : Int32)), (.int (0 : Int32)), (.int (0 : Int32)), (.int (0 : Int32))] (.int (0 : Int32)) := Arv.set Ar5 q5 S5 M5 H5 G5 rfl W6 0 rfl (Nat.le_of_ble_eq_true rfl)
  have pre7 := fun τ (κ : Steps p.tables e below (T6.setTop (mkF m 9 #[.val (.int p0), .val (.int p1), .unset, .unset, .unset, .unset] [(.ref ar)])) τ) => pre4 τ (st6 _ κ)
  have pre8 := fun τ (κ : Steps p.tables e below (T6.setTop (mkF m 13 #[.val (.int p0), .val (.int p1), .unset, .unset, .unset, .unset] [(.int (10 : Int32)), (.int (1 : Int32)), (.ref ar), (.ref ar)])) τ) => pre7 τ (by
    refine XS.dup X6.here hx rfl (hb hby at_9) rfl rfl ?_
    show Steps p.tables e below (T6.setTop (mkF m 10 #[.val (.int p0), .val (.int p1), .unset, .unset, .unset, .unset] [(.ref ar), (.ref ar)])) _
    refine XS.iconst X6.here hx rfl (hb hby at_10) ?_
    show Steps p.tables e below (T6.setTop (mkF m 11 #[.val (.int p0), .val (.int p1), .unset, .unset, .unset, .unset] [(.int (1 : Int32)), (.ref ar), (.ref ar)])) _
    refine XS.bipush X6.here hx rfl (hb hby at_11) ?_
    show Steps p.tables e below (T6.setTop (mkF m 13 #[.val (.int p0), .val (.int p1), .unset, .unset, .unset, .unset] [(.int (10 : Int32)), (.int (1 : Int32)), (.ref ar), (.ref ar)])) _
    exact κ)
  obtain ⟨cl9, Ar9, q9, S9, M9, H9, G9⟩ := V_ar_6
  have in9 : ¬ ((1 : Int32) < 0 ∨ cl9.slots.size ≤ ((1 : Int32)).toNatClampNeg) := inb_of S9 ⟨by decide, by decide⟩
  obtain ⟨T10, h10, X10, e10, W10, st10⟩ := stI X6 hx hZ e6 Ar9 (j := (1 : Int32)) in9 (g := (mkF m 13 #[.val (.int p0), .val (.int p1), .unset, .unset, .unset, .unset] [(.int (10 : Int32)), (.int (1 : Int32)), (.ref ar), (.ref ar)])) rfl rfl (hb hby at_13)
  have N10 := Fr.snoc X10 N6 g_ar
  have Z10 : n0 ≤ h10.size := Nat.le_trans Z6 (Keep.of_wr W10).1
  have V_ar_10 : Arv Z h10 ar k2 .int (15 : Int32) [(.int (9 : Int32)), (.int (10 : Int32)), (.int (0 : Int32)), (.int (0 : Int32)), (.int (0 : Int32)), (.int (0 : Int32)), (.int (0 : Int32)), (.int (0 : Int32)), (.int (0 : Int32)), (.int (0 : Int32)), (.int (0 : Int32)), (.int (0 : Int32)), (.int (0 : Int32)), (.int (0 : Int32)), (.int (0 : Int32))] (.int (0 : Int32)) := Arv.set Ar9 q9 S9 M9 H9 G9 rfl W10 1 rfl (Nat.le_of_ble_eq_true rfl)
  have pre11 := fun τ (κ : Steps p.tables e below (T10.setTop (mkF m 14 #[.val (.int p0), .val (.int p1), .unset, .unset, .unset, .unset] [(.ref ar)])) τ) => pre8 τ (st10 _ κ)
  have pre12 := fun τ (κ : Steps p.tables e below (T10.setTop (mkF m 18 #[.val (.int p0), .val (.int p1), .unset, .unset, .unset, .unset] [(.int (13 : Int32)), (.int (2 : Int32)), (.ref ar), (.ref ar)])) τ) => pre11 τ (by
    refine XS.dup X10.here hx rfl (hb hby at_14) rfl rfl ?_
    show Steps p.tables e below (T10.setTop (mkF m 15 #[.val (.int p0), .val (.int p1), .unset, .unset, .unset, .unset] [(.ref ar), (.ref ar)])) _
    refine XS.iconst X10.here hx rfl (hb hby at_15) ?_
    show Steps p.tables e below (T10.setTop (mkF m 16 #[.val (.int p0), .val (.int p1), .unset, .unset, .unset, .unset] [(.int (2 : Int32)), (.ref ar), (.ref ar)])) _
    refine XS.bipush X10.here hx rfl (hb hby at_16) ?_
    show Steps p.tables e below (T10.setTop (mkF m 18 #[.val (.int p0), .val (.int p1), .unset, .unset, .unset, .unset] [(.int (13 : Int32)), (.int (2 : Int32)), (.ref ar), (.ref ar)])) _
    exact κ)
  obtain ⟨cl13, Ar13, q13, S13, M13, H13, G13⟩ := V_ar_10
  have in13 : ¬ ((2 : Int32) < 0 ∨ cl13.slots.size ≤ ((2 : Int32)).toNatClampNeg) := inb_of S13 ⟨by decide, by decide⟩
  obtain ⟨T14, h14, X14, e14, W14, st14⟩ := stI X10 hx hZ e10 Ar13 (j := (2 : Int32)) in13 (g := (mkF m 18 #[.val (.int p0), .val (.int p1), .unset, .unset, .unset, .unset] [(.int (13 : Int32)), (.int (2 : Int32)), (.ref ar), (.ref ar)])) rfl rfl (hb hby at_18)
  have N14 := Fr.snoc X14 N10 g_ar
  have Z14 : n0 ≤ h14.size := Nat.le_trans Z10 (Keep.of_wr W14).1
  have V_ar_14 : Arv Z h14 ar k2 .int (15 : Int32) [(.int (9 : Int32)), (.int (10 : Int32)), (.int (13 : Int32)), (.int (0 : Int32)), (.int (0 : Int32)), (.int (0 : Int32)), (.int (0 : Int32)), (.int (0 : Int32)), (.int (0 : Int32)), (.int (0 : Int32)), (.int (0 : Int32)), (.int (0 : Int32)), (.int (0 : Int32)), (.int (0 : Int32)), (.int (0 : Int32))] (.int (0 : Int32)) := Arv.set Ar13 q13 S13 M13 H13 G13 rfl W14 2 rfl (Nat.le_of_ble_eq_true rfl)
  have pre15 := fun τ (κ : Steps p.tables e below (T14.setTop (mkF m 19 #[.val (.int p0), .val (.int p1), .unset, .unset, .unset, .unset] [(.ref ar)])) τ) => pre12 τ (st14 _ κ)
  have pre16 := fun τ (κ : Steps p.tables e below (T14.setTop (mkF m 23 #[.val (.int p0), .val (.int p1), .unset, .unset, .unset, .unset] [(.int (32 : Int32)), (.int (3 : Int32)), (.ref ar), (.ref ar)])) τ) => pre15 τ (by
    refine XS.dup X14.here hx rfl (hb hby at_19) rfl rfl ?_
    show Steps p.tables e below (T14.setTop (mkF m 20 #[.val (.int p0), .val (.int p1), .unset, .unset, .unset, .unset] [(.ref ar), (.ref ar)])) _
    refine XS.iconst X14.here hx rfl (hb hby at_20) ?_
    show Steps p.tables e below (T14.setTop (mkF m 21 #[.val (.int p0), .val (.int p1), .unset, .unset, .unset, .unset] [(.int (3 : Int32)), (.ref ar), (.ref ar)])) _
    refine XS.bipush X14.here hx rfl (hb hby at_21) ?_
    show Steps p.tables e below (T14.setTop (mkF m 23 #[.val (.int p0), .val (.int p1), .unset, .unset, .unset, .unset] [(.int (32 : Int32)), (.int (3 : Int32)), (.ref ar), (.ref ar)])) _
    exact κ)
  obtain ⟨cl17, Ar17, q17, S17, M17, H17, G17⟩ := V_ar_14
  have in17 : ¬ ((3 : Int32) < 0 ∨ cl17.slots.size ≤ ((3 : Int32)).toNatClampNeg) := inb_of S17 ⟨by decide, by decide⟩
  obtain ⟨T18, h18, X18, e18, W18, st18⟩ := stI X14 hx hZ e14 Ar17 (j := (3 : Int32)) in17 (g := (mkF m 23 #[.val (.int p0), .val (.int p1), .unset, .unset, .unset, .unset] [(.int (32 : Int32)), (.int (3 : Int32)), (.ref ar), (.ref ar)])) rfl rfl (hb hby at_23)
  have N18 := Fr.snoc X18 N14 g_ar
  have Z18 : n0 ≤ h18.size := Nat.le_trans Z14 (Keep.of_wr W18).1
  have V_ar_18 : Arv Z h18 ar k2 .int (15 : Int32) [(.int (9 : Int32)), (.int (10 : Int32)), (.int (13 : Int32)), (.int (32 : Int32)), (.int (0 : Int32)), (.int (0 : Int32)), (.int (0 : Int32)), (.int (0 : Int32)), (.int (0 : Int32)), (.int (0 : Int32)), (.int (0 : Int32)), (.int (0 : Int32)), (.int (0 : Int32)), (.int (0 : Int32)), (.int (0 : Int32))] (.int (0 : Int32)) := Arv.set Ar17 q17 S17 M17 H17 G17 rfl W18 3 rfl (Nat.le_of_ble_eq_true rfl)
  have pre19 := fun τ (κ : Steps p.tables e below (T18.setTop (mkF m 24 #[.val (.int p0), .val (.int p1), .unset, .unset, .unset, .unset] [(.ref ar)])) τ) => pre16 τ (st18 _ κ)
  have pre20 := fun τ (κ : Steps p.tables e below (T18.setTop (mkF m 28 #[.val (.int p0), .val (.int p1), .unset, .unset, .unset, .unset] [(.int (11 : Int32)), (.int (4 : Int32)), (.ref ar), (.ref ar)])) τ) => pre19 τ (by
    refine XS.dup X18.here hx rfl (hb hby at_24) rfl rfl ?_
    show Steps p.tables e below (T18.setTop (mkF m 25 #[.val (.int p0), .val (.int p1), .unset, .unset, .unset, .unset] [(.ref ar), (.ref ar)])) _
    refine XS.iconst X18.here hx rfl (hb hby at_25) ?_
    show Steps p.tables e below (T18.setTop (mkF m 26 #[.val (.int p0), .val (.int p1), .unset, .unset, .unset, .unset] [(.int (4 : Int32)), (.ref ar), (.ref ar)])) _
    refine XS.bipush X18.here hx rfl (hb hby at_26) ?_
    show Steps p.tables e below (T18.setTop (mkF m 28 #[.val (.int p0), .val (.int p1), .unset, .unset, .unset, .unset] [(.int (11 : Int32)), (.int (4 : Int32)), (.ref ar), (.ref ar)])) _
    exact κ)
  obtain ⟨cl21, Ar21, q21, S21, M21, H21, G21⟩ := V_ar_18
  have in21 : ¬ ((4 : Int32) < 0 ∨ cl21.slots.size ≤ ((4 : Int32)).toNatClampNeg) := inb_of S21 ⟨by decide, by decide⟩
  obtain ⟨T22, h22, X22, e22, W22, st22⟩ := stI X18 hx hZ e18 Ar21 (j := (4 : Int32)) in21 (g := (mkF m 28 #[.val (.int p0), .val (.int p1), .unset, .unset, .unset, .unset] [(.int (11 : Int32)), (.int (4 : Int32)), (.ref ar), (.ref ar)])) rfl rfl (hb hby at_28)
  have N22 := Fr.snoc X22 N18 g_ar
  have Z22 : n0 ≤ h22.size := Nat.le_trans Z18 (Keep.of_wr W22).1
  have V_ar_22 : Arv Z h22 ar k2 .int (15 : Int32) [(.int (9 : Int32)), (.int (10 : Int32)), (.int (13 : Int32)), (.int (32 : Int32)), (.int (11 : Int32)), (.int (0 : Int32)), (.int (0 : Int32)), (.int (0 : Int32)), (.int (0 : Int32)), (.int (0 : Int32)), (.int (0 : Int32)), (.int (0 : Int32)), (.int (0 : Int32)), (.int (0 : Int32)), (.int (0 : Int32))] (.int (0 : Int32)) := Arv.set Ar21 q21 S21 M21 H21 G21 rfl W22 4 rfl (Nat.le_of_ble_eq_true rfl)
  have pre23 := fun τ (κ : Steps p.tables e below (T22.setTop (mkF m 29 #[.val (.int p0), .val (.int p1), .unset, .unset, .unset, .unset] [(.ref ar)])) τ) => pre20 τ (st22 _ κ)
  have pre24 := fun τ (κ : Steps p.tables e below (T22.setTop (mkF m 33 #[.val (.int p0), .val (.int p1), .unset, .unset, .unset, .unset] [(.int (12 : Int32)), (.int (5 : Int32)), (.ref ar), (.ref ar)])) τ) => pre23 τ (by
    refine XS.dup X22.here hx rfl (hb hby at_29) rfl rfl ?_
    show Steps p.tables e below (T22.setTop (mkF m 30 #[.val (.int p0), .val (.int p1), .unset, .unset, .unset, .unset] [(.ref ar), (.ref ar)])) _
    refine XS.iconst X22.here hx rfl (hb hby at_30) ?_
    show Steps p.tables e below (T22.setTop (mkF m 31 #[.val (.int p0), .val (.int p1), .unset, .unset, .unset, .unset] [(.int (5 : Int32)), (.ref ar), (.ref ar)])) _
    refine XS.bipush X22.here hx rfl (hb hby at_31) ?_
    show Steps p.tables e below (T22.setTop (mkF m 33 #[.val (.int p0), .val (.int p1), .unset, .unset, .unset, .unset] [(.int (12 : Int32)), (.int (5 : Int32)), (.ref ar), (.ref ar)])) _
    exact κ)
  obtain ⟨cl25, Ar25, q25, S25, M25, H25, G25⟩ := V_ar_22
  have in25 : ¬ ((5 : Int32) < 0 ∨ cl25.slots.size ≤ ((5 : Int32)).toNatClampNeg) := inb_of S25 ⟨by decide, by decide⟩
  obtain ⟨T26, h26, X26, e26, W26, st26⟩ := stI X22 hx hZ e22 Ar25 (j := (5 : Int32)) in25 (g := (mkF m 33 #[.val (.int p0), .val (.int p1), .unset, .unset, .unset, .unset] [(.int (12 : Int32)), (.int (5 : Int32)), (.ref ar), (.ref ar)])) rfl rfl (hb hby at_33)
  have N26 := Fr.snoc X26 N22 g_ar
  have Z26 : n0 ≤ h26.size := Nat.le_trans Z22 (Keep.of_wr W26).1
  have V_ar_26 : Arv Z h26 ar k2 .int (15 : Int32) [(.int (9 : Int32)), (.int (10 : Int32)), (.int (13 : Int32)), (.int (32 : Int32)), (.int (11 : Int32)), (.int (12 : Int32)), (.int (0 : Int32)), (.int (0 : Int32)), (.int (0 : Int32)), (.int (0 : Int32)), (.int (0 : Int32)), (.int (0 : Int32)), (.int (0 : Int32)), (.int (0 : Int32)), (.int (0 : Int32))] (.int (0 : Int32)) := Arv.set Ar25 q25 S25 M25 H25 G25 rfl W26 5 rfl (Nat.le_of_ble_eq_true rfl)
  have pre27 := fun τ (κ : Steps p.tables e below (T26.setTop (mkF m 34 #[.val (.int p0), .val (.int p1), .unset, .unset, .unset, .unset] [(.ref ar)])) τ) => pre24 τ (st26 _ κ)
  have pre28 := fun τ (κ : Steps p.tables e below (T26.setTop (mkF m 39 #[.val (.int p0), .val (.int p1), .unset, .unset, .unset, .unset] [(.int (8 : Int32)), (.int (6 : Int32)), (.ref ar), (.ref ar)])) τ) => pre27 τ (by
    refine XS.dup X26.here hx rfl (hb hby at_34) rfl rfl ?_
    show Steps p.tables e below (T26.setTop (mkF m 35 #[.val (.int p0), .val (.int p1), .unset, .unset, .unset, .unset] [(.ref ar), (.ref ar)])) _
    refine XS.bipush X26.here hx rfl (hb hby at_35) ?_
    show Steps p.tables e below (T26.setTop (mkF m 37 #[.val (.int p0), .val (.int p1), .unset, .unset, .unset, .unset] [(.int (6 : Int32)), (.ref ar), (.ref ar)])) _
    refine XS.bipush X26.here hx rfl (hb hby at_37) ?_
    show Steps p.tables e below (T26.setTop (mkF m 39 #[.val (.int p0), .val (.int p1), .unset, .unset, .unset, .unset] [(.int (8 : Int32)), (.int (6 : Int32)), (.ref ar), (.ref ar)])) _
    exact κ)
  obtain ⟨cl29, Ar29, q29, S29, M29, H29, G29⟩ := V_ar_26
  have in29 : ¬ ((6 : Int32) < 0 ∨ cl29.slots.size ≤ ((6 : Int32)).toNatClampNeg) := inb_of S29 ⟨by decide, by decide⟩
  obtain ⟨T30, h30, X30, e30, W30, st30⟩ := stI X26 hx hZ e26 Ar29 (j := (6 : Int32)) in29 (g := (mkF m 39 #[.val (.int p0), .val (.int p1), .unset, .unset, .unset, .unset] [(.int (8 : Int32)), (.int (6 : Int32)), (.ref ar), (.ref ar)])) rfl rfl (hb hby at_39)
  have N30 := Fr.snoc X30 N26 g_ar
  have Z30 : n0 ≤ h30.size := Nat.le_trans Z26 (Keep.of_wr W30).1
  have V_ar_30 : Arv Z h30 ar k2 .int (15 : Int32) [(.int (9 : Int32)), (.int (10 : Int32)), (.int (13 : Int32)), (.int (32 : Int32)), (.int (11 : Int32)), (.int (12 : Int32)), (.int (8 : Int32)), (.int (0 : Int32)), (.int (0 : Int32)), (.int (0 : Int32)), (.int (0 : Int32)), (.int (0 : Int32)), (.int (0 : Int32)), (.int (0 : Int32)), (.int (0 : Int32))] (.int (0 : Int32)) := Arv.set Ar29 q29 S29 M29 H29 G29 rfl W30 6 rfl (Nat.le_of_ble_eq_true rfl)
  have pre31 := fun τ (κ : Steps p.tables e below (T30.setTop (mkF m 40 #[.val (.int p0), .val (.int p1), .unset, .unset, .unset, .unset] [(.ref ar)])) τ) => pre28 τ (st30 _ κ)
  have pre32 := fun τ (κ : Steps p.tables e below (T30.setTop (mkF m 45 #[.val (.int p0), .val (.int p1), .unset, .unset, .unset, .unset] [(.int (14 : Int32)), (.int (7 : Int32)), (.ref ar), (.ref ar)])) τ) => pre31 τ (by
    refine XS.dup X30.here hx rfl (hb hby at_40) rfl rfl ?_
    show Steps p.tables e below (T30.setTop (mkF m 41 #[.val (.int p0), .val (.int p1), .unset, .unset, .unset, .unset] [(.ref ar), (.ref ar)])) _
    refine XS.bipush X30.here hx rfl (hb hby at_41) ?_
    show Steps p.tables e below (T30.setTop (mkF m 43 #[.val (.int p0), .val (.int p1), .unset, .unset, .unset, .unset] [(.int (7 : Int32)), (.ref ar), (.ref ar)])) _
    refine XS.bipush X30.here hx rfl (hb hby at_43) ?_
    show Steps p.tables e below (T30.setTop (mkF m 45 #[.val (.int p0), .val (.int p1), .unset, .unset, .unset, .unset] [(.int (14 : Int32)), (.int (7 : Int32)), (.ref ar), (.ref ar)])) _
    exact κ)
  obtain ⟨cl33, Ar33, q33, S33, M33, H33, G33⟩ := V_ar_30
  have in33 : ¬ ((7 : Int32) < 0 ∨ cl33.slots.size ≤ ((7 : Int32)).toNatClampNeg) := inb_of S33 ⟨by decide, by decide⟩
  obtain ⟨T34, h34, X34, e34, W34, st34⟩ := stI X30 hx hZ e30 Ar33 (j := (7 : Int32)) in33 (g := (mkF m 45 #[.val (.int p0), .val (.int p1), .unset, .unset, .unset, .unset] [(.int (14 : Int32)), (.int (7 : Int32)), (.ref ar), (.ref ar)])) rfl rfl (hb hby at_45)
  have N34 := Fr.snoc X34 N30 g_ar
  have Z34 : n0 ≤ h34.size := Nat.le_trans Z30 (Keep.of_wr W34).1
  have V_ar_34 : Arv Z h34 ar k2 .int (15 : Int32) [(.int (9 : Int32)), (.int (10 : Int32)), (.int (13 : Int32)), (.int (32 : Int32)), (.int (11 : Int32)), (.int (12 : Int32)), (.int (8 : Int32)), (.int (14 : Int32)), (.int (0 : Int32)), (.int (0 : Int32)), (.int (0 : Int32)), (.int (0 : Int32)), (.int (0 : Int32)), (.int (0 : Int32)), (.int (0 : Int32))] (.int (0 : Int32)) := Arv.set Ar33 q33 S33 M33 H33 G33 rfl W34 7 rfl (Nat.le_of_ble_eq_true rfl)
  have pre35 := fun τ (κ : Steps p.tables e below (T34.setTop (mkF m 46 #[.val (.int p0), .val (.int p1), .unset, .unset, .unset, .unset] [(.ref ar)])) τ) => pre32 τ (st34 _ κ)
  have pre36 := fun τ (κ : Steps p.tables e below (T34.setTop (mkF m 51 #[.val (.int p0), .val (.int p1), .unset, .unset, .unset, .unset] [(.int (31 : Int32)), (.int (8 : Int32)), (.ref ar), (.ref ar)])) τ) => pre35 τ (by
    refine XS.dup X34.here hx rfl (hb hby at_46) rfl rfl ?_
    show Steps p.tables e below (T34.setTop (mkF m 47 #[.val (.int p0), .val (.int p1), .unset, .unset, .unset, .unset] [(.ref ar), (.ref ar)])) _
    refine XS.bipush X34.here hx rfl (hb hby at_47) ?_
    show Steps p.tables e below (T34.setTop (mkF m 49 #[.val (.int p0), .val (.int p1), .unset, .unset, .unset, .unset] [(.int (8 : Int32)), (.ref ar), (.ref ar)])) _
    refine XS.bipush X34.here hx rfl (hb hby at_49) ?_
    show Steps p.tables e below (T34.setTop (mkF m 51 #[.val (.int p0), .val (.int p1), .unset, .unset, .unset, .unset] [(.int (31 : Int32)), (.int (8 : Int32)), (.ref ar), (.ref ar)])) _
    exact κ)
  obtain ⟨cl37, Ar37, q37, S37, M37, H37, G37⟩ := V_ar_34
  have in37 : ¬ ((8 : Int32) < 0 ∨ cl37.slots.size ≤ ((8 : Int32)).toNatClampNeg) := inb_of S37 ⟨by decide, by decide⟩
  obtain ⟨T38, h38, X38, e38, W38, st38⟩ := stI X34 hx hZ e34 Ar37 (j := (8 : Int32)) in37 (g := (mkF m 51 #[.val (.int p0), .val (.int p1), .unset, .unset, .unset, .unset] [(.int (31 : Int32)), (.int (8 : Int32)), (.ref ar), (.ref ar)])) rfl rfl (hb hby at_51)
  have N38 := Fr.snoc X38 N34 g_ar
  have Z38 : n0 ≤ h38.size := Nat.le_trans Z34 (Keep.of_wr W38).1
  have V_ar_38 : Arv Z h38 ar k2 .int (15 : Int32) [(.int (9 : Int32)), (.int (10 : Int32)), (.int (13 : Int32)), (.int (32 : Int32)), (.int (11 : Int32)), (.int (12 : Int32)), (.int (8 : Int32)), (.int (14 : Int32)), (.int (31 : Int32)), (.int (0 : Int32)), (.int (0 : Int32)), (.int (0 : Int32)), (.int (0 : Int32)), (.int (0 : Int32)), (.int (0 : Int32))] (.int (0 : Int32)) := Arv.set Ar37 q37 S37 M37 H37 G37 rfl W38 8 rfl (Nat.le_of_ble_eq_true rfl)
  have pre39 := fun τ (κ : Steps p.tables e below (T38.setTop (mkF m 52 #[.val (.int p0), .val (.int p1), .unset, .unset, .unset, .unset] [(.ref ar)])) τ) => pre36 τ (st38 _ κ)
  have pre40 := fun τ (κ : Steps p.tables e below (T38.setTop (mkF m 57 #[.val (.int p0), .val (.int p1), .unset, .unset, .unset, .unset] [(.int (33 : Int32)), (.int (9 : Int32)), (.ref ar), (.ref ar)])) τ) => pre39 τ (by
    refine XS.dup X38.here hx rfl (hb hby at_52) rfl rfl ?_
    show Steps p.tables e below (T38.setTop (mkF m 53 #[.val (.int p0), .val (.int p1), .unset, .unset, .unset, .unset] [(.ref ar), (.ref ar)])) _
    refine XS.bipush X38.here hx rfl (hb hby at_53) ?_
    show Steps p.tables e below (T38.setTop (mkF m 55 #[.val (.int p0), .val (.int p1), .unset, .unset, .unset, .unset] [(.int (9 : Int32)), (.ref ar), (.ref ar)])) _
    refine XS.bipush X38.here hx rfl (hb hby at_55) ?_
    show Steps p.tables e below (T38.setTop (mkF m 57 #[.val (.int p0), .val (.int p1), .unset, .unset, .unset, .unset] [(.int (33 : Int32)), (.int (9 : Int32)), (.ref ar), (.ref ar)])) _
    exact κ)
  obtain ⟨cl41, Ar41, q41, S41, M41, H41, G41⟩ := V_ar_38
  have in41 : ¬ ((9 : Int32) < 0 ∨ cl41.slots.size ≤ ((9 : Int32)).toNatClampNeg) := inb_of S41 ⟨by decide, by decide⟩
  obtain ⟨T42, h42, X42, e42, W42, st42⟩ := stI X38 hx hZ e38 Ar41 (j := (9 : Int32)) in41 (g := (mkF m 57 #[.val (.int p0), .val (.int p1), .unset, .unset, .unset, .unset] [(.int (33 : Int32)), (.int (9 : Int32)), (.ref ar), (.ref ar)])) rfl rfl (hb hby at_57)
  have N42 := Fr.snoc X42 N38 g_ar
  have Z42 : n0 ≤ h42.size := Nat.le_trans Z38 (Keep.of_wr W42).1
  have V_ar_42 : Arv Z h42 ar k2 .int (15 : Int32) [(.int (9 : Int32)), (.int (10 : Int32)), (.int (13 : Int32)), (.int (32 : Int32)), (.int (11 : Int32)), (.int (12 : Int32)), (.int (8 : Int32)), (.int (14 : Int32)), (.int (31 : Int32)), (.int (33 : Int32)), (.int (0 : Int32)), (.int (0 : Int32)), (.int (0 : Int32)), (.int (0 : Int32)), (.int (0 : Int32))] (.int (0 : Int32)) := Arv.set Ar41 q41 S41 M41 H41 G41 rfl W42 9 rfl (Nat.le_of_ble_eq_true rfl)
  have pre43 := fun τ (κ : Steps p.tables e below (T42.setTop (mkF m 58 #[.val (.int p0), .val (.int p1), .unset, .unset, .unset, .unset] [(.ref ar)])) τ) => pre40 τ (st42 _ κ)
  have pre44 := fun τ (κ : Steps p.tables e below (T42.setTop (mkF m 63 #[.val (.int p0), .val (.int p1), .unset, .unset, .unset, .unset] [(.int (65568 : Int32)), (.int (10 : Int32)), (.ref ar), (.ref ar)])) τ) => pre43 τ (by
    refine XS.dup X42.here hx rfl (hb hby at_58) rfl rfl ?_
    show Steps p.tables e below (T42.setTop (mkF m 59 #[.val (.int p0), .val (.int p1), .unset, .unset, .unset, .unset] [(.ref ar), (.ref ar)])) _
    refine XS.bipush X42.here hx rfl (hb hby at_59) ?_
    show Steps p.tables e below (T42.setTop (mkF m 61 #[.val (.int p0), .val (.int p1), .unset, .unset, .unset, .unset] [(.int (10 : Int32)), (.ref ar), (.ref ar)])) _
    refine X42.ldcInt hx hown (mvT hZ (hw _ (List.mem_of_getElem? (i := 1) rfl))) (g := (mkF m 61 #[.val (.int p0), .val (.int p1), .unset, .unset, .unset, .unset] [(.int (10 : Int32)), (.ref ar), (.ref ar)])) rfl (hb hby at_61) _ ?_
    show Steps p.tables e below (T42.setTop (mkF m 63 #[.val (.int p0), .val (.int p1), .unset, .unset, .unset, .unset] [(.int (65568 : Int32)), (.int (10 : Int32)), (.ref ar), (.ref ar)])) _
    exact κ)
  obtain ⟨cl45, Ar45, q45, S45, M45, H45, G45⟩ := V_ar_42
  have in45 : ¬ ((10 : Int32) < 0 ∨ cl45.slots.size ≤ ((10 : Int32)).toNatClampNeg) := inb_of S45 ⟨by decide, by decide⟩
  obtain ⟨T46, h46, X46, e46, W46, st46⟩ := stI X42 hx hZ e42 Ar45 (j := (10 : Int32)) in45 (g := (mkF m 63 #[.val (.int p0), .val (.int p1), .unset, .unset, .unset, .unset] [(.int (65568 : Int32)), (.int (10 : Int32)), (.ref ar), (.ref ar)])) rfl rfl (hb hby at_63)
  have N46 := Fr.snoc X46 N42 g_ar
  have Z46 : n0 ≤ h46.size := Nat.le_trans Z42 (Keep.of_wr W46).1
  have V_ar_46 : Arv Z h46 ar k2 .int (15 : Int32) [(.int (9 : Int32)), (.int (10 : Int32)), (.int (13 : Int32)), (.int (32 : Int32)), (.int (11 : Int32)), (.int (12 : Int32)), (.int (8 : Int32)), (.int (14 : Int32)), (.int (31 : Int32)), (.int (33 : Int32)), (.int (65568 : Int32)), (.int (0 : Int32)), (.int (0 : Int32)), (.int (0 : Int32)), (.int (0 : Int32))] (.int (0 : Int32)) := Arv.set Ar45 q45 S45 M45 H45 G45 rfl W46 10 rfl (Nat.le_of_ble_eq_true rfl)
  have pre47 := fun τ (κ : Steps p.tables e below (T46.setTop (mkF m 64 #[.val (.int p0), .val (.int p1), .unset, .unset, .unset, .unset] [(.ref ar)])) τ) => pre44 τ (st46 _ κ)
  have pre48 := fun τ (κ : Steps p.tables e below (T46.setTop (mkF m 69 #[.val (.int p0), .val (.int p1), .unset, .unset, .unset, .unset] [(.int (65546 : Int32)), (.int (11 : Int32)), (.ref ar), (.ref ar)])) τ) => pre47 τ (by
    refine XS.dup X46.here hx rfl (hb hby at_64) rfl rfl ?_
    show Steps p.tables e below (T46.setTop (mkF m 65 #[.val (.int p0), .val (.int p1), .unset, .unset, .unset, .unset] [(.ref ar), (.ref ar)])) _
    refine XS.bipush X46.here hx rfl (hb hby at_65) ?_
    show Steps p.tables e below (T46.setTop (mkF m 67 #[.val (.int p0), .val (.int p1), .unset, .unset, .unset, .unset] [(.int (11 : Int32)), (.ref ar), (.ref ar)])) _
    refine X46.ldcInt hx hown (mvT hZ (hw _ (List.mem_of_getElem? (i := 2) rfl))) (g := (mkF m 67 #[.val (.int p0), .val (.int p1), .unset, .unset, .unset, .unset] [(.int (11 : Int32)), (.ref ar), (.ref ar)])) rfl (hb hby at_67) _ ?_
    show Steps p.tables e below (T46.setTop (mkF m 69 #[.val (.int p0), .val (.int p1), .unset, .unset, .unset, .unset] [(.int (65546 : Int32)), (.int (11 : Int32)), (.ref ar), (.ref ar)])) _
    exact κ)
  obtain ⟨cl49, Ar49, q49, S49, M49, H49, G49⟩ := V_ar_46
  have in49 : ¬ ((11 : Int32) < 0 ∨ cl49.slots.size ≤ ((11 : Int32)).toNatClampNeg) := inb_of S49 ⟨by decide, by decide⟩
  obtain ⟨T50, h50, X50, e50, W50, st50⟩ := stI X46 hx hZ e46 Ar49 (j := (11 : Int32)) in49 (g := (mkF m 69 #[.val (.int p0), .val (.int p1), .unset, .unset, .unset, .unset] [(.int (65546 : Int32)), (.int (11 : Int32)), (.ref ar), (.ref ar)])) rfl rfl (hb hby at_69)
  have N50 := Fr.snoc X50 N46 g_ar
  have Z50 : n0 ≤ h50.size := Nat.le_trans Z46 (Keep.of_wr W50).1
  have V_ar_50 : Arv Z h50 ar k2 .int (15 : Int32) [(.int (9 : Int32)), (.int (10 : Int32)), (.int (13 : Int32)), (.int (32 : Int32)), (.int (11 : Int32)), (.int (12 : Int32)), (.int (8 : Int32)), (.int (14 : Int32)), (.int (31 : Int32)), (.int (33 : Int32)), (.int (65568 : Int32)), (.int (65546 : Int32)), (.int (0 : Int32)), (.int (0 : Int32)), (.int (0 : Int32))] (.int (0 : Int32)) := Arv.set Ar49 q49 S49 M49 H49 G49 rfl W50 11 rfl (Nat.le_of_ble_eq_true rfl)
  have pre51 := fun τ (κ : Steps p.tables e below (T50.setTop (mkF m 70 #[.val (.int p0), .val (.int p1), .unset, .unset, .unset, .unset] [(.ref ar)])) τ) => pre48 τ (st50 _ κ)
  have pre52 := fun τ (κ : Steps p.tables e below (T50.setTop (mkF m 75 #[.val (.int p0), .val (.int p1), .unset, .unset, .unset, .unset] [(.int (-32 : Int32)), (.int (12 : Int32)), (.ref ar), (.ref ar)])) τ) => pre51 τ (by
    refine XS.dup X50.here hx rfl (hb hby at_70) rfl rfl ?_
    show Steps p.tables e below (T50.setTop (mkF m 71 #[.val (.int p0), .val (.int p1), .unset, .unset, .unset, .unset] [(.ref ar), (.ref ar)])) _
    refine XS.bipush X50.here hx rfl (hb hby at_71) ?_
    show Steps p.tables e below (T50.setTop (mkF m 73 #[.val (.int p0), .val (.int p1), .unset, .unset, .unset, .unset] [(.int (12 : Int32)), (.ref ar), (.ref ar)])) _
    refine XS.bipush X50.here hx rfl (hb hby at_73) ?_
    show Steps p.tables e below (T50.setTop (mkF m 75 #[.val (.int p0), .val (.int p1), .unset, .unset, .unset, .unset] [(.int (-32 : Int32)), (.int (12 : Int32)), (.ref ar), (.ref ar)])) _
    exact κ)
  obtain ⟨cl53, Ar53, q53, S53, M53, H53, G53⟩ := V_ar_50
  have in53 : ¬ ((12 : Int32) < 0 ∨ cl53.slots.size ≤ ((12 : Int32)).toNatClampNeg) := inb_of S53 ⟨by decide, by decide⟩
  obtain ⟨T54, h54, X54, e54, W54, st54⟩ := stI X50 hx hZ e50 Ar53 (j := (12 : Int32)) in53 (g := (mkF m 75 #[.val (.int p0), .val (.int p1), .unset, .unset, .unset, .unset] [(.int (-32 : Int32)), (.int (12 : Int32)), (.ref ar), (.ref ar)])) rfl rfl (hb hby at_75)
  have N54 := Fr.snoc X54 N50 g_ar
  have Z54 : n0 ≤ h54.size := Nat.le_trans Z50 (Keep.of_wr W54).1
  have V_ar_54 : Arv Z h54 ar k2 .int (15 : Int32) [(.int (9 : Int32)), (.int (10 : Int32)), (.int (13 : Int32)), (.int (32 : Int32)), (.int (11 : Int32)), (.int (12 : Int32)), (.int (8 : Int32)), (.int (14 : Int32)), (.int (31 : Int32)), (.int (33 : Int32)), (.int (65568 : Int32)), (.int (65546 : Int32)), (.int (-32 : Int32)), (.int (0 : Int32)), (.int (0 : Int32))] (.int (0 : Int32)) := Arv.set Ar53 q53 S53 M53 H53 G53 rfl W54 12 rfl (Nat.le_of_ble_eq_true rfl)
  have pre55 := fun τ (κ : Steps p.tables e below (T54.setTop (mkF m 76 #[.val (.int p0), .val (.int p1), .unset, .unset, .unset, .unset] [(.ref ar)])) τ) => pre52 τ (st54 _ κ)
  have pre56 := fun τ (κ : Steps p.tables e below (T54.setTop (mkF m 82 #[.val (.int p0), .val (.int p1), .unset, .unset, .unset, .unset] [(.int (133 : Int32)), (.int (13 : Int32)), (.ref ar), (.ref ar)])) τ) => pre55 τ (by
    refine XS.dup X54.here hx rfl (hb hby at_76) rfl rfl ?_
    show Steps p.tables e below (T54.setTop (mkF m 77 #[.val (.int p0), .val (.int p1), .unset, .unset, .unset, .unset] [(.ref ar), (.ref ar)])) _
    refine XS.bipush X54.here hx rfl (hb hby at_77) ?_
    show Steps p.tables e below (T54.setTop (mkF m 79 #[.val (.int p0), .val (.int p1), .unset, .unset, .unset, .unset] [(.int (13 : Int32)), (.ref ar), (.ref ar)])) _
    refine XS.sipush X54.here hx rfl (hb hby at_79) ?_
    show Steps p.tables e below (T54.setTop (mkF m 82 #[.val (.int p0), .val (.int p1), .unset, .unset, .unset, .unset] [(.int (133 : Int32)), (.int (13 : Int32)), (.ref ar), (.ref ar)])) _
    exact κ)
  obtain ⟨cl57, Ar57, q57, S57, M57, H57, G57⟩ := V_ar_54
  have in57 : ¬ ((13 : Int32) < 0 ∨ cl57.slots.size ≤ ((13 : Int32)).toNatClampNeg) := inb_of S57 ⟨by decide, by decide⟩
  obtain ⟨T58, h58, X58, e58, W58, st58⟩ := stI X54 hx hZ e54 Ar57 (j := (13 : Int32)) in57 (g := (mkF m 82 #[.val (.int p0), .val (.int p1), .unset, .unset, .unset, .unset] [(.int (133 : Int32)), (.int (13 : Int32)), (.ref ar), (.ref ar)])) rfl rfl (hb hby at_82)
  have N58 := Fr.snoc X58 N54 g_ar
  have Z58 : n0 ≤ h58.size := Nat.le_trans Z54 (Keep.of_wr W58).1
  have V_ar_58 : Arv Z h58 ar k2 .int (15 : Int32) [(.int (9 : Int32)), (.int (10 : Int32)), (.int (13 : Int32)), (.int (32 : Int32)), (.int (11 : Int32)), (.int (12 : Int32)), (.int (8 : Int32)), (.int (14 : Int32)), (.int (31 : Int32)), (.int (33 : Int32)), (.int (65568 : Int32)), (.int (65546 : Int32)), (.int (-32 : Int32)), (.int (133 : Int32)), (.int (0 : Int32))] (.int (0 : Int32)) := Arv.set Ar57 q57 S57 M57 H57 G57 rfl W58 13 rfl (Nat.le_of_ble_eq_true rfl)
  have pre59 := fun τ (κ : Steps p.tables e below (T58.setTop (mkF m 83 #[.val (.int p0), .val (.int p1), .unset, .unset, .unset, .unset] [(.ref ar)])) τ) => pre56 τ (st58 _ κ)
  have pre60 := fun τ (κ : Steps p.tables e below (T58.setTop (mkF m 89 #[.val (.int p0), .val (.int p1), .unset, .unset, .unset, .unset] [(.int (160 : Int32)), (.int (14 : Int32)), (.ref ar), (.ref ar)])) τ) => pre59 τ (by
    refine XS.dup X58.here hx rfl (hb hby at_83) rfl rfl ?_
    show Steps p.tables e below (T58.setTop (mkF m 84 #[.val (.int p0), .val (.int p1), .unset, .unset, .unset, .unset] [(.ref ar), (.ref ar)])) _
    refine XS.bipush X58.here hx rfl (hb hby at_84) ?_
    show Steps p.tables e below (T58.setTop (mkF m 86 #[.val (.int p0), .val (.int p1), .unset, .unset, .unset, .unset] [(.int (14 : Int32)), (.ref ar), (.ref ar)])) _
    refine XS.sipush X58.here hx rfl (hb hby at_86) ?_
    show Steps p.tables e below (T58.setTop (mkF m 89 #[.val (.int p0), .val (.int p1), .unset, .unset, .unset, .unset] [(.int (160 : Int32)), (.int (14 : Int32)), (.ref ar), (.ref ar)])) _
    exact κ)
  obtain ⟨cl61, Ar61, q61, S61, M61, H61, G61⟩ := V_ar_58
  have in61 : ¬ ((14 : Int32) < 0 ∨ cl61.slots.size ≤ ((14 : Int32)).toNatClampNeg) := inb_of S61 ⟨by decide, by decide⟩
  obtain ⟨T62, h62, X62, e62, W62, st62⟩ := stI X58 hx hZ e58 Ar61 (j := (14 : Int32)) in61 (g := (mkF m 89 #[.val (.int p0), .val (.int p1), .unset, .unset, .unset, .unset] [(.int (160 : Int32)), (.int (14 : Int32)), (.ref ar), (.ref ar)])) rfl rfl (hb hby at_89)
  have N62 := Fr.snoc X62 N58 g_ar
  have Z62 : n0 ≤ h62.size := Nat.le_trans Z58 (Keep.of_wr W62).1
  have V_ar_62 : Arv Z h62 ar k2 .int (15 : Int32) [(.int (9 : Int32)), (.int (10 : Int32)), (.int (13 : Int32)), (.int (32 : Int32)), (.int (11 : Int32)), (.int (12 : Int32)), (.int (8 : Int32)), (.int (14 : Int32)), (.int (31 : Int32)), (.int (33 : Int32)), (.int (65568 : Int32)), (.int (65546 : Int32)), (.int (-32 : Int32)), (.int (133 : Int32)), (.int (160 : Int32))] (.int (0 : Int32)) := Arv.set Ar61 q61 S61 M61 H61 G61 rfl W62 14 rfl (Nat.le_of_ble_eq_true rfl)
  have pre63 := fun τ (κ : Steps p.tables e below (T62.setTop (mkF m 90 #[.val (.int p0), .val (.int p1), .unset, .unset, .unset, .unset] [(.ref ar)])) τ) => pre60 τ (st62 _ κ)
  have pre64 := fun τ (κ : Steps p.tables e below (T62.setTop (mkF m 95 #[.val (.int p0), .val (.int p1), .val (.ref ar), .unset, .unset, .unset] [(.int (p1 &&& (31 : Int32)))])) τ) => pre63 τ (by
    refine XS.astoreN X62.here hx rfl (hb hby at_90) rfl rfl (l' := #[.val (.int p0), .val (.int p1), .val (.ref ar), .unset, .unset, .unset]) rfl ?_
    show Steps p.tables e below (T62.setTop (mkF m 91 #[.val (.int p0), .val (.int p1), .val (.ref ar), .unset, .unset, .unset] [])) _
    refine XS.iloadN X62.here hx rfl (hb hby at_91) rfl ?_
    show Steps p.tables e below (T62.setTop (mkF m 92 #[.val (.int p0), .val (.int p1), .val (.ref ar), .unset, .unset, .unset] [(.int p1)])) _
    refine XS.bipush X62.here hx rfl (hb hby at_92) ?_
    show Steps p.tables e below (T62.setTop (mkF m 94 #[.val (.int p0), .val (.int p1), .val (.ref ar), .unset, .unset, .unset] [(.int (31 : Int32)), (.int p1)])) _
    refine XS.iand X62.here hx rfl (hb hby at_94) rfl ?_
    show Steps p.tables e below (T62.setTop (mkF m 95 #[.val (.int p0), .val (.int p1), .val (.ref ar), .unset, .unset, .unset] [(.int (p1 &&& (31 : Int32)))])) _
    exact κ)
  obtain ⟨pk, h_pk⟩ : ∃ z : Int32, z = (p1 &&& (31 : Int32)) := ⟨_, rfl⟩
  rw [← h_pk] at pre64
  have hnn : ¬ pk < 0 := by rw [h_pk]; exact own_nn _
  have pre65 := fun τ (κ : Steps p.tables e below (T62.setTop (mkF m 99 #[.val (.int p0), .val (.int p1), .val (.ref ar), .val (.int pk), .unset, .unset] [(.int (15 : Int32)), (.int pk)])) τ) => pre64 τ (by
    refine XS.istoreN X62.here hx rfl (hb hby at_95) rfl (l' := #[.val (.int p0), .val (.int p1), .val (.ref ar), .val (.int pk), .unset, .unset]) rfl ?_
    show Steps p.tables e below (T62.setTop (mkF m 96 #[.val (.int p0), .val (.int p1), .val (.ref ar), .val (.int pk), .unset, .unset] [])) _
    refine XS.iloadN X62.here hx rfl (hb hby at_96) rfl ?_
    show Steps p.tables e below (T62.setTop (mkF m 97 #[.val (.int p0), .val (.int p1), .val (.ref ar), .val (.int pk), .unset, .unset] [(.int pk)])) _
    refine XS.bipush X62.here hx rfl (hb hby at_97) ?_
    show Steps p.tables e below (T62.setTop (mkF m 99 #[.val (.int p0), .val (.int p1), .val (.ref ar), .val (.int pk), .unset, .unset] [(.int (15 : Int32)), (.int pk)])) _
    exact κ)
  obtain ⟨x, pre66⟩ : ∃ x : Int32, ∀ τ, Steps p.tables e below (T62.setTop (mkF m 111 #[.val (.int p0), .val (.int p1), .val (.ref ar), .val (.int pk), .val (.int x), .unset] [])) τ → Steps p.tables e below (s₁.setTop (entryFrame m #[(.int p0), (.int p1)] maxLocals)) τ := by
    by_cases hc99 : pk < (15 : Int32)
    · have pre67 := fun τ (κ : Steps p.tables e below (T62.setTop (mkF m 104 #[.val (.int p0), .val (.int p1), .val (.ref ar), .val (.int pk), .unset, .unset] [(.int pk), (.ref ar)])) τ) => pre65 τ (by
        refine XS.icmpNo X62.here hx rfl (hb hby at_99) rfl (tlt hc99).2.1 ?_
        show Steps p.tables e below (T62.setTop (mkF m 102 #[.val (.int p0), .val (.int p1), .val (.ref ar), .val (.int pk), .unset, .unset] [])) _
        refine XS.aloadN X62.here hx rfl (hb hby at_102) rfl rfl ?_
        show Steps p.tables e below (T62.setTop (mkF m 103 #[.val (.int p0), .val (.int p1), .val (.ref ar), .val (.int pk), .unset, .unset] [(.ref ar)])) _
        refine XS.iloadN X62.here hx rfl (hb hby at_103) rfl ?_
        show Steps p.tables e below (T62.setTop (mkF m 104 #[.val (.int p0), .val (.int p1), .val (.ref ar), .val (.int pk), .unset, .unset] [(.int pk), (.ref ar)])) _
        exact κ)
      obtain ⟨cl68, Ar68, -, S68, M68, H68, -⟩ := V_ar_62
      have in68 : ¬ (pk < 0 ∨ cl68.slots.size ≤ (pk).toNatClampNeg) := inb_of S68 ⟨hnn, hc99⟩
      have at68 : cl68.slots[(pk).toNatClampNeg]? = some (.int ([(9 : Int32), (10 : Int32), (13 : Int32), (32 : Int32), (11 : Int32), (12 : Int32), (8 : Int32), (14 : Int32), (31 : Int32), (33 : Int32), (65568 : Int32), (65546 : Int32), (-32 : Int32), (133 : Int32), (160 : Int32)].getD pk.toNatClampNeg 0)) := H68.at in68 (own_ints [(9 : Int32), (10 : Int32), (13 : Int32), (32 : Int32), (11 : Int32), (12 : Int32), (8 : Int32), (14 : Int32), (31 : Int32), (33 : Int32), (65568 : Int32), (65546 : Int32), (-32 : Int32), (133 : Int32), (160 : Int32)] _)
      have pre69 := fun τ (κ : Steps p.tables e below (T62.setTop (mkF m 111 #[.val (.int p0), .val (.int p1), .val (.ref ar), .val (.int pk), .val (.int ([(9 : Int32), (10 : Int32), (13 : Int32), (32 : Int32), (11 : Int32), (12 : Int32), (8 : Int32), (14 : Int32), (31 : Int32), (33 : Int32), (65568 : Int32), (65546 : Int32), (-32 : Int32), (133 : Int32), (160 : Int32)].getD pk.toNatClampNeg 0)), .unset] [])) τ) => pre67 τ (by
        refine X62.iaload hx (j := pk) (v := (.int ([(9 : Int32), (10 : Int32), (13 : Int32), (32 : Int32), (11 : Int32), (12 : Int32), (8 : Int32), (14 : Int32), (31 : Int32), (33 : Int32), (65568 : Int32), (65546 : Int32), (-32 : Int32), (133 : Int32), (160 : Int32)].getD pk.toNatClampNeg 0))) (by rw [e62]; exact Ar68.1) (State.isArrayOf_alike hZ.alike Ar68.2.1) Ar68.2.2 in68 at68 (g := (mkF m 104 #[.val (.int p0), .val (.int p1), .val (.ref ar), .val (.int pk), .unset, .unset] [(.int pk), (.ref ar)])) rfl rfl (hb hby at_104) _ ?_
        show Steps p.tables e below (T62.setTop (mkF m 105 #[.val (.int p0), .val (.int p1), .val (.ref ar), .val (.int pk), .unset, .unset] [(.int ([(9 : Int32), (10 : Int32), (13 : Int32), (32 : Int32), (11 : Int32), (12 : Int32), (8 : Int32), (14 : Int32), (31 : Int32), (33 : Int32), (65568 : Int32), (65546 : Int32), (-32 : Int32), (133 : Int32), (160 : Int32)].getD pk.toNatClampNeg 0))])) _
        refine XS.goto X62.here hx rfl (pc0 := 105) (pc' := 109) rfl (hb hby at_105) (by decide) (by decide) ?_
        show Steps p.tables e below (T62.setTop (mkF m 109 #[.val (.int p0), .val (.int p1), .val (.ref ar), .val (.int pk), .unset, .unset] [(.int ([(9 : Int32), (10 : Int32), (13 : Int32), (32 : Int32), (11 : Int32), (12 : Int32), (8 : Int32), (14 : Int32), (31 : Int32), (33 : Int32), (65568 : Int32), (65546 : Int32), (-32 : Int32), (133 : Int32), (160 : Int32)].getD pk.toNatClampNeg 0))])) _
        refine XS.istore X62.here hx rfl (hb hby at_109) rfl (l' := #[.val (.int p0), .val (.int p1), .val (.ref ar), .val (.int pk), .val (.int ([(9 : Int32), (10 : Int32), (13 : Int32), (32 : Int32), (11 : Int32), (12 : Int32), (8 : Int32), (14 : Int32), (31 : Int32), (33 : Int32), (65568 : Int32), (65546 : Int32), (-32 : Int32), (133 : Int32), (160 : Int32)].getD pk.toNatClampNeg 0)), .unset]) rfl ?_
        show Steps p.tables e below (T62.setTop (mkF m 111 #[.val (.int p0), .val (.int p1), .val (.ref ar), .val (.int pk), .val (.int ([(9 : Int32), (10 : Int32), (13 : Int32), (32 : Int32), (11 : Int32), (12 : Int32), (8 : Int32), (14 : Int32), (31 : Int32), (33 : Int32), (65568 : Int32), (65546 : Int32), (-32 : Int32), (133 : Int32), (160 : Int32)].getD pk.toNatClampNeg 0)), .unset] [])) _
        exact κ)
      exact ⟨_, pre69⟩
    · have pre70 := fun τ (κ : Steps p.tables e below (T62.setTop (mkF m 111 #[.val (.int p0), .val (.int p1), .val (.ref ar), .val (.int pk), .val (.int p0), .unset] [])) τ) => pre65 τ (by
        refine XS.icmpYes X62.here hx rfl (pc0 := 99) (pc' := 108) rfl (hb hby at_99) rfl (flt hc99).2.1 (by decide) (by decide) ?_
        show Steps p.tables e below (T62.setTop (mkF m 108 #[.val (.int p0), .val (.int p1), .val (.ref ar), .val (.int pk), .unset, .unset] [])) _
        refine XS.iloadN X62.here hx rfl (hb hby at_108) rfl ?_
        show Steps p.tables e below (T62.setTop (mkF m 109 #[.val (.int p0), .val (.int p1), .val (.ref ar), .val (.int pk), .unset, .unset] [(.int p0)])) _
        refine XS.istore X62.here hx rfl (hb hby at_109) rfl (l' := #[.val (.int p0), .val (.int p1), .val (.ref ar), .val (.int pk), .val (.int p0), .unset]) rfl ?_
        show Steps p.tables e below (T62.setTop (mkF m 111 #[.val (.int p0), .val (.int p1), .val (.ref ar), .val (.int pk), .val (.int p0), .unset] [])) _
        exact κ)
      exact ⟨_, pre70⟩
  obtain ⟨E, hE, pre71⟩ : ∃ E : Int32, (E = own_sp x) ∧ ∀ τ, Steps p.tables e below (T62.setTop (mkF m 153 #[.val (.int p0), .val (.int p1), .val (.ref ar), .val (.int pk), .val (.int x), .val (.int E)] [])) τ → Steps p.tables e below (s₁.setTop (entryFrame m #[(.int p0), (.int p1)] maxLocals)) τ := by
    have pre72 := fun τ (κ : Steps p.tables e below (T62.setTop (mkF m 115 #[.val (.int p0), .val (.int p1), .val (.ref ar), .val (.int pk), .val (.int x), .unset] [(.int (32 : Int32)), (.int x)])) τ) => pre66 τ (by
      refine XS.iload X62.here hx rfl (hb hby at_111) rfl ?_
      show Steps p.tables e below (T62.setTop (mkF m 113 #[.val (.int p0), .val (.int p1), .val (.ref ar), .val (.int pk), .val (.int x), .unset] [(.int x)])) _
      refine XS.bipush X62.here hx rfl (hb hby at_113) ?_
      show Steps p.tables e below (T62.setTop (mkF m 115 #[.val (.int p0), .val (.int p1), .val (.ref ar), .val (.int pk), .val (.int x), .unset] [(.int (32 : Int32)), (.int x)])) _
      exact κ)
    by_cases hc115 : x = (32 : Int32)
    · have pre73 := fun τ (κ : Steps p.tables e below (T62.setTop (mkF m 153 #[.val (.int p0), .val (.int p1), .val (.ref ar), .val (.int pk), .val (.int x), .val (.int (1 : Int32))] [])) τ) => pre72 τ (by
        refine XS.icmpYes X62.here hx rfl (pc0 := 115) (pc' := 146) rfl (hb hby at_115) rfl (teq hc115).1 (by decide) (by decide) ?_
        show Steps p.tables e below (T62.setTop (mkF m 146 #[.val (.int p0), .val (.int p1), .val (.ref ar), .val (.int pk), .val (.int x), .unset] [])) _
        refine XS.iconst X62.here hx rfl (hb hby at_146) ?_
        show Steps p.tables e below (T62.setTop (mkF m 147 #[.val (.int p0), .val (.int p1), .val (.ref ar), .val (.int pk), .val (.int x), .unset] [(.int (1 : Int32))])) _
        refine XS.goto X62.here hx rfl (pc0 := 147) (pc' := 151) rfl (hb hby at_147) (by decide) (by decide) ?_
        show Steps p.tables e below (T62.setTop (mkF m 151 #[.val (.int p0), .val (.int p1), .val (.ref ar), .val (.int pk), .val (.int x), .unset] [(.int (1 : Int32))])) _
        refine XS.istore X62.here hx rfl (hb hby at_151) rfl (l' := #[.val (.int p0), .val (.int p1), .val (.ref ar), .val (.int pk), .val (.int x), .val (.int (1 : Int32))]) rfl ?_
        show Steps p.tables e below (T62.setTop (mkF m 153 #[.val (.int p0), .val (.int p1), .val (.ref ar), .val (.int pk), .val (.int x), .val (.int (1 : Int32))] [])) _
        exact κ)
      exact ⟨_, own_sp1 (Or.inl hc115), pre73⟩
    · have pre74 := fun τ (κ : Steps p.tables e below (T62.setTop (mkF m 122 #[.val (.int p0), .val (.int p1), .val (.ref ar), .val (.int pk), .val (.int x), .unset] [(.int (9 : Int32)), (.int x)])) τ) => pre72 τ (by
        refine XS.icmpNo X62.here hx rfl (hb hby at_115) rfl (feq hc115).1 ?_
        show Steps p.tables e below (T62.setTop (mkF m 118 #[.val (.int p0), .val (.int p1), .val (.ref ar), .val (.int pk), .val (.int x), .unset] [])) _
        refine XS.iload X62.here hx rfl (hb hby at_118) rfl ?_
        show Steps p.tables e below (T62.setTop (mkF m 120 #[.val (.int p0), .val (.int p1), .val (.ref ar), .val (.int pk), .val (.int x), .unset] [(.int x)])) _
        refine XS.bipush X62.here hx rfl (hb hby at_120) ?_
        show Steps p.tables e below (T62.setTop (mkF m 122 #[.val (.int p0), .val (.int p1), .val (.ref ar), .val (.int pk), .val (.int x), .unset] [(.int (9 : Int32)), (.int x)])) _
        exact κ)
      by_cases hc122 : x < (9 : Int32)
      · have pre75 := fun τ (κ : Steps p.tables e below (T62.setTop (mkF m 153 #[.val (.int p0), .val (.int p1), .val (.ref ar), .val (.int pk), .val (.int x), .val (.int (0 : Int32))] [])) τ) => pre74 τ (by
          refine XS.icmpYes X62.here hx rfl (pc0 := 122) (pc' := 150) rfl (hb hby at_122) rfl (tlt hc122).1 (by decide) (by decide) ?_
          show Steps p.tables e below (T62.setTop (mkF m 150 #[.val (.int p0), .val (.int p1), .val (.ref ar), .val (.int pk), .val (.int x), .unset] [])) _
          refine XS.iconst X62.here hx rfl (hb hby at_150) ?_
          show Steps p.tables e below (T62.setTop (mkF m 151 #[.val (.int p0), .val (.int p1), .val (.ref ar), .val (.int pk), .val (.int x), .unset] [(.int (0 : Int32))])) _
          refine XS.istore X62.here hx rfl (hb hby at_151) rfl (l' := #[.val (.int p0), .val (.int p1), .val (.ref ar), .val (.int pk), .val (.int x), .val (.int (0 : Int32))]) rfl ?_
          show Steps p.tables e below (T62.setTop (mkF m 153 #[.val (.int p0), .val (.int p1), .val (.ref ar), .val (.int pk), .val (.int x), .val (.int (0 : Int32))] [])) _
          exact κ)
        exact ⟨_, own_sp0 (fun h => by rcases h with rfl | rfl | rfl | rfl <;> first | exact absurd rfl hc115 | exact absurd hc122 (by decide)), pre75⟩
      · have pre76 := fun τ (κ : Steps p.tables e below (T62.setTop (mkF m 129 #[.val (.int p0), .val (.int p1), .val (.ref ar), .val (.int pk), .val (.int x), .unset] [(.int (13 : Int32)), (.int x)])) τ) => pre74 τ (by
          refine XS.icmpNo X62.here hx rfl (hb hby at_122) rfl (flt hc122).1 ?_
          show Steps p.tables e below (T62.setTop (mkF m 125 #[.val (.int p0), .val (.int p1), .val (.ref ar), .val (.int pk), .val (.int x), .unset] [])) _
          refine XS.iload X62.here hx rfl (hb hby at_125) rfl ?_
          show Steps p.tables e below (T62.setTop (mkF m 127 #[.val (.int p0), .val (.int p1), .val (.ref ar), .val (.int pk), .val (.int x), .unset] [(.int x)])) _
          refine XS.bipush X62.here hx rfl (hb hby at_127) ?_
          show Steps p.tables e below (T62.setTop (mkF m 129 #[.val (.int p0), .val (.int p1), .val (.ref ar), .val (.int pk), .val (.int x), .unset] [(.int (13 : Int32)), (.int x)])) _
          exact κ)
        by_cases hc129 : (13 : Int32) < x
        · have pre77 := fun τ (κ : Steps p.tables e below (T62.setTop (mkF m 153 #[.val (.int p0), .val (.int p1), .val (.ref ar), .val (.int pk), .val (.int x), .val (.int (0 : Int32))] [])) τ) => pre76 τ (by
            refine XS.icmpYes X62.here hx rfl (pc0 := 129) (pc' := 150) rfl (hb hby at_129) rfl (tlt hc129).2.2.1 (by decide) (by decide) ?_
            show Steps p.tables e below (T62.setTop (mkF m 150 #[.val (.int p0), .val (.int p1), .val (.ref ar), .val (.int pk), .val (.int x), .unset] [])) _
            refine XS.iconst X62.here hx rfl (hb hby at_150) ?_
            show Steps p.tables e below (T62.setTop (mkF m 151 #[.val (.int p0), .val (.int p1), .val (.ref ar), .val (.int pk), .val (.int x), .unset] [(.int (0 : Int32))])) _
            refine XS.istore X62.here hx rfl (hb hby at_151) rfl (l' := #[.val (.int p0), .val (.int p1), .val (.ref ar), .val (.int pk), .val (.int x), .val (.int (0 : Int32))]) rfl ?_
            show Steps p.tables e below (T62.setTop (mkF m 153 #[.val (.int p0), .val (.int p1), .val (.ref ar), .val (.int pk), .val (.int x), .val (.int (0 : Int32))] [])) _
            exact κ)
          exact ⟨_, own_sp0 (fun h => by rcases h with rfl | rfl | rfl | rfl <;> first | exact absurd rfl hc115 | exact absurd hc129 (by decide)), pre77⟩
        · have pre78 := fun τ (κ : Steps p.tables e below (T62.setTop (mkF m 136 #[.val (.int p0), .val (.int p1), .val (.ref ar), .val (.int pk), .val (.int x), .unset] [(.int (11 : Int32)), (.int x)])) τ) => pre76 τ (by
            refine XS.icmpNo X62.here hx rfl (hb hby at_129) rfl (flt hc129).2.2.1 ?_
            show Steps p.tables e below (T62.setTop (mkF m 132 #[.val (.int p0), .val (.int p1), .val (.ref ar), .val (.int pk), .val (.int x), .unset] [])) _
            refine XS.iload X62.here hx rfl (hb hby at_132) rfl ?_
            show Steps p.tables e below (T62.setTop (mkF m 134 #[.val (.int p0), .val (.int p1), .val (.ref ar), .val (.int pk), .val (.int x), .unset] [(.int x)])) _
            refine XS.bipush X62.here hx rfl (hb hby at_134) ?_
            show Steps p.tables e below (T62.setTop (mkF m 136 #[.val (.int p0), .val (.int p1), .val (.ref ar), .val (.int pk), .val (.int x), .unset] [(.int (11 : Int32)), (.int x)])) _
            exact κ)
          by_cases hc136 : x = (11 : Int32)
          · have pre79 := fun τ (κ : Steps p.tables e below (T62.setTop (mkF m 153 #[.val (.int p0), .val (.int p1), .val (.ref ar), .val (.int pk), .val (.int x), .val (.int (0 : Int32))] [])) τ) => pre78 τ (by
              refine XS.icmpYes X62.here hx rfl (pc0 := 136) (pc' := 150) rfl (hb hby at_136) rfl (teq hc136).1 (by decide) (by decide) ?_
              show Steps p.tables e below (T62.setTop (mkF m 150 #[.val (.int p0), .val (.int p1), .val (.ref ar), .val (.int pk), .val (.int x), .unset] [])) _
              refine XS.iconst X62.here hx rfl (hb hby at_150) ?_
              show Steps p.tables e below (T62.setTop (mkF m 151 #[.val (.int p0), .val (.int p1), .val (.ref ar), .val (.int pk), .val (.int x), .unset] [(.int (0 : Int32))])) _
              refine XS.istore X62.here hx rfl (hb hby at_151) rfl (l' := #[.val (.int p0), .val (.int p1), .val (.ref ar), .val (.int pk), .val (.int x), .val (.int (0 : Int32))]) rfl ?_
              show Steps p.tables e below (T62.setTop (mkF m 153 #[.val (.int p0), .val (.int p1), .val (.ref ar), .val (.int pk), .val (.int x), .val (.int (0 : Int32))] [])) _
              exact κ)
            exact ⟨_, own_sp0 (fun h => by rcases h with rfl | rfl | rfl | rfl <;> exact absurd hc136 (by decide)), pre79⟩
          · have pre80 := fun τ (κ : Steps p.tables e below (T62.setTop (mkF m 143 #[.val (.int p0), .val (.int p1), .val (.ref ar), .val (.int pk), .val (.int x), .unset] [(.int (12 : Int32)), (.int x)])) τ) => pre78 τ (by
              refine XS.icmpNo X62.here hx rfl (hb hby at_136) rfl (feq hc136).1 ?_
              show Steps p.tables e below (T62.setTop (mkF m 139 #[.val (.int p0), .val (.int p1), .val (.ref ar), .val (.int pk), .val (.int x), .unset] [])) _
              refine XS.iload X62.here hx rfl (hb hby at_139) rfl ?_
              show Steps p.tables e below (T62.setTop (mkF m 141 #[.val (.int p0), .val (.int p1), .val (.ref ar), .val (.int pk), .val (.int x), .unset] [(.int x)])) _
              refine XS.bipush X62.here hx rfl (hb hby at_141) ?_
              show Steps p.tables e below (T62.setTop (mkF m 143 #[.val (.int p0), .val (.int p1), .val (.ref ar), .val (.int pk), .val (.int x), .unset] [(.int (12 : Int32)), (.int x)])) _
              exact κ)
            by_cases hc143 : x = (12 : Int32)
            · have pre81 := fun τ (κ : Steps p.tables e below (T62.setTop (mkF m 153 #[.val (.int p0), .val (.int p1), .val (.ref ar), .val (.int pk), .val (.int x), .val (.int (0 : Int32))] [])) τ) => pre80 τ (by
                refine XS.icmpYes X62.here hx rfl (pc0 := 143) (pc' := 150) rfl (hb hby at_143) rfl (teq hc143).1 (by decide) (by decide) ?_
                show Steps p.tables e below (T62.setTop (mkF m 150 #[.val (.int p0), .val (.int p1), .val (.ref ar), .val (.int pk), .val (.int x), .unset] [])) _
                refine XS.iconst X62.here hx rfl (hb hby at_150) ?_
                show Steps p.tables e below (T62.setTop (mkF m 151 #[.val (.int p0), .val (.int p1), .val (.ref ar), .val (.int pk), .val (.int x), .unset] [(.int (0 : Int32))])) _
                refine XS.istore X62.here hx rfl (hb hby at_151) rfl (l' := #[.val (.int p0), .val (.int p1), .val (.ref ar), .val (.int pk), .val (.int x), .val (.int (0 : Int32))]) rfl ?_
                show Steps p.tables e below (T62.setTop (mkF m 153 #[.val (.int p0), .val (.int p1), .val (.ref ar), .val (.int pk), .val (.int x), .val (.int (0 : Int32))] [])) _
                exact κ)
              exact ⟨_, own_sp0 (fun h => by rcases h with rfl | rfl | rfl | rfl <;> exact absurd hc143 (by decide)), pre81⟩
            · have pre82 := fun τ (κ : Steps p.tables e below (T62.setTop (mkF m 153 #[.val (.int p0), .val (.int p1), .val (.ref ar), .val (.int pk), .val (.int x), .val (.int (1 : Int32))] [])) τ) => pre80 τ (by
                refine XS.icmpNo X62.here hx rfl (hb hby at_143) rfl (feq hc143).1 ?_
                show Steps p.tables e below (T62.setTop (mkF m 146 #[.val (.int p0), .val (.int p1), .val (.ref ar), .val (.int pk), .val (.int x), .unset] [])) _
                refine XS.iconst X62.here hx rfl (hb hby at_146) ?_
                show Steps p.tables e below (T62.setTop (mkF m 147 #[.val (.int p0), .val (.int p1), .val (.ref ar), .val (.int pk), .val (.int x), .unset] [(.int (1 : Int32))])) _
                refine XS.goto X62.here hx rfl (pc0 := 147) (pc' := 151) rfl (hb hby at_147) (by decide) (by decide) ?_
                show Steps p.tables e below (T62.setTop (mkF m 151 #[.val (.int p0), .val (.int p1), .val (.ref ar), .val (.int pk), .val (.int x), .unset] [(.int (1 : Int32))])) _
                refine XS.istore X62.here hx rfl (hb hby at_151) rfl (l' := #[.val (.int p0), .val (.int p1), .val (.ref ar), .val (.int pk), .val (.int x), .val (.int (1 : Int32))]) rfl ?_
                show Steps p.tables e below (T62.setTop (mkF m 153 #[.val (.int p0), .val (.int p1), .val (.ref ar), .val (.int pk), .val (.int x), .val (.int (1 : Int32))] [])) _
                exact κ)
              exact ⟨_, own_sp1 (Or.inr (own_cls hc122 hc129 hc136 hc143)), pre82⟩
  have pre83 := fun τ (κ : Steps p.tables e below (T62.setTop (mkF m 155 #[.val (.int p0), .val (.int p1), .val (.ref ar), .val (.int pk), .val (.int x), .val (.int E)] [(.int x)])) τ) => pre71 τ (by
    refine XS.iload X62.here hx rfl (hb hby at_153) rfl ?_
    show Steps p.tables e below (T62.setTop (mkF m 155 #[.val (.int p0), .val (.int p1), .val (.ref ar), .val (.int pk), .val (.int x), .val (.int E)] [(.int x)])) _
    exact κ)
  obtain ⟨_, _, ⟨T84, L84, k84, n84⟩, -, X84, ⟨Lc84, hQ84, l84, y84, z84⟩, st84⟩ := Jvm.LawKit.callS X62 hx (y := (⟨"com/example/huiqiao/huiqiao/clearing/ElementValue", "isXmlSpace", "(I)Z"⟩ : MethodName)) hown (mvT hZ (hw _ (List.mem_of_getElem? (i := 3) rfl))) (mvT hZ (hw _ (List.mem_of_getElem? (i := 4) rfl))) (mvT hZ (hw _ (List.mem_of_getElem? (i := 5) rfl))) (mvT hZ (hw _ (List.mem_of_getElem? (i := 6) rfl))) (by decide) (backOf (W := 0) (rm1 l Z a0 hw [] x h62 n0 Z62) hZ (hw _ (List.mem_of_getElem? (i := 6) rfl)) (hw _ (List.mem_of_getElem? (i := 5) rfl)) (by decide) (by decide)) (g := (mkF m 155 #[.val (.int p0), .val (.int p1), .val (.ref ar), .val (.int pk), .val (.int x), .val (.int E)] [(.int x)])) rfl (by rw [hml]; rfl) (argsL := [(.int x)]) (rest := []) (lenOf pd_0 rfl) rfl (by show 2 * 0 + _ ≤ _; exact Nat.le_of_eq rfl) (hb hby at_155) (fun _ _ => ⟨rfl, e62, (by decide : 1 + 0 ≤ _), (by decide : 15 + 0 ≤ _)⟩)
  dsimp only [Pt.U, Pt.locs, Pt.cells, Pt.slots] at X84 l84 y84 z84 st84 hQ84
  subst l84 y84 z84
  obtain ⟨rfl, Nq84, hh84⟩ := hQ84
  have V_ar_84 : Arv Z T84.heap ar k2 .int (15 : Int32) [(.int (9 : Int32)), (.int (10 : Int32)), (.int (13 : Int32)), (.int (32 : Int32)), (.int (11 : Int32)), (.int (12 : Int32)), (.int (8 : Int32)), (.int (14 : Int32)), (.int (31 : Int32)), (.int (33 : Int32)), (.int (65568 : Int32)), (.int (65546 : Int32)), (.int (-32 : Int32)), (.int (133 : Int32)), (.int (160 : Int32))] (.int (0 : Int32)) := by rw [hh84]; exact V_ar_62
  have Z84 : n0 ≤ T84.heap.size := by rw [hh84]; exact Z62
  have N84 := Fr.app N62 Nq84
  have pre85 := fun τ (κ : Steps p.tables e below (T84.setTop (mkF m 158 #[.val (.int p0), .val (.int p1), .val (.ref ar), .val (.int pk), .val (.int x), .val (.int E)] [(.int (own_sp x))])) τ) => pre83 τ (st84 _ κ)
  have pre86 := fun τ (κ : Steps p.tables e below (T84.setTop (mkF m 168 #[.val (.int p0), .val (.int p1), .val (.ref ar), .val (.int pk), .val (.int x), .val (.int E)] [(.int (1 : Int32))])) τ) => pre85 τ (by
    refine XS.iload X84.here hx rfl (hb hby at_158) rfl ?_
    show Steps p.tables e below (T84.setTop (mkF m 160 #[.val (.int p0), .val (.int p1), .val (.ref ar), .val (.int pk), .val (.int x), .val (.int E)] [(.int E), (.int (own_sp x))])) _
    refine XS.icmpNo X84.here hx rfl (hb hby at_160) rfl (teq hE.symm).2 ?_
    show Steps p.tables e below (T84.setTop (mkF m 163 #[.val (.int p0), .val (.int p1), .val (.ref ar), .val (.int pk), .val (.int x), .val (.int E)] [])) _
    refine XS.iconst X84.here hx rfl (hb hby at_163) ?_
    show Steps p.tables e below (T84.setTop (mkF m 164 #[.val (.int p0), .val (.int p1), .val (.ref ar), .val (.int pk), .val (.int x), .val (.int E)] [(.int (1 : Int32))])) _
    refine XS.goto X84.here hx rfl (pc0 := 164) (pc' := 168) rfl (hb hby at_164) (by decide) (by decide) ?_
    show Steps p.tables e below (T84.setTop (mkF m 168 #[.val (.int p0), .val (.int p1), .val (.ref ar), .val (.int pk), .val (.int x), .val (.int E)] [(.int (1 : Int32))])) _
    exact κ)
  obtain ⟨fs, hr, hrun, hended, hW, hsame⟩ := X84.leave (v := some (.int (1 : Int32))) (fun h => by rw [Bd.returns] at h; cases h)
  refine ⟨_, _, pre86 _ ?_, hrun, hended, _, _, rfl, ?_, ⟨_, rfl⟩, hW, hsame.mono (by decide) (by decide)⟩
  · exact retN X84 hx (t := .boolean) Bd.returns (by simp) (hb hby at_168) hr
  · show Q0 Z p0 p1 h0 n0 _ T84.heap _
    exact ⟨rfl, N84⟩
set_option maxRecDepth 65536 in
set_option maxHeartbeats 40000000 in
theorem comes_1 {Post : Tables → Env → Array Value → State → Outcome → State → Prop} (hpost : ∀ tb e args s v u, (limb_1_1.after args s (.returned v) u = true ∧ limb_1_2.after args s (.returned v) u = true ∧ True) → FrameEnd s (.returned v) u (Jvm.fieldLocs frame_1_writes args s ++ Jvm.arrayLocs frame_1_arrays args s ++ Jvm.staticLocs frame_1_statics s) 16 128 → Post tb e args s (.returned v) u) :
    ArmFor flags0 classFile x code maxLocals ret World_1 tables_1 room_1 Calls_1 rest_1 Pre_1 Post := by
  intro l hfl _ _ p e ha hc hk s m args below hf hA hF happ hP
  obtain ⟨hcalls, hrest, hpre⟩ := hP
  obtain ⟨-, -, -, hnamed, -, -, -, hat⟩ := (Spec.applies_iff hf).mp happ
  obtain ⟨hg, hn⟩ := and_e (Cond.before_iff.mp (show (Jvm.Cond.and given_1 narrow_1).before args s = true from hpre))
  obtain ⟨gc, ga⟩ := and_e hg
  obtain ⟨ga0, gr0⟩ := and_e ga
  obtain ⟨w0, w1, rfl⟩ : ∃ w0 w1 : Value, args = #[w0, w1] := by
    have hs : args.size = 2 := by simpa [Cond.value, given_1] using gc
    obtain ⟨L⟩ := args
    match L, hs with
    | [w0, w1], _ => exact ⟨w0, w1, rfl⟩
  have hw := fun d (hd : d ∈ tables_1) => atoms_spec (ws := Jvm.Cond.code x code maxLocals ret :: tables_1) hat d (List.mem_cons_of_mem _ hd)
  have hfit : Fit s := fun {y c} hc i hi => by
    obtain ⟨ha, rfl⟩ := Array.getElem?_eq_some_iff.mp hc
    have q := List.all_eq_true.mp ((Array.all_eq_true_iff_forall_mem.mp hF) _ (Array.getElem_mem ha)) i (List.mem_range.mpr hi)
    simpa [Array.getElem?_eq_getElem hi] using q
  obtain ⟨i0, ei0⟩ := is_v ga0
  obtain rfl : w0 = (.int i0) := Option.some.inj ei0
  obtain ⟨i1, ei1⟩ := is_v gr0
  obtain rfl : w1 = (.int i1) := Option.some.inj ei1
  obtain ⟨n, o, h1, h2, h3, _, L, rfl, ⟨rfl, N⟩, hq⟩ := rm0 l s _ hw tables_1 i0 i1 s.heap s.heap.size (Nat.le_refl _) p e ha hc hk s m _ below hf ((Spec.applies_iff_loose hf).mp happ).1 ⟨rfl, State.Warmed39.refl s, rfl⟩ trivial
  refine ⟨n, _, h1, h2, h3, hpost _ _ _ _ _ _ ⟨Cond.after_iff.mpr rfl, Cond.after_iff.mpr (eq_i res_at (Term.int_eval (1)) rfl), trivial⟩ ⟨hq.1, hq.2.1, (hq.2.2.sift fun y hy => Or.inr (N y hy)).mono (by decide) (by decide)⟩⟩
theorem main_1_1 : Claimed_1_1 := comes_1 fun _ _ _ _ _ _ h hF => ⟨h.1, hF⟩
theorem main_1_2 : Claimed_1_2 := comes_1 fun _ _ _ _ _ _ h hF => ⟨h.2.1, hF⟩
end Jvm.Pilot.@@N@@
namespace Jvm.Pilot.@@N@@
open Jvm Jvm.ClassFile Sem Op Lib Jvm.Free Jvm.Stand Jvm.Pilot.@@N@@.Jvm.D
/-! MADE BY PROGRAM (witnessworld.py) out of the Statement's table words and the real class files: 9 classes; the members and pool entries that the words name. The judged class is class 1, her method 1. -/
namespace start1
open Jvm.ClassFile
def u (s : String) : CpInfo := .utf8 (stringToUtf16 s)
/-- a pool by its gaps: so many unusable entries, then the entry; so many at the end -/
def gap : Nat → List CpInfo → List CpInfo
  | 0, r => r
  | n + 1, r => .unusable :: gap n r
def poolList (es : List (Nat × CpInfo)) (last : Nat) : List CpInfo := es.foldr (fun e r => gap e.1 (e.2 :: r)) (gap last [])
def pool (es : List (Nat × CpInfo)) (last : Nat) : Array CpInfo := ⟨poolList es last⟩
def fileOf (pool : Array CpInfo) (this : Nat) (attrs : Array Attribute := #[]) (ms : Array MethodInfo := #[]) (fl : Nat := 33) (sup : Nat := 0) (ifs : Array Nat := #[]) (fds : Array FieldInfo := #[]) : ClassFile where
  minorVersion := 0
  majorVersion := 65
  constantPool := pool
  accessFlags := fl
  thisClass := this
  superClass := sup
  interfaces := ifs
  fields := fds
  methods := ms
  attributes := attrs
def plain (name : String) (sup : Option ClassId) : Class where
  name := name
  kind := .ordinary
  loader := none
  accessFlags := 33
  super := sup
  interfaces := #[]
  cf := none
  fields := #[]
  methods := #[]
  instanceTypes := #[]
  staticTypes := #[]
  resolved := #[]
  callSites := []
  init := .initialized
  statics := none
  mirror := none

def pool0 : Array CpInfo := pool [(5, u "<init>"), (0, u "()V"), (1, .class_ 10), (1, u "java/lang/Object")] 113

def k0m0 : Method := { name := "<init>", desc := "()V", sig := { parameters := [], returnType := none }, accessFlags := 1, code := none }
/-- java/lang/Object -/
def k0 : Class := { plain "java/lang/Object" none with
  accessFlags := 33
  interfaces := #[]
  cf := some (fileOf pool0 8 #[] #[{ accessFlags := 1, nameIndex := 5, descriptorIndex := 6, attributes := #[] }] 33 0 #[] #[])
  fields := #[]
  methods := #[k0m0]
  instanceTypes := #[]
  staticTypes := #[]
  resolved := Array.replicate 124 none
  statics := none }

def pool1 : Array CpInfo := pool [(2, .class_ 4), (1, u "java/lang/Object"), (0, u "<init>"), (0, u "()V"), (0, .integer 65568), (0, .integer 65546), (0, .methodref 10 11), (0, .class_ 12), (0, .nameAndType 13 14), (0, u "com/example/huiqiao/huiqiao/clearing/ElementValue"), (0, u "isXmlSpace"), (0, u "(I)Z"), (0, .class_ 16), (0, u "com/example/huiqiao/huiqiao/clearing/ElementValueIsXmlSpacePinLaw"), (2, u "law"), (0, u "(II)Z")] 5

def k1m0 : Method := { name := "<init>", desc := "()V", sig := { parameters := [], returnType := none }, accessFlags := 2, code := none }
def k1c1 : Code := { maxStack := 4, maxLocals := 6, code := code, exceptionTable := #[], attributes := #[] }
def k1m1 : Method := { name := "law", desc := "(II)Z", sig := { parameters := [.int, .int], returnType := some .boolean }, accessFlags := 9, code := some k1c1 }
/-- com/example/huiqiao/huiqiao/clearing/ElementValueIsXmlSpacePinLaw -/
def k1 : Class := { plain "com/example/huiqiao/huiqiao/clearing/ElementValueIsXmlSpacePinLaw" (some 0) with
  accessFlags := 49
  interfaces := #[]
  cf := some (fileOf pool1 15 #[] #[{ accessFlags := 2, nameIndex := 5, descriptorIndex := 6, attributes := #[] }, { accessFlags := 9, nameIndex := 19, descriptorIndex := 20, attributes := #[] }] 49 2 #[] #[])
  fields := #[]
  methods := #[k1m0, k1m1]
  instanceTypes := #[]
  staticTypes := #[]
  resolved := Array.replicate 26 none
  statics := none }

def pool2 : Array CpInfo := pool [(2, .class_ 4), (1, u "java/lang/Object"), (0, u "<init>"), (0, u "()V"), (47, .class_ 56), (1, u "com/example/huiqiao/huiqiao/clearing/ElementValue"), (0, u "isXmlSpace"), (0, u "(I)Z")] 33

def k2m0 : Method := { name := "<init>", desc := "()V", sig := { parameters := [], returnType := none }, accessFlags := 2, code := none }
def k2c1 : Code := { maxStack := 2, maxLocals := 1, code := prog_7_method_4_code, exceptionTable := #[], attributes := #[] }
def k2m1 : Method := { name := "isXmlSpace", desc := "(I)Z", sig := { parameters := [.int], returnType := some .boolean }, accessFlags := 8, code := some k2c1 }
/-- com/example/huiqiao/huiqiao/clearing/ElementValue -/
def k2 : Class := { plain "com/example/huiqiao/huiqiao/clearing/ElementValue" (some 0) with
  accessFlags := 48
  interfaces := #[]
  cf := some (fileOf pool2 54 #[] #[{ accessFlags := 2, nameIndex := 5, descriptorIndex := 6, attributes := #[] }, { accessFlags := 8, nameIndex := 57, descriptorIndex := 58, attributes := #[] }] 48 2 #[] #[])
  fields := #[]
  methods := #[k2m0, k2m1]
  instanceTypes := #[]
  staticTypes := #[]
  resolved := Array.replicate 92 none
  statics := none }

def pool3 : Array CpInfo := pool [(1, u "java/lang/Cloneable"), (0, .class_ 1), (0, u "java/lang/Object"), (0, .class_ 3)] 3

/-- java/lang/Cloneable -/
def k3 : Class := { plain "java/lang/Cloneable" (some 0) with
  accessFlags := 1537
  interfaces := #[]
  cf := some (fileOf pool3 2 #[] #[] 1537 4 #[] #[])
  fields := #[]
  methods := #[]
  instanceTypes := #[]
  staticTypes := #[]
  resolved := Array.replicate 8 none
  statics := none }

def pool4 : Array CpInfo := pool [(1, u "java/io/Serializable"), (0, .class_ 1), (0, u "java/lang/Object"), (0, .class_ 3)] 3

/-- java/io/Serializable -/
def k4 : Class := { plain "java/io/Serializable" (some 0) with
  accessFlags := 1537
  interfaces := #[]
  cf := some (fileOf pool4 2 #[] #[] 1537 4 #[] #[])
  fields := #[]
  methods := #[]
  instanceTypes := #[]
  staticTypes := #[]
  resolved := Array.replicate 8 none
  statics := none }

/-- the primitive byte -/
def k5 : Class := { plain "byte" none with kind := .primitive 'B', accessFlags := 0x411 }
/-- [B -/
def k6 : Class := { plain "[B" (some 0) with kind := .array 5 .byte, interfaces := #[3, 4], accessFlags := 1041 }

/-- the primitive int -/
def k7 : Class := { plain "int" none with kind := .primitive 'I', accessFlags := 0x411 }
/-- [I -/
def k8 : Class := { plain "[I" (some 0) with kind := .array 7 .int, interfaces := #[3, 4], accessFlags := 1041 }

def heap : Heap := #[]
def classes : Array Class := #[k0, k1, k2, k3, k4, k5, k6, k7, k8]
def interned : List (Array UInt16 × Addr) := []
def slotsUsed : Nat := 0
def theMethod : MethodId := ⟨1, 1⟩
def args0 : Array Value := #[.int 5, .int 3]
def aboutOver (below : List Frame) : State where
  vm := { classes := classes, interned := interned.toArray }
  heap := heap
  slotsUsed := slotsUsed
  threads := #[{ frames := .invoking theMethod args0 :: below }]
def below0 : List Frame := [.native { method := ⟨0, 0⟩, args := #[] }]
def about1 : State := aboutOver below0
def p0 : Program := .bare "" "" ""
def e0 : Env := launch0.env 0 0 0
theorem w_frames : about1.frames = Frame.invoking theMethod args0 :: below0 := rfl
set_option maxRecDepth 65536 in
theorem w_args : argsFit about1.vm theMethod args0 = true := by decide +kernel
set_option maxRecDepth 65536 in
theorem w_heap : heapFits about1 = true := by decide +kernel
set_option maxRecDepth 65536 in
theorem w_runnable : about1.curStatus? = some .runnable := by decide +kernel
set_option maxRecDepth 65536 in
theorem w_alone : about1.alone = true := by decide +kernel
set_option maxRecDepth 65536 in
theorem w_named : about1.methodNamed? x = some theMethod := by decide +kernel
set_option maxRecDepth 65536 in
theorem w_hears : about1.hears theMethod below0 = true := by decide +kernel
set_option maxRecDepth 65536 in
theorem w_ripe : about1.ripe theMethod args0 below0 = true := by decide +kernel
theorem w_running : about1.status = .running := rfl
set_option maxRecDepth 65536 in
theorem w_room : about1.hasRoom e0.platform room_1 = true :=
  launch0.hasRoom_least _ room_1 (by decide +kernel) (by decide +kernel) (by decide +kernel) (by decide +kernel) (by decide +kernel) (by decide +kernel)
theorem allAtoms_all (ts : List Jvm.Cond) (a : Array Jvm.Value) (st : Jvm.State) : (allAtoms ts).before a st = ts.all (fun c => c.before a st) := by
  induction ts with
  | nil => rfl
  | cons c t ih =>
    show (Jvm.Cond.and c (allAtoms t)).before a st = _
    rw [Jvm.Cond.before_and, ih, List.all_cons]
def words1 : List Jvm.Cond := Jvm.Cond.code x code maxLocals ret :: tables_1
/-- a 'code' word, met by the world's own term for the bytes: nothing is compared byte by byte -/
theorem code_word {y : MethodName} {bytes : ByteArray} {mx : Nat} {rt : Option FieldType} {a : Array Value} {s : State} {m : MethodId} {meth : Method} {c : Code} (h1 : s.methodNamed? y = some m) (h2 : s.vm.method? m = some meth) (h3 : meth.code = some c) (h4 : c.code = bytes)
    (h5 : (c.maxLocals == mx && c.exceptionTable.isEmpty && decide (c.maxStack ≤ mostOperands) && decide (meth.sig.returnType = rt) && !meth.locks && decide (parseMethodDescriptor y.desc = some meth.sig)) = true) : (Jvm.Cond.code y bytes mx rt).before a s = true := by
  simp only [Bool.and_eq_true, beq_iff_eq, Bool.not_eq_true', decide_eq_true_eq] at h5
  obtain ⟨⟨⟨⟨⟨g1, g2⟩, g3⟩, g4⟩, g5⟩, g6⟩ := h5
  simp [Cond.before, Cond.holds, Cond.value, h1, h2, h3, h4, g1, g2, g3, g4, g5, g6]
def isCode : Jvm.Cond → Bool
  | .code _ _ _ _ => true
  | _ => false
theorem all_split {L : List Jvm.Cond} {P : Jvm.Cond → Bool} (h1 : L.all (fun c => isCode c || P c) = true) (h2 : ∀ c ∈ L.filter isCode, P c = true) : L.all P = true := by
  refine List.all_eq_true.mpr fun c hc => ?_
  have h := List.all_eq_true.mp h1 c hc
  rcases Bool.eq_false_or_eq_true (isCode c) with hi | hi
  · exact h2 c (List.mem_filter.mpr ⟨hc, hi⟩)
  · simpa [hi] using h
set_option maxRecDepth 65536 in
theorem w_c0 : (Jvm.Cond.code x code maxLocals ret).before args0 about1 = true := code_word (m := ⟨1, 1⟩) (meth := k1m1) (c := k1c1) (by decide +kernel) rfl rfl rfl (by decide +kernel)
set_option maxRecDepth 65536 in
theorem w_c1 : (Jvm.Cond.code ({ cls := "com/example/huiqiao/huiqiao/clearing/ElementValue", name := "isXmlSpace", desc := "(I)Z" } : Jvm.MethodName) prog_7_method_4_code (1 : Nat) (Option.some Jvm.ClassFile.FieldType.boolean)).before args0 about1 = true := code_word (m := ⟨2, 1⟩) (meth := k2m1) (c := k2c1) (by decide +kernel) rfl rfl rfl (by decide +kernel)
def codes1 : List Jvm.Cond := [Jvm.Cond.code x code maxLocals ret, Jvm.Cond.code ({ cls := "com/example/huiqiao/huiqiao/clearing/ElementValue", name := "isXmlSpace", desc := "(I)Z" } : Jvm.MethodName) prog_7_method_4_code (1 : Nat) (Option.some Jvm.ClassFile.FieldType.boolean)]
set_option maxRecDepth 65536 in
theorem codes_eq : words1.filter isCode = codes1 := rfl
theorem w_codes : ∀ c ∈ words1.filter isCode, c.before args0 about1 = true := by
  rw [codes_eq]
  intro c hc
  simp only [codes1, List.mem_cons, List.not_mem_nil, or_false] at hc
  rcases hc with rfl | rfl
  · exact w_c0
  · exact w_c1
set_option maxRecDepth 65536 in
theorem w_t1 : words1.all (fun c => isCode c || c.before args0 about1) = true := by decide +kernel
theorem w_tables : (allAtoms (Jvm.Cond.code x code maxLocals ret :: tables_1)).before args0 about1 = true := by
  rw [allAtoms_all]
  show words1.all (fun c => c.before args0 about1) = true
  refine all_split ?_ w_codes
  rw [w_t1]
set_option maxRecDepth 65536 in
theorem w_case : (Jvm.Cond.and given_1 narrow_1).before args0 about1 = true := by decide +kernel
theorem w_applies : (headSpec (Jvm.Cond.code x code maxLocals ret :: tables_1) room_1).applies x e0.platform about1 = true :=
  (Spec.applies_iff w_frames).mpr ⟨w_running, w_runnable, w_alone, w_named, w_hears, w_ripe, w_room, w_tables⟩
theorem atStart : AtStart classFile x code maxLocals ret World_1 tables_1 room_1 Calls_1 rest_1 Pre_1 launch0 p0 e0 about1 theMethod args0 below0 :=
  ⟨lists_1, trivial, launch0.admits_env _ _ _, launch0.least_env, fairChoices_fair.cas, fairChoices_fair.clock, w_frames, w_args, w_heap, w_applies, trivial, trivial, w_case⟩
end start1
theorem witness_1 : WitnessClaimed_1 := ⟨start1.p0, start1.e0, start1.about1, start1.theMethod, start1.args0, start1.below0, start1.atStart⟩
end Jvm.Pilot.@@N@@
