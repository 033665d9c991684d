import JvmDerived
import JvmDerived.Pilot.@@N@@Statement
import JvmDerived.Pilot.@@N@@Code
set_option linter.unusedVariables false
set_option linter.unusedSimpArgs false
namespace Jvm.RoadKit
open Sem ClassFile Op Lib Jvm.Stand Jvm.Free Jvm.LawKit
section New
variable {p : Program} {l : Launch} {e : Env} {R : Room} {s : State} {m : MethodId} {args : Array Value} {below : List Frame} {meth : Method} {c : Code} {T : State} {locs : List Loc} {cells slots : Nat}
theorem retI (X : Stand p l e R s m args below meth c T locs cells slots) (hx : p.tables.exec = Jvm.exec) {pc : Nat} {Ls : Array Slot} {z : Int32} {rest : List Value} (hret : meth.sig.returnType = some .int) (hd : decode c.code pc = .ok (.ireturn, 1)) {fs : List Frame}
    (hl : ∀ (f : JFrame) (acts : List Action), f.method = m → f.locked = none → f.entered = [] → (doReturn e (T.setTop f) acts (some (.int z))).1 = T.setFrames fs) : Steps p.tables e below (T.setTop (mkF m pc Ls (.int z :: rest))) (T.setFrames fs) := by
  have hm' : T.vm.method? m = some meth := X.method'
  have hn : narrow .int (.int z) = .int z := rfl
  show Steps p.tables e below (T.setTop { method := m, pc := pc, locals := Ls, stack := _ :: rest, locked := none }) _
  jvm_step X.here [X.here.top, hx, hd, hm', hret, hn]
  first | (intro acts; rw [hl _ acts rfl rfl rfl]) | rw [hl _ _ rfl rfl rfl]
  exact Steps.refl _
theorem retL (X : Stand p l e R s m args below meth c T locs cells slots) (hx : p.tables.exec = Jvm.exec) {pc : Nat} {Ls : Array Slot} {z : Int64} {rest : List Value} (hret : meth.sig.returnType = some .long) (hd : decode c.code pc = .ok (.lreturn, 1)) {fs : List Frame}
    (hl : ∀ (f : JFrame) (acts : List Action), f.method = m → f.locked = none → f.entered = [] → (doReturn e (T.setTop f) acts (some (.long z))).1 = T.setFrames fs) : Steps p.tables e below (T.setTop (mkF m pc Ls (.long z :: rest))) (T.setFrames fs) := by
  have hm' : T.vm.method? m = some meth := X.method'
  have hn : narrow .long (.long z) = .long z := rfl
  show Steps p.tables e below (T.setTop { method := m, pc := pc, locals := Ls, stack := _ :: rest, locked := none }) _
  jvm_step X.here [X.here.top, hx, hd, hm', hret, hn]
  first | (intro acts; rw [hl _ acts rfl rfl rfl]) | rw [hl _ _ rfl rfl rfl]
  exact Steps.refl _
end New
end Jvm.RoadKit
namespace Jvm.Pilot.@@N@@
open Jvm Jvm.ClassFile Sem Op Lib Jvm.Free Jvm.Stand Jvm.LawKit Jvm.RoadKit Bundle Jvm.Pilot.@@N@@.Jvm.D

def own_count (a b : Int64) : Int64 := a / b + (if lcmpW (a - (a / b) * b) 0 = 0 then 0 else 1)
theorem own_facts (S P : Int64) (hS : 0 ≤ S.toInt) (hP : 1 ≤ P.toInt) : (S = 0 → own_count S P = 0) ∧ (S ≠ 0 → ¬ own_count S P < 1 ∧ ¬ S / P < own_count S P - 1 ∧ 0 < S - (own_count S P - 1) * P ∧ ¬ P < S - (own_count S P - 1) * P) := by
  have hne : P ≠ -1 := fun h => by rw [h] at hP; revert hP; decide
  have hq : (S / P).toInt = S.toInt / P.toInt := (c_ldiv S P _ rfl hne).1 hS
  have hr : (S - (S / P) * P).toInt = S.toInt % P.toInt := (c_lrem S P _ rfl).1 hS
  have e0 : (0 : Int64).toInt = 0 := by decide
  have e1 : (1 : Int64).toInt = 1 := by decide
  have hb := rng64 P
  have ha := rng64 S
  have hdm : P.toInt * (S.toInt / P.toInt) + S.toInt % P.toInt = S.toInt := Int.mul_ediv_add_emod _ _
  have hr0 : 0 ≤ S.toInt % P.toInt := Int.emod_nonneg _ (by omega)
  have hr1 : S.toInt % P.toInt < P.toInt := Int.emod_lt_of_pos _ (by omega)
  have hq0 : 0 ≤ S.toInt / P.toInt := Int.ediv_nonneg hS (by omega)
  have hqa : S.toInt / P.toInt ≤ S.toInt := Int.ediv_le_self _ hS
  unfold own_count
  by_cases hz : S - (S / P) * P = 0
  · rw [if_pos ((lw_eq _ _).mpr hz), Int64.add_zero]
    rw [hz, e0] at hr
    refine ⟨fun h => ?_, fun h => ?_⟩
    · rw [h] at hq ⊢
      apply Int64.toInt_inj.mp
      rw [hq, e0]; simp
    · have hS0 : S.toInt ≠ 0 := fun q => h (Int64.toInt_inj.mp (q.trans e0.symm))
      have hq1 : S.toInt / P.toInt ≠ 0 := fun q => by rw [q] at hdm; omega
      have hc1 : (S / P - 1).toInt = S.toInt / P.toInt - 1 := by have := c_lsub (S / P) 1; have := rng64 (S / P - 1); rw [hq, e1] at *; omega
      have hm := c_lmul (S / P - 1) P
      rw [hc1, Int.sub_mul, Int.one_mul, Int.mul_comm] at hm
      have hm2 := rng64 ((S / P - 1) * P)
      have hrest := c_lsub S ((S / P - 1) * P)
      have hrest2 := rng64 (S - (S / P - 1) * P)
      rw [Int64.lt_iff_toInt_lt, Int64.lt_iff_toInt_lt, Int64.lt_iff_toInt_lt, Int64.lt_iff_toInt_lt, hc1, hq, e0, e1]
      generalize S.toInt / P.toInt = Q at *
      generalize P.toInt * Q = M at *
      omega
  · rw [if_neg (fun h => hz ((lw_eq _ _).mp h))]
    have hz' : S.toInt % P.toInt ≠ 0 := fun q => hz (Int64.toInt_inj.mp (by rw [hr, q, e0]))
    have hne0 : S ≠ 0 := fun h => hz' (by rw [h, e0]; simp)
    refine ⟨fun h => absurd h hne0, fun h => ?_⟩
    have hlt : S.toInt / P.toInt < S.toInt ∨ P.toInt = 1 := by
      by_cases h1 : P.toInt = 1
      · exact Or.inr h1
      · refine Or.inl (Int.ediv_lt_self_of_pos_of_ne_one ?_ ?_)
        · rcases Int.lt_or_eq_of_le hS with q | q
          · exact q
          · exfalso; apply hz'; rw [← q]; simp
        · omega
    have hlt' : S.toInt / P.toInt < 9223372036854775807 := by
      rcases hlt with q | q
      · omega
      · exfalso; apply hz'; rw [q]; simp
    have hc : (S / P + 1).toInt = S.toInt / P.toInt + 1 := by have := c_ladd (S / P) 1; have := rng64 (S / P + 1); rw [hq, e1] at *; omega
    have hc1 : (S / P + 1 - 1).toInt = S.toInt / P.toInt := by have := c_lsub (S / P + 1) 1; have := rng64 (S / P + 1 - 1); rw [hc, e1] at *; omega
    have hm := c_lmul (S / P + 1 - 1) P
    rw [hc1, Int.mul_comm] at hm
    have hm2 := rng64 ((S / P + 1 - 1) * P)
    have hrest := c_lsub S ((S / P + 1 - 1) * P)
    have hrest2 := rng64 (S - (S / P + 1 - 1) * P)
    rw [Int64.lt_iff_toInt_lt, Int64.lt_iff_toInt_lt, Int64.lt_iff_toInt_lt, Int64.lt_iff_toInt_lt, hc1, hc, hq, e0, e1]
    generalize S.toInt / P.toInt = Q at *
    generalize P.toInt * Q = M at *
    omega
theorem own_mask (x : Int64) : 0 ≤ (x &&& (9223372036854775807 : Int64)).toInt := by
  rw [c_maskL x 9223372036854775807 63 (by decide) (by decide)]
  exact Int.emod_nonneg _ (by decide)

theorem d1_0 : decode prog_8_method_2_code 0 = .ok (.lload_n 0, 1) := by decide +kernel
theorem d1_1 : decode prog_8_method_2_code 1 = .ok (.lload_n 2, 1) := by decide +kernel
theorem d1_2 : decode prog_8_method_2_code 2 = .ok (.ldiv, 1) := by decide +kernel
theorem d1_3 : decode prog_8_method_2_code 3 = .ok (.lload_n 0, 1) := by decide +kernel
theorem d1_4 : decode prog_8_method_2_code 4 = .ok (.lload_n 2, 1) := by decide +kernel
theorem d1_5 : decode prog_8_method_2_code 5 = .ok (.lrem, 1) := by decide +kernel
theorem d1_6 : decode prog_8_method_2_code 6 = .ok (.lconst 0, 1) := by decide +kernel
theorem d1_7 : decode prog_8_method_2_code 7 = .ok (.lcmp, 1) := by decide +kernel
theorem d1_8 : decode prog_8_method_2_code 8 = .ok (.ifCond .ne 7, 3) := by decide +kernel
theorem d1_11 : decode prog_8_method_2_code 11 = .ok (.iconst 0, 1) := by decide +kernel
theorem d1_12 : decode prog_8_method_2_code 12 = .ok (.goto 4, 3) := by decide +kernel
theorem d1_15 : decode prog_8_method_2_code 15 = .ok (.iconst 1, 1) := by decide +kernel
theorem d1_16 : decode prog_8_method_2_code 16 = .ok (.i2l, 1) := by decide +kernel
theorem d1_17 : decode prog_8_method_2_code 17 = .ok (.ladd, 1) := by decide +kernel
theorem d1_18 : decode prog_8_method_2_code 18 = .ok (.lreturn, 1) := by decide +kernel
theorem pn_com_example_docket_docket_core_FilePartCountPinLaw : plainName "com/example/docket/docket/core/FilePartCountPinLaw" = true := by first | (simp [plainName, overriddenIn]; done) | decide +kernel
theorem pn_com_example_docket_docket_core_FilePart : plainName "com/example/docket/docket/core/FilePart" = true := by first | (simp [plainName, overriddenIn]; done) | decide +kernel
theorem pd_0 : parseMethodDescriptor "(JJ)J" = some ⟨[.long, .long], some .long⟩ := by decide +kernel
theorem ef_1 (m : MethodId) (q1 : Int64) (q2 : Int64) : entryFrame m #[(.long q1), (.long q2)] 4 = mkF m 0 #[.val (.long q1), .second, .val (.long q2), .second] [] := by first | (simp [entryFrame, mkF, argsToLocals, Value.category]; done) | rfl
def Q1 (Z : State) (q1 : Int64) (q2 : Int64) (h0 : Heap) (n0 : Nat) (v : Option Value) (h : Heap) (L : List Loc) : Prop := v = some (.long (own_count q1 q2)) ∧ Fr n0 L ∧ h = h0
set_option maxRecDepth 65536 in
set_option maxHeartbeats 40000000 in
theorem rm1 (l : Launch) (Z : State) (a0 : Array Value) (hw : ∀ d ∈ tables_1, d.before a0 Z = true) (ws : List Jvm.Cond) (q1 : Int64) (q2 : Int64) (h0 : Heap) (n0 : Nat) (Z0 : n0 ≤ h0.size) (hnz : q2 ≠ 0) :
    MetFree l (⟨"com/example/docket/docket/core/FilePart", "count", "(JJ)J"⟩ : MethodName) (head1 (Jvm.Cond.code (⟨"com/example/docket/docket/core/FilePart", "count", "(JJ)J"⟩ : MethodName) prog_8_method_2_code 4 (some .long) :: ws) ({ frames := 0, cells := 0, slots := 0, locals := 0 } : Room)) (fun α υ => α = #[(.long q1), (.long q2)] ∧ Z.Warmed39 υ.vm ∧ υ.heap = h0) (fun _ _ _ _ _ => True) (fun _ υ ω υ' => ∃ v L, ω = .returned v ∧ Q1 Z q1 q2 h0 n0 v υ'.heap L ∧ FrameEnd υ ω υ' L ({ frames := 0, cells := 0, slots := 0, locals := 0 } : Room).cells ({ frames := 0, cells := 0, slots := 0, locals := 0 } : Room).slots) := by
  refine MetFree.of_bodySF (plainFor_of_name pn_com_example_docket_docket_core_FilePart) hisR ?_
  intro p e s m args below meth c s₁ Bd hml0 hP hK
  obtain ⟨rfl, hZ, hh⟩ := hP
  have hx := Bd.exec
  have hby := Bd.bytes
  have hml : c.maxLocals = 4 := hml0
  have hown : s.vm.findClass "com/example/docket/docket/core/FilePart" = some m.cls := findClass_of_methodNamed Bd.named
  have hnm := (name_of_methodNamed Bd.named Bd.method).1
  have X0 : Stand p l e ({ frames := 0, cells := 0, slots := 0, locals := 0 } : Room) s m #[(.long q1), (.long q2)] below meth c s₁ [] 0 0 := Stand.of_body Bd
  have e0 : s₁.heap = h0 := by rw [← hh, Bd.state]; rfl
  have N0 := Fr.nil n0
  have pre0 : ∀ τ, Steps p.tables e below (s₁.setTop (mkF m 0 #[.val (.long q1), .second, .val (.long q2), .second] [])) τ → Steps p.tables e below (s₁.setTop (entryFrame m #[(.long q1), (.long q2)] 4)) τ := fun τ κ => castTop (ef_1 m q1 q2) κ
  have pre1 := fun τ (κ : Steps p.tables e below (s₁.setTop (mkF m 8 #[.val (.long q1), .second, .val (.long q2), .second] [(.int (lcmpW (q1 - (q1 / q2) * q2) (0 : Int64))), (.long (q1 / q2))])) τ) => pre0 τ (by
    refine XS.lloadN X0.here hx rfl (hb hby d1_0) rfl ?_
    show Steps p.tables e below (s₁.setTop (mkF m 1 #[.val (.long q1), .second, .val (.long q2), .second] [(.long q1)])) _
    refine XS.lloadN X0.here hx rfl (hb hby d1_1) rfl ?_
    show Steps p.tables e below (s₁.setTop (mkF m 2 #[.val (.long q1), .second, .val (.long q2), .second] [(.long q2), (.long q1)])) _
    refine XS.ldiv X0.here hx rfl (hb hby d1_2) rfl hnz ?_
    show Steps p.tables e below (s₁.setTop (mkF m 3 #[.val (.long q1), .second, .val (.long q2), .second] [(.long (q1 / q2))])) _
    refine XS.lloadN X0.here hx rfl (hb hby d1_3) rfl ?_
    show Steps p.tables e below (s₁.setTop (mkF m 4 #[.val (.long q1), .second, .val (.long q2), .second] [(.long q1), (.long (q1 / q2))])) _
    refine XS.lloadN X0.here hx rfl (hb hby d1_4) rfl ?_
    show Steps p.tables e below (s₁.setTop (mkF m 5 #[.val (.long q1), .second, .val (.long q2), .second] [(.long q2), (.long q1), (.long (q1 / q2))])) _
    refine XS.lrem X0.here hx rfl (hb hby d1_5) rfl hnz ?_
    show Steps p.tables e below (s₁.setTop (mkF m 6 #[.val (.long q1), .second, .val (.long q2), .second] [(.long (q1 - (q1 / q2) * q2)), (.long (q1 / q2))])) _
    refine XS.lconst X0.here hx rfl (hb hby d1_6) ?_
    show Steps p.tables e below (s₁.setTop (mkF m 7 #[.val (.long q1), .second, .val (.long q2), .second] [(.long (0 : Int64)), (.long (q1 - (q1 / q2) * q2)), (.long (q1 / q2))])) _
    refine XS.lcmp X0.here hx rfl (hb hby d1_7) rfl ?_
    show Steps p.tables e below (s₁.setTop (mkF m 8 #[.val (.long q1), .second, .val (.long q2), .second] [(.int (lcmpW (q1 - (q1 / q2) * q2) (0 : Int64))), (.long (q1 / q2))])) _
    exact κ)
  by_cases hc8 : (lcmpW (q1 - (q1 / q2) * q2) (0 : Int64)) = (0 : Int32)
  · have pre2 := fun τ (κ : Steps p.tables e below (s₁.setTop (mkF m 18 #[.val (.long q1), .second, .val (.long q2), .second] [(.long ((q1 / q2) + ((0 : Int32).toInt64)))])) τ) => pre1 τ (by
      refine XS.ifNo X0.here hx rfl (hb hby d1_8) rfl ((if0 _ _).trans (teq hc8).2) ?_
      show Steps p.tables e below (s₁.setTop (mkF m 11 #[.val (.long q1), .second, .val (.long q2), .second] [(.long (q1 / q2))])) _
      refine XS.iconst X0.here hx rfl (hb hby d1_11) ?_
      show Steps p.tables e below (s₁.setTop (mkF m 12 #[.val (.long q1), .second, .val (.long q2), .second] [(.int (0 : Int32)), (.long (q1 / q2))])) _
      refine XS.goto X0.here hx rfl (pc0 := 12) (pc' := 16) rfl (hb hby d1_12) (by decide) (by decide) ?_
      show Steps p.tables e below (s₁.setTop (mkF m 16 #[.val (.long q1), .second, .val (.long q2), .second] [(.int (0 : Int32)), (.long (q1 / q2))])) _
      refine XS.i2l X0.here hx rfl (hb hby d1_16) rfl ?_
      show Steps p.tables e below (s₁.setTop (mkF m 17 #[.val (.long q1), .second, .val (.long q2), .second] [(.long ((0 : Int32).toInt64)), (.long (q1 / q2))])) _
      refine XS.ladd X0.here hx rfl (hb hby d1_17) rfl ?_
      show Steps p.tables e below (s₁.setTop (mkF m 18 #[.val (.long q1), .second, .val (.long q2), .second] [(.long ((q1 / q2) + ((0 : Int32).toInt64)))])) _
      exact κ)
    obtain ⟨fs, hr, hrun, hended, hW, hsame⟩ := X0.leave (v := some (.long ((q1 / q2) + ((0 : Int32).toInt64)))) (fun h => by rw [Bd.returns] at h; cases h)
    refine ⟨_, _, pre2 _ ?_, hrun, hended, _, _, rfl, ?_, ⟨_, rfl⟩, hW, hsame.mono (by decide) (by decide)⟩
    · exact retL X0 hx Bd.returns (hb hby d1_18) hr
    · show Q1 Z q1 q2 h0 n0 _ s₁.heap _
      rw [e0]
      exact ⟨(by rw [own_count, if_pos hc8]; rfl), N0, rfl⟩
  · have pre3 := fun τ (κ : Steps p.tables e below (s₁.setTop (mkF m 18 #[.val (.long q1), .second, .val (.long q2), .second] [(.long ((q1 / q2) + ((1 : Int32).toInt64)))])) τ) => pre1 τ (by
      refine XS.ifYes X0.here hx rfl (pc0 := 8) (pc' := 15) rfl (hb hby d1_8) rfl ((if0 _ _).trans (feq hc8).2) (by decide) (by decide) ?_
      show Steps p.tables e below (s₁.setTop (mkF m 15 #[.val (.long q1), .second, .val (.long q2), .second] [(.long (q1 / q2))])) _
      refine XS.iconst X0.here hx rfl (hb hby d1_15) ?_
      show Steps p.tables e below (s₁.setTop (mkF m 16 #[.val (.long q1), .second, .val (.long q2), .second] [(.int (1 : Int32)), (.long (q1 / q2))])) _
      refine XS.i2l X0.here hx rfl (hb hby d1_16) rfl ?_
      show Steps p.tables e below (s₁.setTop (mkF m 17 #[.val (.long q1), .second, .val (.long q2), .second] [(.long ((1 : Int32).toInt64)), (.long (q1 / q2))])) _
      refine XS.ladd X0.here hx rfl (hb hby d1_17) rfl ?_
      show Steps p.tables e below (s₁.setTop (mkF m 18 #[.val (.long q1), .second, .val (.long q2), .second] [(.long ((q1 / q2) + ((1 : Int32).toInt64)))])) _
      exact κ)
    obtain ⟨fs, hr, hrun, hended, hW, hsame⟩ := X0.leave (v := some (.long ((q1 / q2) + ((1 : Int32).toInt64)))) (fun h => by rw [Bd.returns] at h; cases h)
    refine ⟨_, _, pre3 _ ?_, hrun, hended, _, _, rfl, ?_, ⟨_, rfl⟩, hW, hsame.mono (by decide) (by decide)⟩
    · exact retL X0 hx Bd.returns (hb hby d1_18) hr
    · show Q1 Z q1 q2 h0 n0 _ s₁.heap _
      rw [e0]
      exact ⟨(by rw [own_count, if_neg hc8]; rfl), N0, rfl⟩
theorem ef_0 (m : MethodId) (q1 : Int64) (q2 : Int64) : entryFrame m #[(.long q1), (.long q2)] maxLocals = mkF m 0 #[.val (.long q1), .second, .val (.long q2), .second, .unset, .unset, .unset, .unset, .unset, .unset, .unset, .unset] [] := by first | (simp [entryFrame, mkF, argsToLocals, Value.category, maxLocals]; done) | rfl
def Q0 (Z : State) (q1 : Int64) (q2 : Int64) (h0 : Heap) (n0 : Nat) (v : Option Value) (h : Heap) (L : List Loc) : Prop := v = some (.int 1) ∧ Fr n0 L
set_option maxRecDepth 65536 in
set_option maxHeartbeats 40000000 in
theorem rm0 (l : Launch) (Z : State) (a0 : Array Value) (hw : ∀ d ∈ tables_1, d.before a0 Z = true) (ws : List Jvm.Cond) (q1 : Int64) (q2 : Int64) (h0 : Heap) (n0 : Nat) (Z0 : n0 ≤ h0.size) :
    MetFree l x (head1 (Jvm.Cond.code x code maxLocals ret :: ws) room_1) (fun α υ => α = #[(.long q1), (.long q2)] ∧ Z.Warmed39 υ.vm ∧ υ.heap = h0) (fun _ _ _ _ _ => True) (fun _ υ ω υ' => ∃ v L, ω = .returned v ∧ Q0 Z q1 q2 h0 n0 v υ'.heap L ∧ FrameEnd υ ω υ' L room_1.cells room_1.slots) := by
  refine MetFree.of_bodySF (plainFor_of_name pn_com_example_docket_docket_core_FilePartCountPinLaw) hisR ?_
  intro p e s m args below meth c s₁ Bd hml0 hP hK
  obtain ⟨rfl, hZ, hh⟩ := hP
  have hx := Bd.exec
  have hby := Bd.bytes
  have hml : c.maxLocals = 12 := hml0
  have hown : s.vm.findClass "com/example/docket/docket/core/FilePartCountPinLaw" = some m.cls := findClass_of_methodNamed Bd.named
  have hnm := (name_of_methodNamed Bd.named Bd.method).1
  have X0 : Stand p l e room_1 s m #[(.long q1), (.long q2)] below meth c s₁ [] 0 0 := Stand.of_body Bd
  have e0 : s₁.heap = h0 := by rw [← hh, Bd.state]; rfl
  have N0 := Fr.nil n0
  have pre0 : ∀ τ, Steps p.tables e below (s₁.setTop (mkF m 0 #[.val (.long q1), .second, .val (.long q2), .second, .unset, .unset, .unset, .unset, .unset, .unset, .unset, .unset] [])) τ → Steps p.tables e below (s₁.setTop (entryFrame m #[(.long q1), (.long q2)] maxLocals)) τ := fun τ κ => castTop (ef_0 m q1 q2) κ
  have pre1 := fun τ (κ : Steps p.tables e below (s₁.setTop (mkF m 7 #[.val (.long q1), .second, .val (.long q2), .second, .val (.long (q1 &&& (9223372036854775807 : Int64))), .second, .unset, .unset, .unset, .unset, .unset, .unset] [])) τ) => pre0 τ (by
    refine XS.lloadN X0.here hx rfl (hb hby at_0) rfl ?_
    show Steps p.tables e below (s₁.setTop (mkF m 1 #[.val (.long q1), .second, .val (.long q2), .second, .unset, .unset, .unset, .unset, .unset, .unset, .unset, .unset] [(.long q1)])) _
    refine X0.ldc2Long hx hown (mvT hZ (hw _ (List.mem_of_getElem? (i := 0) rfl))) (g := (mkF m 1 #[.val (.long q1), .second, .val (.long q2), .second, .unset, .unset, .unset, .unset, .unset, .unset, .unset, .unset] [(.long q1)])) rfl (hb hby at_1) _ ?_
    show Steps p.tables e below (s₁.setTop (mkF m 4 #[.val (.long q1), .second, .val (.long q2), .second, .unset, .unset, .unset, .unset, .unset, .unset, .unset, .unset] [(.long (9223372036854775807 : Int64)), (.long q1)])) _
    refine XS.land X0.here hx rfl (hb hby at_4) rfl ?_
    show Steps p.tables e below (s₁.setTop (mkF m 5 #[.val (.long q1), .second, .val (.long q2), .second, .unset, .unset, .unset, .unset, .unset, .unset, .unset, .unset] [(.long (q1 &&& (9223372036854775807 : Int64)))])) _
    refine XS.lstore X0.here hx rfl (hb hby at_5) rfl (l' := #[.val (.long q1), .second, .val (.long q2), .second, .val (.long (q1 &&& (9223372036854775807 : Int64))), .second, .unset, .unset, .unset, .unset, .unset, .unset]) rfl ?_
    show Steps p.tables e below (s₁.setTop (mkF m 7 #[.val (.long q1), .second, .val (.long q2), .second, .val (.long (q1 &&& (9223372036854775807 : Int64))), .second, .unset, .unset, .unset, .unset, .unset, .unset] [])) _
    exact κ)
  obtain ⟨S, h_S⟩ : ∃ z : Int64, z = (q1 &&& (9223372036854775807 : Int64)) := ⟨_, rfl⟩
  rw [← h_S] at pre1
  have hS : 0 ≤ S.toInt := by rw [h_S]; exact own_mask _
  have pre2 := fun τ (κ : Steps p.tables e below (s₁.setTop (mkF m 18 #[.val (.long q1), .second, .val (.long q2), .second, .val (.long S), .second, .val (.long (q2 &&& (9223372036854775807 : Int64))), .second, .unset, .unset, .unset, .unset] [(.int (lcmpW (q2 &&& (9223372036854775807 : Int64)) (0 : Int64)))])) τ) => pre1 τ (by
    refine XS.lloadN X0.here hx rfl (hb hby at_7) rfl ?_
    show Steps p.tables e below (s₁.setTop (mkF m 8 #[.val (.long q1), .second, .val (.long q2), .second, .val (.long S), .second, .unset, .unset, .unset, .unset, .unset, .unset] [(.long q2)])) _
    refine X0.ldc2Long hx hown (mvT hZ (hw _ (List.mem_of_getElem? (i := 0) rfl))) (g := (mkF m 8 #[.val (.long q1), .second, .val (.long q2), .second, .val (.long S), .second, .unset, .unset, .unset, .unset, .unset, .unset] [(.long q2)])) rfl (hb hby at_8) _ ?_
    show Steps p.tables e below (s₁.setTop (mkF m 11 #[.val (.long q1), .second, .val (.long q2), .second, .val (.long S), .second, .unset, .unset, .unset, .unset, .unset, .unset] [(.long (9223372036854775807 : Int64)), (.long q2)])) _
    refine XS.land X0.here hx rfl (hb hby at_11) rfl ?_
    show Steps p.tables e below (s₁.setTop (mkF m 12 #[.val (.long q1), .second, .val (.long q2), .second, .val (.long S), .second, .unset, .unset, .unset, .unset, .unset, .unset] [(.long (q2 &&& (9223372036854775807 : Int64)))])) _
    refine XS.lstore X0.here hx rfl (hb hby at_12) rfl (l' := #[.val (.long q1), .second, .val (.long q2), .second, .val (.long S), .second, .val (.long (q2 &&& (9223372036854775807 : Int64))), .second, .unset, .unset, .unset, .unset]) rfl ?_
    show Steps p.tables e below (s₁.setTop (mkF m 14 #[.val (.long q1), .second, .val (.long q2), .second, .val (.long S), .second, .val (.long (q2 &&& (9223372036854775807 : Int64))), .second, .unset, .unset, .unset, .unset] [])) _
    refine XS.lload X0.here hx rfl (hb hby at_14) rfl ?_
    show Steps p.tables e below (s₁.setTop (mkF m 16 #[.val (.long q1), .second, .val (.long q2), .second, .val (.long S), .second, .val (.long (q2 &&& (9223372036854775807 : Int64))), .second, .unset, .unset, .unset, .unset] [(.long (q2 &&& (9223372036854775807 : Int64)))])) _
    refine XS.lconst X0.here hx rfl (hb hby at_16) ?_
    show Steps p.tables e below (s₁.setTop (mkF m 17 #[.val (.long q1), .second, .val (.long q2), .second, .val (.long S), .second, .val (.long (q2 &&& (9223372036854775807 : Int64))), .second, .unset, .unset, .unset, .unset] [(.long (0 : Int64)), (.long (q2 &&& (9223372036854775807 : Int64)))])) _
    refine XS.lcmp X0.here hx rfl (hb hby at_17) rfl ?_
    show Steps p.tables e below (s₁.setTop (mkF m 18 #[.val (.long q1), .second, .val (.long q2), .second, .val (.long S), .second, .val (.long (q2 &&& (9223372036854775807 : Int64))), .second, .unset, .unset, .unset, .unset] [(.int (lcmpW (q2 &&& (9223372036854775807 : Int64)) (0 : Int64)))])) _
    exact κ)
  obtain ⟨P, hP, pre3⟩ : ∃ P : Int64, (1 ≤ P.toInt) ∧ ∀ τ, Steps p.tables e below (s₁.setTop (mkF m 24 #[.val (.long q1), .second, .val (.long q2), .second, .val (.long S), .second, .val (.long P), .second, .unset, .unset, .unset, .unset] [])) τ → Steps p.tables e below (s₁.setTop (entryFrame m #[(.long q1), (.long q2)] maxLocals)) τ := by
    by_cases hc18 : (lcmpW (q2 &&& (9223372036854775807 : Int64)) (0 : Int64)) = (0 : Int32)
    · have pre4 := fun τ (κ : Steps p.tables e below (s₁.setTop (mkF m 24 #[.val (.long q1), .second, .val (.long q2), .second, .val (.long S), .second, .val (.long (1 : Int64)), .second, .unset, .unset, .unset, .unset] [])) τ) => pre2 τ (by
        refine XS.ifNo X0.here hx rfl (hb hby at_18) rfl ((if0 _ _).trans (teq hc18).2) ?_
        show Steps p.tables e below (s₁.setTop (mkF m 21 #[.val (.long q1), .second, .val (.long q2), .second, .val (.long S), .second, .val (.long (q2 &&& (9223372036854775807 : Int64))), .second, .unset, .unset, .unset, .unset] [])) _
        refine XS.lconst X0.here hx rfl (hb hby at_21) ?_
        show Steps p.tables e below (s₁.setTop (mkF m 22 #[.val (.long q1), .second, .val (.long q2), .second, .val (.long S), .second, .val (.long (q2 &&& (9223372036854775807 : Int64))), .second, .unset, .unset, .unset, .unset] [(.long (1 : Int64))])) _
        refine XS.lstore X0.here hx rfl (hb hby at_22) rfl (l' := #[.val (.long q1), .second, .val (.long q2), .second, .val (.long S), .second, .val (.long (1 : Int64)), .second, .unset, .unset, .unset, .unset]) rfl ?_
        show Steps p.tables e below (s₁.setTop (mkF m 24 #[.val (.long q1), .second, .val (.long q2), .second, .val (.long S), .second, .val (.long (1 : Int64)), .second, .unset, .unset, .unset, .unset] [])) _
        exact κ)
      exact ⟨1, by decide, pre4⟩
    · have pre5 := fun τ (κ : Steps p.tables e below (s₁.setTop (mkF m 24 #[.val (.long q1), .second, .val (.long q2), .second, .val (.long S), .second, .val (.long (q2 &&& (9223372036854775807 : Int64))), .second, .unset, .unset, .unset, .unset] [])) τ) => pre2 τ (by
        refine XS.ifYes X0.here hx rfl (pc0 := 18) (pc' := 24) rfl (hb hby at_18) rfl ((if0 _ _).trans (feq hc18).2) (by decide) (by decide) ?_
        show Steps p.tables e below (s₁.setTop (mkF m 24 #[.val (.long q1), .second, .val (.long q2), .second, .val (.long S), .second, .val (.long (q2 &&& (9223372036854775807 : Int64))), .second, .unset, .unset, .unset, .unset] [])) _
        exact κ)
      exact ⟨_, by have := own_mask q2; have e0 : (0 : Int64).toInt = 0 := (by decide); have : (q2 &&& (9223372036854775807 : Int64)).toInt ≠ 0 := fun q => hc18 ((lw_eq _ _).mpr (Int64.toInt_inj.mp (q.trans e0.symm))); omega, pre5⟩
  have hnz : P ≠ 0 := fun h => by rw [h] at hP; revert hP; decide
  obtain ⟨f0, f1⟩ := own_facts S P hS hP
  have pre6 := fun τ (κ : Steps p.tables e below (s₁.setTop (mkF m 28 #[.val (.long q1), .second, .val (.long q2), .second, .val (.long S), .second, .val (.long P), .second, .unset, .unset, .unset, .unset] [(.long P), (.long S)])) τ) => pre3 τ (by
    refine XS.lload X0.here hx rfl (hb hby at_24) rfl ?_
    show Steps p.tables e below (s₁.setTop (mkF m 26 #[.val (.long q1), .second, .val (.long q2), .second, .val (.long S), .second, .val (.long P), .second, .unset, .unset, .unset, .unset] [(.long S)])) _
    refine XS.lload X0.here hx rfl (hb hby at_26) rfl ?_
    show Steps p.tables e below (s₁.setTop (mkF m 28 #[.val (.long q1), .second, .val (.long q2), .second, .val (.long S), .second, .val (.long P), .second, .unset, .unset, .unset, .unset] [(.long P), (.long S)])) _
    exact κ)
  obtain ⟨_, _, ⟨T7, L7, k7, n7⟩, -, X7, ⟨Lc7, hQ7, l7, y7, z7⟩, st7⟩ := Jvm.LawKit.callS X0 hx (y := (⟨"com/example/docket/docket/core/FilePart", "count", "(JJ)J"⟩ : MethodName)) hown (mvT hZ (hw _ (List.mem_of_getElem? (i := 1) rfl))) (mvT hZ (hw _ (List.mem_of_getElem? (i := 2) rfl))) (mvT hZ (hw _ (List.mem_of_getElem? (i := 3) rfl))) (mvT hZ (hw _ (List.mem_of_getElem? (i := 4) rfl))) (by decide) (backOf (W := 0) (rm1 l Z a0 hw [] S P h0 n0 Z0 hnz) hZ (hw _ (List.mem_of_getElem? (i := 4) rfl)) (hw _ (List.mem_of_getElem? (i := 3) rfl)) (by decide) (by decide)) (g := (mkF m 28 #[.val (.long q1), .second, .val (.long q2), .second, .val (.long S), .second, .val (.long P), .second, .unset, .unset, .unset, .unset] [(.long P), (.long S)])) rfl (by rw [hml]; rfl) (argsL := [(.long S), (.long P)]) (rest := []) (lenOf pd_0 rfl) rfl (by show 2 * 0 + _ ≤ _; exact Nat.le_of_eq rfl) (hb hby at_28) (fun _ _ => ⟨rfl, e0, (by decide : 0 + 0 ≤ _), (by decide : 0 + 0 ≤ _)⟩)
  dsimp only [Pt.U, Pt.locs, Pt.cells, Pt.slots] at X7 l7 y7 z7 st7 hQ7
  subst l7 y7 z7
  obtain ⟨rfl, Nq7, hh7⟩ := hQ7
  have Z7 : n0 ≤ T7.heap.size := by rw [hh7]; exact Z0
  have N7 := Fr.app N0 Nq7
  have pre8 := fun τ (κ : Steps p.tables e below (T7.setTop (mkF m 31 #[.val (.long q1), .second, .val (.long q2), .second, .val (.long S), .second, .val (.long P), .second, .unset, .unset, .unset, .unset] [(.long (own_count S P))])) τ) => pre6 τ (st7 _ κ)
  obtain ⟨C, h_C⟩ : ∃ z : Int64, z = (own_count S P) := ⟨_, rfl⟩
  rw [← h_C] at pre8
  rw [← h_C] at f0 f1
  have pre9 := fun τ (κ : Steps p.tables e below (T7.setTop (mkF m 37 #[.val (.long q1), .second, .val (.long q2), .second, .val (.long S), .second, .val (.long P), .second, .val (.long C), .second, .unset, .unset] [(.int (lcmpW S (0 : Int64)))])) τ) => pre8 τ (by
    refine XS.lstore X7.here hx rfl (hb hby at_31) rfl (l' := #[.val (.long q1), .second, .val (.long q2), .second, .val (.long S), .second, .val (.long P), .second, .val (.long C), .second, .unset, .unset]) rfl ?_
    show Steps p.tables e below (T7.setTop (mkF m 33 #[.val (.long q1), .second, .val (.long q2), .second, .val (.long S), .second, .val (.long P), .second, .val (.long C), .second, .unset, .unset] [])) _
    refine XS.lload X7.here hx rfl (hb hby at_33) rfl ?_
    show Steps p.tables e below (T7.setTop (mkF m 35 #[.val (.long q1), .second, .val (.long q2), .second, .val (.long S), .second, .val (.long P), .second, .val (.long C), .second, .unset, .unset] [(.long S)])) _
    refine XS.lconst X7.here hx rfl (hb hby at_35) ?_
    show Steps p.tables e below (T7.setTop (mkF m 36 #[.val (.long q1), .second, .val (.long q2), .second, .val (.long S), .second, .val (.long P), .second, .val (.long C), .second, .unset, .unset] [(.long (0 : Int64)), (.long S)])) _
    refine XS.lcmp X7.here hx rfl (hb hby at_36) rfl ?_
    show Steps p.tables e below (T7.setTop (mkF m 37 #[.val (.long q1), .second, .val (.long q2), .second, .val (.long S), .second, .val (.long P), .second, .val (.long C), .second, .unset, .unset] [(.int (lcmpW S (0 : Int64)))])) _
    exact κ)
  by_cases hc37 : (lcmpW S (0 : Int64)) = (0 : Int32)
  · have hS0 : S = 0 := (lw_eq _ _).mp hc37
    have pre10 := fun τ (κ : Steps p.tables e below (T7.setTop (mkF m 52 #[.val (.long q1), .second, .val (.long q2), .second, .val (.long S), .second, .val (.long P), .second, .val (.long C), .second, .unset, .unset] [(.int (1 : Int32))])) τ) => pre9 τ (by
      refine XS.ifNo X7.here hx rfl (hb hby at_37) rfl ((if0 _ _).trans (teq hc37).2) ?_
      show Steps p.tables e below (T7.setTop (mkF m 40 #[.val (.long q1), .second, .val (.long q2), .second, .val (.long S), .second, .val (.long P), .second, .val (.long C), .second, .unset, .unset] [])) _
      refine XS.lload X7.here hx rfl (hb hby at_40) rfl ?_
      show Steps p.tables e below (T7.setTop (mkF m 42 #[.val (.long q1), .second, .val (.long q2), .second, .val (.long S), .second, .val (.long P), .second, .val (.long C), .second, .unset, .unset] [(.long C)])) _
      refine XS.lconst X7.here hx rfl (hb hby at_42) ?_
      show Steps p.tables e below (T7.setTop (mkF m 43 #[.val (.long q1), .second, .val (.long q2), .second, .val (.long S), .second, .val (.long P), .second, .val (.long C), .second, .unset, .unset] [(.long (0 : Int64)), (.long C)])) _
      refine XS.lcmp X7.here hx rfl (hb hby at_43) rfl ?_
      show Steps p.tables e below (T7.setTop (mkF m 44 #[.val (.long q1), .second, .val (.long q2), .second, .val (.long S), .second, .val (.long P), .second, .val (.long C), .second, .unset, .unset] [(.int (lcmpW C (0 : Int64)))])) _
      refine XS.ifNo X7.here hx rfl (hb hby at_44) rfl ((if0 _ _).trans (teq ((lw_eq _ _).mpr (f0 hS0))).2) ?_
      show Steps p.tables e below (T7.setTop (mkF m 47 #[.val (.long q1), .second, .val (.long q2), .second, .val (.long S), .second, .val (.long P), .second, .val (.long C), .second, .unset, .unset] [])) _
      refine XS.iconst X7.here hx rfl (hb hby at_47) ?_
      show Steps p.tables e below (T7.setTop (mkF m 48 #[.val (.long q1), .second, .val (.long q2), .second, .val (.long S), .second, .val (.long P), .second, .val (.long C), .second, .unset, .unset] [(.int (1 : Int32))])) _
      refine XS.goto X7.here hx rfl (pc0 := 48) (pc' := 52) rfl (hb hby at_48) (by decide) (by decide) ?_
      show Steps p.tables e below (T7.setTop (mkF m 52 #[.val (.long q1), .second, .val (.long q2), .second, .val (.long S), .second, .val (.long P), .second, .val (.long C), .second, .unset, .unset] [(.int (1 : Int32))])) _
      exact κ)
    obtain ⟨fs, hr, hrun, hended, hW, hsame⟩ := X7.leave (v := some (.int (1 : Int32))) (fun h => by rw [Bd.returns] at h; cases h)
    refine ⟨_, _, pre10 _ ?_, hrun, hended, _, _, rfl, ?_, ⟨_, rfl⟩, hW, hsame.mono (by decide) (by decide)⟩
    · exact retN X7 hx (t := .boolean) Bd.returns (by simp) (hb hby at_52) hr
    · show Q0 Z q1 q2 h0 n0 _ T7.heap _
      exact ⟨rfl, N7⟩
  · obtain ⟨g1, g2, g3, g4⟩ := f1 (fun h => hc37 ((lw_eq _ _).mpr h))
    have pre11 := fun τ (κ : Steps p.tables e below (T7.setTop (mkF m 109 #[.val (.long q1), .second, .val (.long q2), .second, .val (.long S), .second, .val (.long P), .second, .val (.long C), .second, .val (.long (S - ((C - (1 : Int64)) * P))), .second] [(.int (1 : Int32))])) τ) => pre9 τ (by
      refine XS.ifYes X7.here hx rfl (pc0 := 37) (pc' := 53) rfl (hb hby at_37) rfl ((if0 _ _).trans (feq hc37).2) (by decide) (by decide) ?_
      show Steps p.tables e below (T7.setTop (mkF m 53 #[.val (.long q1), .second, .val (.long q2), .second, .val (.long S), .second, .val (.long P), .second, .val (.long C), .second, .unset, .unset] [])) _
      refine XS.lload X7.here hx rfl (hb hby at_53) rfl ?_
      show Steps p.tables e below (T7.setTop (mkF m 55 #[.val (.long q1), .second, .val (.long q2), .second, .val (.long S), .second, .val (.long P), .second, .val (.long C), .second, .unset, .unset] [(.long C)])) _
      refine XS.lconst X7.here hx rfl (hb hby at_55) ?_
      show Steps p.tables e below (T7.setTop (mkF m 56 #[.val (.long q1), .second, .val (.long q2), .second, .val (.long S), .second, .val (.long P), .second, .val (.long C), .second, .unset, .unset] [(.long (1 : Int64)), (.long C)])) _
      refine XS.lcmp X7.here hx rfl (hb hby at_56) rfl ?_
      show Steps p.tables e below (T7.setTop (mkF m 57 #[.val (.long q1), .second, .val (.long q2), .second, .val (.long S), .second, .val (.long P), .second, .val (.long C), .second, .unset, .unset] [(.int (lcmpW C (1 : Int64)))])) _
      refine XS.ifYes X7.here hx rfl (pc0 := 57) (pc' := 62) rfl (hb hby at_57) rfl ((if0 _ _).trans (flt (fun h => g1 ((lw_lt _ _).mp h))).2.1) (by decide) (by decide) ?_
      show Steps p.tables e below (T7.setTop (mkF m 62 #[.val (.long q1), .second, .val (.long q2), .second, .val (.long S), .second, .val (.long P), .second, .val (.long C), .second, .unset, .unset] [])) _
      refine XS.lload X7.here hx rfl (hb hby at_62) rfl ?_
      show Steps p.tables e below (T7.setTop (mkF m 64 #[.val (.long q1), .second, .val (.long q2), .second, .val (.long S), .second, .val (.long P), .second, .val (.long C), .second, .unset, .unset] [(.long C)])) _
      refine XS.lconst X7.here hx rfl (hb hby at_64) ?_
      show Steps p.tables e below (T7.setTop (mkF m 65 #[.val (.long q1), .second, .val (.long q2), .second, .val (.long S), .second, .val (.long P), .second, .val (.long C), .second, .unset, .unset] [(.long (1 : Int64)), (.long C)])) _
      refine XS.lsub X7.here hx rfl (hb hby at_65) rfl ?_
      show Steps p.tables e below (T7.setTop (mkF m 66 #[.val (.long q1), .second, .val (.long q2), .second, .val (.long S), .second, .val (.long P), .second, .val (.long C), .second, .unset, .unset] [(.long (C - (1 : Int64)))])) _
      refine XS.lload X7.here hx rfl (hb hby at_66) rfl ?_
      show Steps p.tables e below (T7.setTop (mkF m 68 #[.val (.long q1), .second, .val (.long q2), .second, .val (.long S), .second, .val (.long P), .second, .val (.long C), .second, .unset, .unset] [(.long S), (.long (C - (1 : Int64)))])) _
      refine XS.lload X7.here hx rfl (hb hby at_68) rfl ?_
      show Steps p.tables e below (T7.setTop (mkF m 70 #[.val (.long q1), .second, .val (.long q2), .second, .val (.long S), .second, .val (.long P), .second, .val (.long C), .second, .unset, .unset] [(.long P), (.long S), (.long (C - (1 : Int64)))])) _
      refine XS.ldiv X7.here hx rfl (hb hby at_70) rfl hnz ?_
      show Steps p.tables e below (T7.setTop (mkF m 71 #[.val (.long q1), .second, .val (.long q2), .second, .val (.long S), .second, .val (.long P), .second, .val (.long C), .second, .unset, .unset] [(.long (S / P)), (.long (C - (1 : Int64)))])) _
      refine XS.lcmp X7.here hx rfl (hb hby at_71) rfl ?_
      show Steps p.tables e below (T7.setTop (mkF m 72 #[.val (.long q1), .second, .val (.long q2), .second, .val (.long S), .second, .val (.long P), .second, .val (.long C), .second, .unset, .unset] [(.int (lcmpW (C - (1 : Int64)) (S / P)))])) _
      refine XS.ifYes X7.here hx rfl (pc0 := 72) (pc' := 77) rfl (hb hby at_72) rfl ((if0 _ _).trans (flt (fun h => g2 ((lw_gt _ _).mp h))).2.2.2) (by decide) (by decide) ?_
      show Steps p.tables e below (T7.setTop (mkF m 77 #[.val (.long q1), .second, .val (.long q2), .second, .val (.long S), .second, .val (.long P), .second, .val (.long C), .second, .unset, .unset] [])) _
      refine XS.lload X7.here hx rfl (hb hby at_77) rfl ?_
      show Steps p.tables e below (T7.setTop (mkF m 79 #[.val (.long q1), .second, .val (.long q2), .second, .val (.long S), .second, .val (.long P), .second, .val (.long C), .second, .unset, .unset] [(.long S)])) _
      refine XS.lload X7.here hx rfl (hb hby at_79) rfl ?_
      show Steps p.tables e below (T7.setTop (mkF m 81 #[.val (.long q1), .second, .val (.long q2), .second, .val (.long S), .second, .val (.long P), .second, .val (.long C), .second, .unset, .unset] [(.long C), (.long S)])) _
      refine XS.lconst X7.here hx rfl (hb hby at_81) ?_
      show Steps p.tables e below (T7.setTop (mkF m 82 #[.val (.long q1), .second, .val (.long q2), .second, .val (.long S), .second, .val (.long P), .second, .val (.long C), .second, .unset, .unset] [(.long (1 : Int64)), (.long C), (.long S)])) _
      refine XS.lsub X7.here hx rfl (hb hby at_82) rfl ?_
      show Steps p.tables e below (T7.setTop (mkF m 83 #[.val (.long q1), .second, .val (.long q2), .second, .val (.long S), .second, .val (.long P), .second, .val (.long C), .second, .unset, .unset] [(.long (C - (1 : Int64))), (.long S)])) _
      refine XS.lload X7.here hx rfl (hb hby at_83) rfl ?_
      show Steps p.tables e below (T7.setTop (mkF m 85 #[.val (.long q1), .second, .val (.long q2), .second, .val (.long S), .second, .val (.long P), .second, .val (.long C), .second, .unset, .unset] [(.long P), (.long (C - (1 : Int64))), (.long S)])) _
      refine XS.lmul X7.here hx rfl (hb hby at_85) rfl ?_
      show Steps p.tables e below (T7.setTop (mkF m 86 #[.val (.long q1), .second, .val (.long q2), .second, .val (.long S), .second, .val (.long P), .second, .val (.long C), .second, .unset, .unset] [(.long ((C - (1 : Int64)) * P)), (.long S)])) _
      refine XS.lsub X7.here hx rfl (hb hby at_86) rfl ?_
      show Steps p.tables e below (T7.setTop (mkF m 87 #[.val (.long q1), .second, .val (.long q2), .second, .val (.long S), .second, .val (.long P), .second, .val (.long C), .second, .unset, .unset] [(.long (S - ((C - (1 : Int64)) * P)))])) _
      refine XS.lstore X7.here hx rfl (hb hby at_87) rfl (l' := #[.val (.long q1), .second, .val (.long q2), .second, .val (.long S), .second, .val (.long P), .second, .val (.long C), .second, .val (.long (S - ((C - (1 : Int64)) * P))), .second]) rfl ?_
      show Steps p.tables e below (T7.setTop (mkF m 89 #[.val (.long q1), .second, .val (.long q2), .second, .val (.long S), .second, .val (.long P), .second, .val (.long C), .second, .val (.long (S - ((C - (1 : Int64)) * P))), .second] [])) _
      refine XS.lload X7.here hx rfl (hb hby at_89) rfl ?_
      show Steps p.tables e below (T7.setTop (mkF m 91 #[.val (.long q1), .second, .val (.long q2), .second, .val (.long S), .second, .val (.long P), .second, .val (.long C), .second, .val (.long (S - ((C - (1 : Int64)) * P))), .second] [(.long (S - ((C - (1 : Int64)) * P)))])) _
      refine XS.lconst X7.here hx rfl (hb hby at_91) ?_
      show Steps p.tables e below (T7.setTop (mkF m 92 #[.val (.long q1), .second, .val (.long q2), .second, .val (.long S), .second, .val (.long P), .second, .val (.long C), .second, .val (.long (S - ((C - (1 : Int64)) * P))), .second] [(.long (0 : Int64)), (.long (S - ((C - (1 : Int64)) * P)))])) _
      refine XS.lcmp X7.here hx rfl (hb hby at_92) rfl ?_
      show Steps p.tables e below (T7.setTop (mkF m 93 #[.val (.long q1), .second, .val (.long q2), .second, .val (.long S), .second, .val (.long P), .second, .val (.long C), .second, .val (.long (S - ((C - (1 : Int64)) * P))), .second] [(.int (lcmpW (S - ((C - (1 : Int64)) * P)) (0 : Int64)))])) _
      refine XS.ifNo X7.here hx rfl (hb hby at_93) rfl ((if0 _ _).trans (tlt ((lw_gt _ _).mpr g3)).2.2.2) ?_
      show Steps p.tables e below (T7.setTop (mkF m 96 #[.val (.long q1), .second, .val (.long q2), .second, .val (.long S), .second, .val (.long P), .second, .val (.long C), .second, .val (.long (S - ((C - (1 : Int64)) * P))), .second] [])) _
      refine XS.lload X7.here hx rfl (hb hby at_96) rfl ?_
      show Steps p.tables e below (T7.setTop (mkF m 98 #[.val (.long q1), .second, .val (.long q2), .second, .val (.long S), .second, .val (.long P), .second, .val (.long C), .second, .val (.long (S - ((C - (1 : Int64)) * P))), .second] [(.long (S - ((C - (1 : Int64)) * P)))])) _
      refine XS.lload X7.here hx rfl (hb hby at_98) rfl ?_
      show Steps p.tables e below (T7.setTop (mkF m 100 #[.val (.long q1), .second, .val (.long q2), .second, .val (.long S), .second, .val (.long P), .second, .val (.long C), .second, .val (.long (S - ((C - (1 : Int64)) * P))), .second] [(.long P), (.long (S - ((C - (1 : Int64)) * P)))])) _
      refine XS.lcmp X7.here hx rfl (hb hby at_100) rfl ?_
      show Steps p.tables e below (T7.setTop (mkF m 101 #[.val (.long q1), .second, .val (.long q2), .second, .val (.long S), .second, .val (.long P), .second, .val (.long C), .second, .val (.long (S - ((C - (1 : Int64)) * P))), .second] [(.int (lcmpW (S - ((C - (1 : Int64)) * P)) P))])) _
      refine XS.ifNo X7.here hx rfl (hb hby at_101) rfl ((if0 _ _).trans (flt (fun h => g4 ((lw_gt _ _).mp h))).2.2.1) ?_
      show Steps p.tables e below (T7.setTop (mkF m 104 #[.val (.long q1), .second, .val (.long q2), .second, .val (.long S), .second, .val (.long P), .second, .val (.long C), .second, .val (.long (S - ((C - (1 : Int64)) * P))), .second] [])) _
      refine XS.iconst X7.here hx rfl (hb hby at_104) ?_
      show Steps p.tables e below (T7.setTop (mkF m 105 #[.val (.long q1), .second, .val (.long q2), .second, .val (.long S), .second, .val (.long P), .second, .val (.long C), .second, .val (.long (S - ((C - (1 : Int64)) * P))), .second] [(.int (1 : Int32))])) _
      refine XS.goto X7.here hx rfl (pc0 := 105) (pc' := 109) rfl (hb hby at_105) (by decide) (by decide) ?_
      show Steps p.tables e below (T7.setTop (mkF m 109 #[.val (.long q1), .second, .val (.long q2), .second, .val (.long S), .second, .val (.long P), .second, .val (.long C), .second, .val (.long (S - ((C - (1 : Int64)) * P))), .second] [(.int (1 : Int32))])) _
      exact κ)
    obtain ⟨fs, hr, hrun, hended, hW, hsame⟩ := X7.leave (v := some (.int (1 : Int32))) (fun h => by rw [Bd.returns] at h; cases h)
    refine ⟨_, _, pre11 _ ?_, hrun, hended, _, _, rfl, ?_, ⟨_, rfl⟩, hW, hsame.mono (by decide) (by decide)⟩
    · exact retN X7 hx (t := .boolean) Bd.returns (by simp) (hb hby at_109) hr
    · show Q0 Z q1 q2 h0 n0 _ T7.heap _
      exact ⟨rfl, N7⟩
set_option maxRecDepth 65536 in
set_option maxHeartbeats 40000000 in
theorem comes_1 {Post : Tables → Env → Array Value → State → Outcome → State → Prop} (hpost : ∀ tb e args s v u, (limb_1_1.after args s (.returned v) u = true ∧ limb_1_2.after args s (.returned v) u = true ∧ True) → FrameEnd s (.returned v) u (Jvm.fieldLocs frame_1_writes args s ++ Jvm.arrayLocs frame_1_arrays args s ++ Jvm.staticLocs frame_1_statics s) 0 0 → Post tb e args s (.returned v) u) :
    ArmFor flags0 classFile x code maxLocals ret World_1 tables_1 room_1 Calls_1 rest_1 Pre_1 Post := by
  intro l hfl _ _ p e ha hc hk s m args below hf hA hF happ hP
  obtain ⟨hcalls, hrest, hpre⟩ := hP
  obtain ⟨-, -, -, hnamed, -, -, -, hat⟩ := (Spec.applies_iff hf).mp happ
  obtain ⟨hg, hn⟩ := and_e (Cond.before_iff.mp (show (Jvm.Cond.and given_1 narrow_1).before args s = true from hpre))
  obtain ⟨gc, ga⟩ := and_e hg
  obtain ⟨ga0, gr0⟩ := and_e ga
  obtain ⟨w0, w1, rfl⟩ : ∃ w0 w1 : Value, args = #[w0, w1] := by
    have hs : args.size = 2 := by simpa [Cond.value, given_1] using gc
    obtain ⟨L⟩ := args
    match L, hs with
    | [w0, w1], _ => exact ⟨w0, w1, rfl⟩
  have hw := fun d (hd : d ∈ tables_1) => atoms_spec (ws := Jvm.Cond.code x code maxLocals ret :: tables_1) hat d (List.mem_cons_of_mem _ hd)
  have hfit : Fit s := fun {y c} hc i hi => by
    obtain ⟨ha, rfl⟩ := Array.getElem?_eq_some_iff.mp hc
    have q := List.all_eq_true.mp ((Array.all_eq_true_iff_forall_mem.mp hF) _ (Array.getElem_mem ha)) i (List.mem_range.mpr hi)
    simpa [Array.getElem?_eq_getElem hi] using q
  obtain ⟨i0, ei0⟩ := isL_v ga0
  obtain rfl : w0 = (.long i0) := Option.some.inj ei0
  obtain ⟨i1, ei1⟩ := isL_v gr0
  obtain rfl : w1 = (.long i1) := Option.some.inj ei1
  obtain ⟨n, o, h1, h2, h3, _, L, rfl, ⟨rfl, N⟩, hq⟩ := rm0 l s _ hw tables_1 i0 i1 s.heap s.heap.size (Nat.le_refl _) p e ha hc hk s m _ below hf ((Spec.applies_iff_loose hf).mp happ).1 ⟨rfl, State.Warmed39.refl s, rfl⟩ trivial
  refine ⟨n, _, h1, h2, h3, hpost _ _ _ _ _ _ ⟨Cond.after_iff.mpr rfl, Cond.after_iff.mpr (eq_i res_at (Term.int_eval (1)) rfl), trivial⟩ ⟨hq.1, hq.2.1, (hq.2.2.sift fun y hy => Or.inr (N y hy)).mono (by decide) (by decide)⟩⟩
theorem main_1_1 : Claimed_1_1 := comes_1 fun _ _ _ _ _ _ h hF => ⟨h.1, hF⟩
theorem main_1_2 : Claimed_1_2 := comes_1 fun _ _ _ _ _ _ h hF => ⟨h.2.1, hF⟩
end Jvm.Pilot.@@N@@
namespace Jvm.Pilot.@@N@@
open Jvm Jvm.ClassFile Sem Op Lib Jvm.Free Jvm.Stand Jvm.Pilot.@@N@@.Jvm.D
/-! MADE BY PROGRAM (witnessworld.py) out of the Statement's table words and the real class files: 9 classes; the members and pool entries that the words name. The judged class is class 1, her method 1. -/
namespace start1
open Jvm.ClassFile
def u (s : String) : CpInfo := .utf8 (stringToUtf16 s)
/-- a pool by its gaps: so many unusable entries, then the entry; so many at the end -/
def gap : Nat → List CpInfo → List CpInfo
  | 0, r => r
  | n + 1, r => .unusable :: gap n r
def poolList (es : List (Nat × CpInfo)) (last : Nat) : List CpInfo := es.foldr (fun e r => gap e.1 (e.2 :: r)) (gap last [])
def pool (es : List (Nat × CpInfo)) (last : Nat) : Array CpInfo := ⟨poolList es last⟩
def fileOf (pool : Array CpInfo) (this : Nat) (attrs : Array Attribute := #[]) (ms : Array MethodInfo := #[]) (fl : Nat := 33) (sup : Nat := 0) (ifs : Array Nat := #[]) (fds : Array FieldInfo := #[]) : ClassFile where
  minorVersion := 0
  majorVersion := 65
  constantPool := pool
  accessFlags := fl
  thisClass := this
  superClass := sup
  interfaces := ifs
  fields := fds
  methods := ms
  attributes := attrs
def plain (name : String) (sup : Option ClassId) : Class where
  name := name
  kind := .ordinary
  loader := none
  accessFlags := 33
  super := sup
  interfaces := #[]
  cf := none
  fields := #[]
  methods := #[]
  instanceTypes := #[]
  staticTypes := #[]
  resolved := #[]
  callSites := []
  init := .initialized
  statics := none
  mirror := none

def pool0 : Array CpInfo := pool [(5, u "<init>"), (0, u "()V"), (1, .class_ 10), (1, u "java/lang/Object")] 113

def k0m0 : Method := { name := "<init>", desc := "()V", sig := { parameters := [], returnType := none }, accessFlags := 1, code := none }
/-- java/lang/Object -/
def k0 : Class := { plain "java/lang/Object" none with
  accessFlags := 33
  interfaces := #[]
  cf := some (fileOf pool0 8 #[] #[{ accessFlags := 1, nameIndex := 5, descriptorIndex := 6, attributes := #[] }] 33 0 #[] #[])
  fields := #[]
  methods := #[k0m0]
  instanceTypes := #[]
  staticTypes := #[]
  resolved := Array.replicate 124 none
  statics := none }

def pool1 : Array CpInfo := pool [(2, .class_ 4), (1, u "java/lang/Object"), (0, u "<init>"), (0, u "()V"), (2, .long 9223372036854775807), (1, .methodref 12 13), (0, .class_ 14), (0, .nameAndType 15 16), (0, u "com/example/docket/docket/core/FilePart"), (0, u "count"), (0, u "(JJ)J"), (0, .class_ 18), (0, u "com/example/docket/docket/core/FilePartCountPinLaw"), (2, u "law"), (0, u "(JJ)Z")] 3

def k1m0 : Method := { name := "<init>", desc := "()V", sig := { parameters := [], returnType := none }, accessFlags := 1, code := none }
def k1c1 : Code := { maxStack := 6, maxLocals := 12, code := code, exceptionTable := #[], attributes := #[] }
def k1m1 : Method := { name := "law", desc := "(JJ)Z", sig := { parameters := [.long, .long], returnType := some .boolean }, accessFlags := 9, code := some k1c1 }
/-- com/example/docket/docket/core/FilePartCountPinLaw -/
def k1 : Class := { plain "com/example/docket/docket/core/FilePartCountPinLaw" (some 0) with
  accessFlags := 49
  interfaces := #[]
  cf := some (fileOf pool1 17 #[] #[{ accessFlags := 1, nameIndex := 5, descriptorIndex := 6, attributes := #[] }, { accessFlags := 9, nameIndex := 21, descriptorIndex := 22, attributes := #[] }] 49 2 #[] #[])
  fields := #[]
  methods := #[k1m0, k1m1]
  instanceTypes := #[]
  staticTypes := #[]
  resolved := Array.replicate 26 none
  statics := none }

def pool2 : Array CpInfo := pool [(2, .class_ 4), (1, u "java/lang/Object"), (3, .class_ 10), (1, u "com/example/docket/docket/core/FilePart"), (0, u "uuid"), (0, u "Ljava/util/UUID;"), (2, u "document"), (2, u "volgnummer"), (0, u "I"), (2, u "omvang"), (0, u "J"), (2, u "voltooid"), (0, u "Z"), (2, u "count"), (0, u "(JJ)J"), (31, u "MAX_PARTS")] 36

def k2c0 : Code := { maxStack := 6, maxLocals := 4, code := prog_8_method_2_code, exceptionTable := #[], attributes := #[] }
def k2m0 : Method := { name := "count", desc := "(JJ)J", sig := { parameters := [.long, .long], returnType := some .long }, accessFlags := 9, code := some k2c0 }
/-- com/example/docket/docket/core/FilePart -/
def k2 : Class := { plain "com/example/docket/docket/core/FilePart" (some 0) with
  accessFlags := 49
  interfaces := #[]
  cf := some (fileOf pool2 8 #[] #[{ accessFlags := 9, nameIndex := 30, descriptorIndex := 31, attributes := #[] }] 49 2 #[] #[{ accessFlags := 25, nameIndex := 63, descriptorIndex := 19, attributes := #[] }, { accessFlags := 18, nameIndex := 11, descriptorIndex := 12, attributes := #[] }, { accessFlags := 18, nameIndex := 15, descriptorIndex := 12, attributes := #[] }, { accessFlags := 18, nameIndex := 18, descriptorIndex := 19, attributes := #[] }, { accessFlags := 18, nameIndex := 22, descriptorIndex := 23, attributes := #[] }, { accessFlags := 18, nameIndex := 26, descriptorIndex := 27, attributes := #[] }])
  fields := #[{ name := "MAX_PARTS", type := .int, accessFlags := 25, slot := 0, constantValue := 0 }, { name := "uuid", type := (.object "java/util/UUID"), accessFlags := 18, slot := 0, constantValue := 0 }, { name := "document", type := (.object "java/util/UUID"), accessFlags := 18, slot := 1, constantValue := 0 }, { name := "volgnummer", type := .int, accessFlags := 18, slot := 2, constantValue := 0 }, { name := "omvang", type := .long, accessFlags := 18, slot := 3, constantValue := 0 }, { name := "voltooid", type := .boolean, accessFlags := 18, slot := 4, constantValue := 0 }]
  methods := #[k2m0]
  instanceTypes := #[(.object "java/util/UUID"), (.object "java/util/UUID"), .int, .long, .boolean]
  staticTypes := #[.int]
  resolved := Array.replicate 100 none
  statics := none }

def pool3 : Array CpInfo := pool [(1, u "java/lang/Cloneable"), (0, .class_ 1), (0, u "java/lang/Object"), (0, .class_ 3)] 3

/-- java/lang/Cloneable -/
def k3 : Class := { plain "java/lang/Cloneable" (some 0) with
  accessFlags := 1537
  interfaces := #[]
  cf := some (fileOf pool3 2 #[] #[] 1537 4 #[] #[])
  fields := #[]
  methods := #[]
  instanceTypes := #[]
  staticTypes := #[]
  resolved := Array.replicate 8 none
  statics := none }

def pool4 : Array CpInfo := pool [(1, u "java/io/Serializable"), (0, .class_ 1), (0, u "java/lang/Object"), (0, .class_ 3)] 3

/-- java/io/Serializable -/
def k4 : Class := { plain "java/io/Serializable" (some 0) with
  accessFlags := 1537
  interfaces := #[]
  cf := some (fileOf pool4 2 #[] #[] 1537 4 #[] #[])
  fields := #[]
  methods := #[]
  instanceTypes := #[]
  staticTypes := #[]
  resolved := Array.replicate 8 none
  statics := none }

/-- the primitive byte -/
def k5 : Class := { plain "byte" none with kind := .primitive 'B', accessFlags := 0x411 }
/-- [B -/
def k6 : Class := { plain "[B" (some 0) with kind := .array 5 .byte, interfaces := #[3, 4], accessFlags := 1041 }

/-- the primitive int -/
def k7 : Class := { plain "int" none with kind := .primitive 'I', accessFlags := 0x411 }
/-- [I -/
def k8 : Class := { plain "[I" (some 0) with kind := .array 7 .int, interfaces := #[3, 4], accessFlags := 1041 }

def heap : Heap := #[]
def classes : Array Class := #[k0, k1, k2, k3, k4, k5, k6, k7, k8]
def interned : List (Array UInt16 × Addr) := []
def slotsUsed : Nat := 0
def theMethod : MethodId := ⟨1, 1⟩
def args0 : Array Value := #[.long 5, .long 3]
def aboutOver (below : List Frame) : State where
  vm := { classes := classes, interned := interned.toArray }
  heap := heap
  slotsUsed := slotsUsed
  threads := #[{ frames := .invoking theMethod args0 :: below }]
def below0 : List Frame := [.native { method := ⟨0, 0⟩, args := #[] }]
def about1 : State := aboutOver below0
def p0 : Program := .bare "" "" ""
def e0 : Env := launch0.env 0 0 0
theorem w_frames : about1.frames = Frame.invoking theMethod args0 :: below0 := rfl
set_option maxRecDepth 65536 in
theorem w_args : argsFit about1.vm theMethod args0 = true := by decide +kernel
set_option maxRecDepth 65536 in
theorem w_heap : heapFits about1 = true := by decide +kernel
set_option maxRecDepth 65536 in
theorem w_runnable : about1.curStatus? = some .runnable := by decide +kernel
set_option maxRecDepth 65536 in
theorem w_alone : about1.alone = true := by decide +kernel
set_option maxRecDepth 65536 in
theorem w_named : about1.methodNamed? x = some theMethod := by decide +kernel
set_option maxRecDepth 65536 in
theorem w_hears : about1.hears theMethod below0 = true := by decide +kernel
set_option maxRecDepth 65536 in
theorem w_ripe : about1.ripe theMethod args0 below0 = true := by decide +kernel
theorem w_running : about1.status = .running := rfl
set_option maxRecDepth 65536 in
theorem w_room : about1.hasRoom e0.platform room_1 = true :=
  launch0.hasRoom_least _ room_1 (by decide +kernel) (by decide +kernel) (by decide +kernel) (by decide +kernel) (by decide +kernel) (by decide +kernel)
theorem allAtoms_all (ts : List Jvm.Cond) (a : Array Jvm.Value) (st : Jvm.State) : (allAtoms ts).before a st = ts.all (fun c => c.before a st) := by
  induction ts with
  | nil => rfl
  | cons c t ih =>
    show (Jvm.Cond.and c (allAtoms t)).before a st = _
    rw [Jvm.Cond.before_and, ih, List.all_cons]
def words1 : List Jvm.Cond := Jvm.Cond.code x code maxLocals ret :: tables_1
/-- a 'code' word, met by the world's own term for the bytes: nothing is compared byte by byte -/
theorem code_word {y : MethodName} {bytes : ByteArray} {mx : Nat} {rt : Option FieldType} {a : Array Value} {s : State} {m : MethodId} {meth : Method} {c : Code} (h1 : s.methodNamed? y = some m) (h2 : s.vm.method? m = some meth) (h3 : meth.code = some c) (h4 : c.code = bytes)
    (h5 : (c.maxLocals == mx && c.exceptionTable.isEmpty && decide (c.maxStack ≤ mostOperands) && decide (meth.sig.returnType = rt) && !meth.locks && decide (parseMethodDescriptor y.desc = some meth.sig)) = true) : (Jvm.Cond.code y bytes mx rt).before a s = true := by
  simp only [Bool.and_eq_true, beq_iff_eq, Bool.not_eq_true', decide_eq_true_eq] at h5
  obtain ⟨⟨⟨⟨⟨g1, g2⟩, g3⟩, g4⟩, g5⟩, g6⟩ := h5
  simp [Cond.before, Cond.holds, Cond.value, h1, h2, h3, h4, g1, g2, g3, g4, g5, g6]
def isCode : Jvm.Cond → Bool
  | .code _ _ _ _ => true
  | _ => false
theorem all_split {L : List Jvm.Cond} {P : Jvm.Cond → Bool} (h1 : L.all (fun c => isCode c || P c) = true) (h2 : ∀ c ∈ L.filter isCode, P c = true) : L.all P = true := by
  refine List.all_eq_true.mpr fun c hc => ?_
  have h := List.all_eq_true.mp h1 c hc
  rcases Bool.eq_false_or_eq_true (isCode c) with hi | hi
  · exact h2 c (List.mem_filter.mpr ⟨hc, hi⟩)
  · simpa [hi] using h
set_option maxRecDepth 65536 in
theorem w_c0 : (Jvm.Cond.code x code maxLocals ret).before args0 about1 = true := code_word (m := ⟨1, 1⟩) (meth := k1m1) (c := k1c1) (by decide +kernel) rfl rfl rfl (by decide +kernel)
set_option maxRecDepth 65536 in
theorem w_c1 : (Jvm.Cond.code ({ cls := "com/example/docket/docket/core/FilePart", name := "count", desc := "(JJ)J" } : Jvm.MethodName) prog_8_method_2_code (4 : Nat) (Option.some Jvm.ClassFile.FieldType.long)).before args0 about1 = true := code_word (m := ⟨2, 0⟩) (meth := k2m0) (c := k2c0) (by decide +kernel) rfl rfl rfl (by decide +kernel)
def codes1 : List Jvm.Cond := [Jvm.Cond.code x code maxLocals ret, Jvm.Cond.code ({ cls := "com/example/docket/docket/core/FilePart", name := "count", desc := "(JJ)J" } : Jvm.MethodName) prog_8_method_2_code (4 : Nat) (Option.some Jvm.ClassFile.FieldType.long)]
set_option maxRecDepth 65536 in
theorem codes_eq : words1.filter isCode = codes1 := rfl
theorem w_codes : ∀ c ∈ words1.filter isCode, c.before args0 about1 = true := by
  rw [codes_eq]
  intro c hc
  simp only [codes1, List.mem_cons, List.not_mem_nil, or_false] at hc
  rcases hc with rfl | rfl
  · exact w_c0
  · exact w_c1
set_option maxRecDepth 65536 in
theorem w_t1 : words1.all (fun c => isCode c || c.before args0 about1) = true := by decide +kernel
theorem w_tables : (allAtoms (Jvm.Cond.code x code maxLocals ret :: tables_1)).before args0 about1 = true := by
  rw [allAtoms_all]
  show words1.all (fun c => c.before args0 about1) = true
  refine all_split ?_ w_codes
  rw [w_t1]
set_option maxRecDepth 65536 in
theorem w_case : (Jvm.Cond.and given_1 narrow_1).before args0 about1 = true := by decide +kernel
theorem w_applies : (headSpec (Jvm.Cond.code x code maxLocals ret :: tables_1) room_1).applies x e0.platform about1 = true :=
  (Spec.applies_iff w_frames).mpr ⟨w_running, w_runnable, w_alone, w_named, w_hears, w_ripe, w_room, w_tables⟩
theorem atStart : AtStart classFile x code maxLocals ret World_1 tables_1 room_1 Calls_1 rest_1 Pre_1 launch0 p0 e0 about1 theMethod args0 below0 :=
  ⟨lists_1, trivial, launch0.admits_env _ _ _, launch0.least_env, fairChoices_fair.cas, fairChoices_fair.clock, w_frames, w_args, w_heap, w_applies, trivial, trivial, w_case⟩
end start1
theorem witness_1 : WitnessClaimed_1 := ⟨start1.p0, start1.e0, start1.about1, start1.theMethod, start1.args0, start1.below0, start1.atStart⟩
end Jvm.Pilot.@@N@@
