import JvmDerived
import JvmDerived.Pilot.@@N@@Statement
import JvmDerived.Pilot.@@N@@Code
set_option linter.unusedVariables false
set_option linter.unusedSimpArgs false
namespace Jvm.RoadKit
open Sem ClassFile Op Lib Jvm.Stand Jvm.Free Jvm.LawKit
section New
variable {p : Program} {l : Launch} {e : Env} {R : Room} {s : State} {m : MethodId} {args : Array Value} {below : List Frame} {meth : Method} {c : Code} {T : State} {locs : List Loc} {cells slots : Nat}
theorem retI (X : Stand p l e R s m args below meth c T locs cells slots) (hx : p.tables.exec = Jvm.exec) {pc : Nat} {Ls : Array Slot} {z : Int32} {rest : List Value} (hret : meth.sig.returnType = some .int) (hd : decode c.code pc = .ok (.ireturn, 1)) {fs : List Frame}
    (hl : ∀ (f : JFrame) (acts : List Action), f.method = m → f.locked = none → f.entered = [] → (doReturn e (T.setTop f) acts (some (.int z))).1 = T.setFrames fs) : Steps p.tables e below (T.setTop (mkF m pc Ls (.int z :: rest))) (T.setFrames fs) := by
  have hm' : T.vm.method? m = some meth := X.method'
  have hn : narrow .int (.int z) = .int z := rfl
  show Steps p.tables e below (T.setTop { method := m, pc := pc, locals := Ls, stack := _ :: rest, locked := none }) _
  jvm_step X.here [X.here.top, hx, hd, hm', hret, hn]
  first | (intro acts; rw [hl _ acts rfl rfl rfl]) | rw [hl _ _ rfl rfl rfl]
  exact Steps.refl _
theorem retL (X : Stand p l e R s m args below meth c T locs cells slots) (hx : p.tables.exec = Jvm.exec) {pc : Nat} {Ls : Array Slot} {z : Int64} {rest : List Value} (hret : meth.sig.returnType = some .long) (hd : decode c.code pc = .ok (.lreturn, 1)) {fs : List Frame}
    (hl : ∀ (f : JFrame) (acts : List Action), f.method = m → f.locked = none → f.entered = [] → (doReturn e (T.setTop f) acts (some (.long z))).1 = T.setFrames fs) : Steps p.tables e below (T.setTop (mkF m pc Ls (.long z :: rest))) (T.setFrames fs) := by
  have hm' : T.vm.method? m = some meth := X.method'
  have hn : narrow .long (.long z) = .long z := rfl
  show Steps p.tables e below (T.setTop { method := m, pc := pc, locals := Ls, stack := _ :: rest, locked := none }) _
  jvm_step X.here [X.here.top, hx, hd, hm', hret, hn]
  first | (intro acts; rw [hl _ acts rfl rfl rfl]) | rw [hl _ _ rfl rfl rfl]
  exact Steps.refl _
end New
end Jvm.RoadKit
/- laws to paste: Road.backV (cut by pick.py; bodies as the Statement names them) -/
namespace Jvm.Pilot.@@N@@
namespace StrChars
open Jvm Sem ClassFile Op Lib Jvm.Stand Jvm.Free.XT Jvm.Free.ALB Jvm.Free.JM Jvm.Free
open Jvm.Lib.Cold (StaticIs)
/-- a char array whose places are chars -/
def Ch (a : Addr) (A : Cell) (U : State) : Prop := Arr .char a A U ∧ Typed .char A
theorem Ch.mv {a : Addr} {A : Cell} {U U' : State} (h : Ch a A U) (hal : U.vm.Alike U'.vm) (hh : U'.heap = U.heap) : Ch a A U' := ⟨h.1.mv hal hh, h.2⟩
theorem Ch.keep {a : Addr} {A : Cell} {U U' : State} (h : Ch a A U) (hal : U.vm.Alike U'.vm) (hk : U'.heap[a]? = some A) : Ch a A U' := ⟨h.1.keep hal hk, h.2⟩
/-- what place i of a char[]'s cell holds -/
def cv (A : Cell) (i : Nat) : Int32 := match A.slots[i]? with | some (.int x) => x | _ => 0
theorem Ch.get {a : Addr} {A : Cell} {U : State} (h : Ch a A U) {i : Nat} (hi : i < A.slots.size) : A.slots[i]? = some (.int (cv A i)) := by
  have e := Array.getElem?_eq_getElem hi
  have f := h.2 i _ e
  unfold cv; rw [e]
  generalize A.slots[i] = v at f
  cases v <;> simp [fits] at f ⊢
/-- the byte that i2b leaves of a char -/
def lo8 (x : Int32) : Int32 := x.toInt8.toInt32
theorem fits_lo8 (y : Int32) : fits .byte (.int (lo8 y)) = true := by
  have h1 := y.toInt8.le_toInt
  have h2 := y.toInt8.toInt_lt
  simp only [lo8, fits, Bool.and_eq_true, decide_eq_true_eq, Int32.le_iff_toInt_le, Int8.toInt_toInt32, show (-128 : Int32).toInt = -128 from by decide, show (127 : Int32).toInt = 127 from by decide]
  omega
/-- A' is A but that each place j of lo .. hi - 1 holds f j -/
def Laid (A A' : Cell) (lo hi : Nat) (f : Nat → Value) : Prop := A'.cls = A.cls ∧ A'.vm = A.vm ∧ A'.slots.size = A.slots.size ∧ ∀ i, A'.slots[i]? = if lo ≤ i ∧ i < hi then some (f i) else A.slots[i]?
theorem Laid.zero (A : Cell) (lo : Nat) (f : Nat → Value) : Laid A A lo (lo + 0) f := ⟨rfl, rfl, rfl, fun i => by rw [if_neg (by omega)]⟩
theorem Laid.step {A Ak : Cell} {lo k : Nat} {f : Nat → Value} {v : Value} (h : Laid A Ak lo k f) (hlo : lo ≤ k) (hk : k < Ak.slots.size) (hv : v = f k) : Laid A (Ak.setSlot k v) lo (k + 1) f := by
  refine ⟨h.1, h.2.1, by simpa [Cell.setSlot] using h.2.2.1, fun i => ?_⟩
  by_cases e : k = i
  · subst e; rw [Cell.slots_setSlot_self v hk, if_pos (by omega), hv]
  · rw [Cell.slots_setSlot_ne v e, h.2.2.2 i]
    by_cases q : lo ≤ i ∧ i < k
    · rw [if_pos q, if_pos (by omega)]
    · rw [if_neg q, if_neg (by omega)]
def U16 : String := "java/lang/StringUTF16"
namespace Cmp5
def yN : MethodName := ⟨"java/lang/StringUTF16", "compress", "([CI[BII)I"⟩
abbrev yB : ByteArray := jdk_52_method_21_code
theorem d0 : decode yB 0 = .ok (.iconst 0, 1) := by decide +kernel
theorem d1 : decode yB 1 = .ok (.istore 5, 2) := by decide +kernel
theorem d3 : decode yB 3 = .ok (.iload 5, 2) := by decide +kernel
theorem d5 : decode yB 5 = .ok (.iload 4, 2) := by decide +kernel
theorem d7 : decode yB 7 = .ok (.if_icmp (.ge) 37, 3) := by decide +kernel
theorem d10 : decode yB 10 = .ok (.aload_n 0, 1) := by decide +kernel
theorem d11 : decode yB 11 = .ok (.iload_n 1, 1) := by decide +kernel
theorem d12 : decode yB 12 = .ok (.caload, 1) := by decide +kernel
theorem d13 : decode yB 13 = .ok (.istore 6, 2) := by decide +kernel
theorem d15 : decode yB 15 = .ok (.iload 6, 2) := by decide +kernel
theorem d17 : decode yB 17 = .ok (.sipush 255, 3) := by decide +kernel
theorem d20 : decode yB 20 = .ok (.if_icmp (.le) 6, 3) := by decide +kernel
theorem d26 : decode yB 26 = .ok (.aload_n 2, 1) := by decide +kernel
theorem d27 : decode yB 27 = .ok (.iload_n 3, 1) := by decide +kernel
theorem d28 : decode yB 28 = .ok (.iload 6, 2) := by decide +kernel
theorem d30 : decode yB 30 = .ok (.i2b, 1) := by decide +kernel
theorem d31 : decode yB 31 = .ok (.bastore, 1) := by decide +kernel
theorem d32 : decode yB 32 = .ok (.iinc 1 1, 3) := by decide +kernel
theorem d35 : decode yB 35 = .ok (.iinc 3 1, 3) := by decide +kernel
theorem d38 : decode yB 38 = .ok (.iinc 5 1, 3) := by decide +kernel
theorem d41 : decode yB 41 = .ok (.goto (-38), 3) := by decide +kernel
theorem d44 : decode yB 44 = .ok (.iload 4, 2) := by decide +kernel
theorem d46 : decode yB 46 = .ok (.ireturn, 1) := by decide +kernel
def site : List Cond := []
def tab : Cond := tabOf yN yB 7 (some .int) site
def P (b : Addr) (A : Cell) (d : Addr) (B : Cell) (o q len : Nat) (args : Array Value) (s : State) : Prop := args = #[.ref b, .int (Int32.ofNat o), .ref d, .int (Int32.ofNat q), .int (Int32.ofNat len)] ∧ Ch b A s ∧ Arr .byte d B s ∧ b ≠ d ∧ o + len ≤ A.slots.size ∧ q + len ≤ B.slots.size ∧ ∀ i, i < len → ¬ 255 < cv A (o + i)
def E (b : Addr) (A : Cell) (d : Addr) (B : Cell) (o q len : Nat) (r : Option Value) (s u : State) : Prop := r = some (.int (Int32.ofNat len)) ∧ ∃ B', Put d B' s u ∧ Laid B B' q (q + len) (fun j => Value.int (lo8 (cv A (o + (j - q)))))
/-- no char of the range above 255: len; the places written hold each char's low byte -/
theorem law (l : Launch) (b : Addr) (A : Cell) (d : Addr) (B : Cell) (o q len : Nat) : Law l yN 5 5 0 0 yB 7 (some .int) site (P b A d B o q len) (E b A d B o q len) (copyLocs d q len) 0 0 := by
  refine Law.of_walk (plainFor_of_name (by decide +kernel)) (by decide +kernel) (by decide +kernel) (by decide) (fun _ _ h => by rw [h.1]; rfl) (fun _ U U' hal hh h => ⟨h.1, h.2.1.mv hal hh, h.2.2.1.mv hal hh, h.2.2.2⟩) (fun r U U' V V' h1 hal h2 h => ⟨h.1, h.2.elim fun B' q => ⟨B', q.1.mv h1 h2, q.2⟩⟩) ?_
  intro p e s m args below meth c s₁ X0 hexec hbytes hml hret hlk hnm hown hh0 W hP
  obtain ⟨rfl, hA, hB, hne, l1, l2, hp⟩ := hP
  have c1 : Steps p.tables e below (s₁.setTop (entryFrame m #[.ref b, .int (Int32.ofNat o), .ref d, .int (Int32.ofNat q), .int (Int32.ofNat len)] 7)) (s₁.setTop (mkF m 0 #[.val (.ref b), .val (.int (Int32.ofNat o)), .val (.ref d), .val (.int (Int32.ofNat q)), .val (.int (Int32.ofNat len)), .unset, .unset] [])) := entry rfl
  have hA0 := hA.1.mv X0.warmed.alike hh0
  have hB0 := hB.mv X0.warmed.alike hh0
  have a31 := hA.1.2.2.2
  have c2 : Steps p.tables e below (s₁.setTop (entryFrame m #[.ref b, .int (Int32.ofNat o), .ref d, .int (Int32.ofNat q), .int (Int32.ofNat len)] 7)) (s₁.setTop (mkF m 3 #[.val (.ref b), .val (.int (Int32.ofNat o)), .val (.ref d), .val (.int (Int32.ofNat q)), .val (.int (Int32.ofNat len)), .val (.int 0), .unset] [])) := c1.trans (by
    refine iconstV X0.here hexec rfl 0 (hb hbytes d0) (by decide) ?_
    refine XS.istore X0.here hexec rfl (hb hbytes d1) rfl rfl ?_
    exact Steps.refl _)
  have loop : ∀ (r i : Nat), i + r = len → ∀ (z : Slot), (z = .unset ∨ ∃ w, z = .val w ∧ w.category = 1) → ∀ (Tl : State) (Bk : Cell), Stand p l e { frames := 0, locals := 0, cells := 0, slots := 0 } s m #[.ref b, .int (Int32.ofNat o), .ref d, .int (Int32.ofNat q), .int (Int32.ofNat len)] below meth c Tl ([] ++ copyLocs d q i) 0 0 → Put d Bk s₁ Tl → Laid B Bk q (q + i) (fun j => Value.int (lo8 (cv A (o + (j - q))))) →
      Steps p.tables e below (s₁.setTop (entryFrame m #[.ref b, .int (Int32.ofNat o), .ref d, .int (Int32.ofNat q), .int (Int32.ofNat len)] 7)) (Tl.setTop (mkF m 3 #[.val (.ref b), .val (.int (Int32.ofNat (o + i))), .val (.ref d), .val (.int (Int32.ofNat (q + i))), .val (.int (Int32.ofNat len)), .val (.int (Int32.ofNat i)), z] [])) → ∃ (T' : State) (B' : Cell) (z' : Slot), Stand p l e { frames := 0, locals := 0, cells := 0, slots := 0 } s m #[.ref b, .int (Int32.ofNat o), .ref d, .int (Int32.ofNat q), .int (Int32.ofNat len)] below meth c T' ([] ++ copyLocs d q len) 0 0 ∧ Put d B' s₁ T' ∧ Laid B B' q (q + len) (fun j => Value.int (lo8 (cv A (o + (j - q))))) ∧
      Steps p.tables e below (s₁.setTop (entryFrame m #[.ref b, .int (Int32.ofNat o), .ref d, .int (Int32.ofNat q), .int (Int32.ofNat len)] 7)) (T'.setTop (mkF m 3 #[.val (.ref b), .val (.int (Int32.ofNat (o + len))), .val (.ref d), .val (.int (Int32.ofNat (q + len))), .val (.int (Int32.ofNat len)), .val (.int (Int32.ofNat len)), z'] [])) := by
    intro r
    induction r with
    | zero =>
      intro i hi z hz Tl Bk Xl pl fl cl
      have hil : i = len := by omega
      rw [hil] at Xl fl cl
      exact ⟨Tl, Bk, z, Xl, pl, fl, cl⟩
    | succ r ih =>
      intro i hi z hz Tl Bk Xl pl fl cl
      have all := X0.warmed.alike.symm.trans Xl.warmed.alike
      have hAl := hA0.keep all (pl.other hne hA0.1)
      have hBk := hB0.like all pl.1 fl.1 fl.2.1 fl.2.2.1
      have hlt : q + i < Bk.slots.size := by rw [fl.2.2.1]; omega
      have c3 : Steps p.tables e below (s₁.setTop (entryFrame m #[.ref b, .int (Int32.ofNat o), .ref d, .int (Int32.ofNat q), .int (Int32.ofNat len)] 7)) (Tl.setTop (mkF m 12 #[.val (.ref b), .val (.int (Int32.ofNat (o + i))), .val (.ref d), .val (.int (Int32.ofNat (q + i))), .val (.int (Int32.ofNat len)), .val (.int (Int32.ofNat i)), z] [.int (Int32.ofNat (o + i)), .ref b])) := cl.trans (by
        refine XS.iload Xl.here hexec rfl (hb hbytes d3) rfl ?_
        refine XS.iload Xl.here hexec rfl (hb hbytes d5) rfl ?_
        refine XS.icmpNo Xl.here hexec rfl (hb hbytes d7) rfl (ii_ge_f (lt32 (by omega) (by omega))) ?_
        refine XS.aloadN Xl.here hexec rfl (hb hbytes d10) rfl rfl ?_
        refine XS.iloadN Xl.here hexec rfl (hb hbytes d11) rfl ?_
        exact Steps.refl _)
      have c4 : Steps p.tables e below (s₁.setTop (entryFrame m #[.ref b, .int (Int32.ofNat o), .ref d, .int (Int32.ofNat q), .int (Int32.ofNat len)] 7)) (Tl.setTop (mkF m 13 #[.val (.ref b), .val (.int (Int32.ofNat (o + i))), .val (.ref d), .val (.int (Int32.ofNat (q + i))), .val (.int (Int32.ofNat len)), .val (.int (Int32.ofNat i)), z] [.int (cv A (o + i))])) := c3.trans (by
        refine Xl.aget hexec hAl rfl (hA.get (i := o + i) (by omega)) rfl rfl (hb hbytes d12) ?_
        exact Steps.refl _)
      have c5 : Steps p.tables e below (s₁.setTop (entryFrame m #[.ref b, .int (Int32.ofNat o), .ref d, .int (Int32.ofNat q), .int (Int32.ofNat len)] 7)) (Tl.setTop (mkF m 15 #[.val (.ref b), .val (.int (Int32.ofNat (o + i))), .val (.ref d), .val (.int (Int32.ofNat (q + i))), .val (.int (Int32.ofNat len)), .val (.int (Int32.ofNat i)), .val (.int (cv A (o + i)))] [])) := c4.trans (by
        refine XS.istoreS Xl.here hexec rfl (hb hbytes d13) rfl rfl hz ?_
        exact Steps.refl _)
      have c6 : Steps p.tables e below (s₁.setTop (entryFrame m #[.ref b, .int (Int32.ofNat o), .ref d, .int (Int32.ofNat q), .int (Int32.ofNat len)] 7)) (Tl.setTop (mkF m 31 #[.val (.ref b), .val (.int (Int32.ofNat (o + i))), .val (.ref d), .val (.int (Int32.ofNat (q + i))), .val (.int (Int32.ofNat len)), .val (.int (Int32.ofNat i)), .val (.int (cv A (o + i)))] [.int (lo8 (cv A (o + i))), .int (Int32.ofNat (q + i)), .ref d])) := c5.trans (by
        refine XS.iload Xl.here hexec rfl (hb hbytes d15) rfl ?_
        refine sipushV Xl.here hexec rfl 255 (hb hbytes d17) (by decide) ?_
        refine XS.icmpYes Xl.here hexec rfl (pc0 := 20) rfl (hb hbytes d20) rfl (ii_le_t (hp i (by omega))) (by decide) rfl ?_
        refine XS.aloadN Xl.here hexec rfl (hb hbytes d26) rfl rfl ?_
        refine XS.iloadN Xl.here hexec rfl (hb hbytes d27) rfl ?_
        refine XS.iload Xl.here hexec rfl (hb hbytes d28) rfl ?_
        refine i2b Xl.here hexec rfl (hb hbytes d30) rfl ?_
        exact Steps.refl _)
      obtain ⟨T7, X7, p7, st7⟩ := Xl.aput hexec hBk rfl hlt rfl (fits_lo8 (cv A (o + i))) (g := (mkF m 31 #[.val (.ref b), .val (.int (Int32.ofNat (o + i))), .val (.ref d), .val (.int (Int32.ofNat (q + i))), .val (.int (Int32.ofNat len)), .val (.int (Int32.ofNat i)), .val (.int (cv A (o + i)))] [.int (lo8 (cv A (o + i))), .int (Int32.ofNat (q + i)), .ref d])) rfl (rest := []) rfl (hb hbytes d31)
      have c8 : Steps p.tables e below (s₁.setTop (entryFrame m #[.ref b, .int (Int32.ofNat o), .ref d, .int (Int32.ofNat q), .int (Int32.ofNat len)] 7)) (T7.setTop (mkF m 32 #[.val (.ref b), .val (.int (Int32.ofNat (o + i))), .val (.ref d), .val (.int (Int32.ofNat (q + i))), .val (.int (Int32.ofNat len)), .val (.int (Int32.ofNat i)), .val (.int (cv A (o + i)))] [])) := c6.trans (st7 _ (Steps.refl _))
      have c9 : Steps p.tables e below (s₁.setTop (entryFrame m #[.ref b, .int (Int32.ofNat o), .ref d, .int (Int32.ofNat q), .int (Int32.ofNat len)] 7)) (T7.setTop (mkF m 3 #[.val (.ref b), .val (.int (Int32.ofNat (o + i) + 1)), .val (.ref d), .val (.int (Int32.ofNat (q + i) + 1)), .val (.int (Int32.ofNat len)), .val (.int (Int32.ofNat i + 1)), .val (.int (cv A (o + i)))] [])) := c8.trans (by
        refine iincV X7.here hexec rfl 1 (hb hbytes d32) (by decide) rfl rfl ?_
        refine iincV X7.here hexec rfl 1 (hb hbytes d35) (by decide) rfl rfl ?_
        refine iincV X7.here hexec rfl 1 (hb hbytes d38) (by decide) rfl rfl ?_
        refine XS.goto X7.here hexec rfl (pc0 := 41) rfl (hb hbytes d41) (by decide) rfl ?_
        exact Steps.refl _)
      have c10 : Steps p.tables e below (s₁.setTop (entryFrame m #[.ref b, .int (Int32.ofNat o), .ref d, .int (Int32.ofNat q), .int (Int32.ofNat len)] 7)) (T7.setTop (mkF m 3 #[.val (.ref b), .val (.int (Int32.ofNat (o + (i + 1)))), .val (.ref d), .val (.int (Int32.ofNat (q + (i + 1)))), .val (.int (Int32.ofNat len)), .val (.int (Int32.ofNat (i + 1))), .val (.int (cv A (o + i)))] [])) := by
        have := c9
        rw [succ32, succ32, succ32] at this
        exact this
      exact ih (i + 1) (by omega) _ (Or.inr ⟨_, rfl, rfl⟩) T7 _ (by rw [copyLocs_step, ← List.append_assoc]; exact X7) (pl.trans p7) (fl.step (by omega) hlt (by simp)) c10
  obtain ⟨T9, B9, z9, X9, p9, f9, g9⟩ := loop len 0 (by omega) .unset (Or.inl rfl) s₁ B (by simpa [copyLocs] using X0) ⟨hB0.1, fun _ _ => rfl, rfl⟩ (Laid.zero _ _ _) c2
  have c11 : Steps p.tables e below (s₁.setTop (entryFrame m #[.ref b, .int (Int32.ofNat o), .ref d, .int (Int32.ofNat q), .int (Int32.ofNat len)] 7)) (T9.setTop (mkF m 46 #[.val (.ref b), .val (.int (Int32.ofNat (o + len))), .val (.ref d), .val (.int (Int32.ofNat (q + len))), .val (.int (Int32.ofNat len)), .val (.int (Int32.ofNat len)), z9] [.int (Int32.ofNat len)])) := g9.trans (by
    refine XS.iload X9.here hexec rfl (hb hbytes d3) rfl ?_
    refine XS.iload X9.here hexec rfl (hb hbytes d5) rfl ?_
    refine XS.icmpYes X9.here hexec rfl (pc0 := 7) rfl (hb hbytes d7) rfl (ii_ge_t (nlt32 (by omega) (Nat.le_refl _))) (by decide) rfl ?_
    refine XS.iload X9.here hexec rfl (hb hbytes d44) rfl ?_
    exact Steps.refl _)
  exact ⟨T9, some (.int (Int32.ofNat len)), _, _, _, X9, by simp, rfl, rfl, (fun h => by cases h), ⟨rfl, B9, p9.from hh0, f9⟩, fun fs hl => c11.trans (X9.ireturnOut hexec hret rfl (Or.inl rfl) (hb hbytes d46) hl)⟩
end Cmp5
namespace Cmp3
def yN : MethodName := ⟨"java/lang/StringUTF16", "compress", "([CII)[B"⟩
abbrev yB : ByteArray := jdk_52_method_16_code
theorem d0 : decode yB 0 = .ok (.iload_n 2, 1) := by decide +kernel
theorem d1 : decode yB 1 = .ok (.newarray .byte, 2) := by decide +kernel
theorem d3 : decode yB 3 = .ok (.astore_n 3, 1) := by decide +kernel
theorem d4 : decode yB 4 = .ok (.aload_n 0, 1) := by decide +kernel
theorem d5 : decode yB 5 = .ok (.iload_n 1, 1) := by decide +kernel
theorem d6 : decode yB 6 = .ok (.aload_n 3, 1) := by decide +kernel
theorem d7 : decode yB 7 = .ok (.iconst 0, 1) := by decide +kernel
theorem d8 : decode yB 8 = .ok (.iload_n 2, 1) := by decide +kernel
theorem d9 : decode yB 9 = .ok (.invokestatic 115, 3) := by decide +kernel
theorem d12 : decode yB 12 = .ok (.istore 4, 2) := by decide +kernel
theorem d14 : decode yB 14 = .ok (.iload 4, 2) := by decide +kernel
theorem d16 : decode yB 16 = .ok (.iload_n 2, 1) := by decide +kernel
theorem d17 : decode yB 17 = .ok (.if_icmp (.eq) 40, 3) := by decide +kernel
theorem d57 : decode yB 57 = .ok (.aload_n 3, 1) := by decide +kernel
theorem d58 : decode yB 58 = .ok (.areturn, 1) := by decide +kernel
def site : List Cond := [.arrayClass .byte, Cmp5.tab] ++ staticW U16 115 Cmp5.yN
def tab : Cond := tabOf yN yB 6 (some (.array .byte)) site
def P (b : Addr) (A : Cell) (o len : Nat) (args : Array Value) (s : State) : Prop := args = #[.ref b, .int (Int32.ofNat o), .int (Int32.ofNat len)] ∧ Ch b A s ∧ o + len ≤ A.slots.size ∧ len ≤ 536870912 ∧ ∀ i, i < len → ¬ 255 < cv A (o + i)
def E (b : Addr) (A : Cell) (o len : Nat) (r : Option Value) (s u : State) : Prop := NewArr .byte "[B" len (fun j => .int (lo8 (cv A (o + j)))) r s u ∧ u.heap.size = s.heap.size + 1
/-- no char of the range above 255: a new byte[] of their low bytes -/
theorem law (l : Launch) (b : Addr) (A : Cell) (o len : Nat) : Law l yN 3 3 1 18 yB 6 (some (.array .byte)) site (P b A o len) (E b A o len) [] 1 len := by
  refine Law.of_walk (plainFor_of_name (by decide +kernel)) (by decide +kernel) (by decide +kernel) (by decide) (fun _ _ h => by rw [h.1]; rfl) (fun _ U U' hal hh h => ⟨h.1, h.2.1.mv hal hh, h.2.2⟩) (fun r U U' V V' h1 hal h2 h => ⟨NewArr.mv r U U' V V' h1 hal h2 h.1, by rw [h1, h2]; exact h.2⟩) ?_
  intro p e s m args below meth c s₁ X0 hexec hbytes hml hret hlk hnm hown hh0 W hP
  obtain ⟨rfl, hA, l1, l2, hp⟩ := hP
  have a31 := hA.1.2.2.2
  have c1 : Steps p.tables e below (s₁.setTop (entryFrame m #[.ref b, .int (Int32.ofNat o), .int (Int32.ofNat len)] 6)) (s₁.setTop (mkF m 0 #[.val (.ref b), .val (.int (Int32.ofNat o)), .val (.int (Int32.ofNat len)), .unset, .unset, .unset] [])) := entry rfl
  have c2 : Steps p.tables e below (s₁.setTop (entryFrame m #[.ref b, .int (Int32.ofNat o), .int (Int32.ofNat len)] 6)) (s₁.setTop (mkF m 1 #[.val (.ref b), .val (.int (Int32.ofNat o)), .val (.int (Int32.ofNat len)), .unset, .unset, .unset] [.int (Int32.ofNat len)])) := c1.trans (by
    refine XS.iloadN X0.here hexec rfl (hb hbytes d0) rfl ?_
    exact Steps.refl _)
  obtain ⟨T3, B3, X3, ba3, bs3, bv3, bh3, bf3, st3⟩ := X0.anew hexec (atype := .byte) (wk W (.arrayClass .byte)) rfl (by show len * 1 ≤ _; omega) (by omega) (g := (mkF m 1 #[.val (.ref b), .val (.int (Int32.ofNat o)), .val (.int (Int32.ofNat len)), .unset, .unset, .unset] [.int (Int32.ofNat len)])) rfl (hb hbytes d1) (rest := []) rfl (Nat.le_refl _) (by show 0 + len ≤ len; omega)
  rw [hh0] at ba3 st3
  have kp3 : XT.Kept s T3 := (XT.Kept.of_eq hh0).push bh3
  have hA3 := hA.keep X3.warmed.alike (kp3 _ _ hA.1.1)
  have hne : b ≠ s.heap.size := hA.1.ne
  have c4 : Steps p.tables e below (s₁.setTop (entryFrame m #[.ref b, .int (Int32.ofNat o), .int (Int32.ofNat len)] 6)) (T3.setTop (mkF m 3 #[.val (.ref b), .val (.int (Int32.ofNat o)), .val (.int (Int32.ofNat len)), .unset, .unset, .unset] [.ref s.heap.size])) := c2.trans (st3 _ (Steps.refl _))
  have c5 : Steps p.tables e below (s₁.setTop (entryFrame m #[.ref b, .int (Int32.ofNat o), .int (Int32.ofNat len)] 6)) (T3.setTop (mkF m 9 #[.val (.ref b), .val (.int (Int32.ofNat o)), .val (.int (Int32.ofNat len)), .val (.ref s.heap.size), .unset, .unset] [.int (Int32.ofNat len), .int 0, .ref s.heap.size, .int (Int32.ofNat o), .ref b])) := c4.trans (by
    refine XS.astoreN X3.here hexec rfl (hb hbytes d3) rfl rfl rfl ?_
    refine XS.aloadN X3.here hexec rfl (hb hbytes d4) rfl rfl ?_
    refine XS.iloadN X3.here hexec rfl (hb hbytes d5) rfl ?_
    refine XS.aloadN X3.here hexec rfl (hb hbytes d6) rfl rfl ?_
    refine iconstV X3.here hexec rfl 0 (hb hbytes d7) (by decide) ?_
    refine XS.iloadN X3.here hexec rfl (hb hbytes d8) rfl ?_
    exact Steps.refl _)
  obtain ⟨v6, T6, X6, E6, g6⟩ := X3.callS hexec (Cmp5.law l b A s.heap.size B3 o 0 len) hown (wks W (staticW U16 115 Cmp5.yN)) (wk W Cmp5.tab) (W := 0) (Nat.le_of_ble_eq_true rfl) (Nat.le_of_ble_eq_true rfl) (Nat.le_refl _) (by show 0 + len + 0 ≤ len; omega) (g := (mkF m 9 #[.val (.ref b), .val (.int (Int32.ofNat o)), .val (.int (Int32.ofNat len)), .val (.ref s.heap.size), .unset, .unset] [.int (Int32.ofNat len), .int (Int32.ofNat 0), .ref s.heap.size, .int (Int32.ofNat o), .ref b])) rfl (by rw [hml]; rfl) c5 (argsL := [.ref b, .int (Int32.ofNat o), .ref s.heap.size, .int (Int32.ofNat 0), .int (Int32.ofNat len)]) (rest := []) rfl rfl (by show 2 * 0 + 0 ≤ _; decide) (hb hbytes d9) (⟨rfl, hA3, ba3, hne, l1, by rw [bs3]; simp, hp⟩)
  obtain ⟨rfl, B6, p6, f6⟩ := E6
  have c7 : Steps p.tables e below (s₁.setTop (entryFrame m #[.ref b, .int (Int32.ofNat o), .int (Int32.ofNat len)] 6)) (T6.setTop (mkF m 12 #[.val (.ref b), .val (.int (Int32.ofNat o)), .val (.int (Int32.ofNat len)), .val (.ref s.heap.size), .unset, .unset] [.int (Int32.ofNat len)])) := g6
  have c8 : Steps p.tables e below (s₁.setTop (entryFrame m #[.ref b, .int (Int32.ofNat o), .int (Int32.ofNat len)] 6)) (T6.setTop (mkF m 58 #[.val (.ref b), .val (.int (Int32.ofNat o)), .val (.int (Int32.ofNat len)), .val (.ref s.heap.size), .val (.int (Int32.ofNat len)), .unset] [.ref s.heap.size])) := c7.trans (by
    refine XS.istore X6.here hexec rfl (hb hbytes d12) rfl rfl ?_
    refine XS.iload X6.here hexec rfl (hb hbytes d14) rfl ?_
    refine XS.iloadN X6.here hexec rfl (hb hbytes d16) rfl ?_
    refine XS.icmpYes X6.here hexec rfl (pc0 := 17) rfl (hb hbytes d17) rfl (ii_eq_t rfl) (by decide) rfl ?_
    refine XS.aloadN X6.here hexec rfl (hb hbytes d57) rfl rfl ?_
    exact Steps.refl _)
  have X8 := X6.wide (L' := []) (cells' := 1) (slots' := len) (fun x hx hlt => by
    simp only [List.nil_append, copyLocs, List.mem_map, List.mem_range] at hx
    obtain ⟨i, -, rfl⟩ := hx
    exact absurd hlt (Nat.lt_irrefl _)) (Nat.le_refl _) (by omega)
  exact ⟨T6, some (.ref s.heap.size), _, _, _, X8, rfl, rfl, rfl, (fun h => by cases h), ⟨⟨rfl, B6, ba3.like (X3.warmed.alike.symm.trans X6.warmed.alike) p6.1 f6.1 f6.2.1 f6.2.2.1, f6.2.1.trans bv3, by rw [X6.warmed.alike.findClass, f6.1]; exact bf3, by rw [f6.2.2.1, bs3]; simp, fun j hj => by rw [f6.2.2.2 j, if_pos (by omega)]; rfl, kp3.put p6 (Nat.le_refl _)⟩, by rw [p6.2.2, bh3, hh0]; simp⟩, fun fs hl => c8.trans (X8.areturnOut hexec rfl hret rfl (hb hbytes d58) hl)⟩
end Cmp3
namespace CodL
def yN : MethodName := ⟨"java/lang/StringUTF16", "coderFromArrayLen", "([BI)B"⟩
abbrev yB : ByteArray := jdk_52_method_15_code
theorem d0 : decode yB 0 = .ok (.iload_n 1, 1) := by decide +kernel
theorem d1 : decode yB 1 = .ok (.aload_n 0, 1) := by decide +kernel
theorem d2 : decode yB 2 = .ok (.arraylength, 1) := by decide +kernel
theorem d3 : decode yB 3 = .ok (.isub, 1) := by decide +kernel
theorem d4 : decode yB 4 = .ok (.bipush 31, 2) := by decide +kernel
theorem d6 : decode yB 6 = .ok (.iushr, 1) := by decide +kernel
theorem d7 : decode yB 7 = .ok (.i2b, 1) := by decide +kernel
theorem d8 : decode yB 8 = .ok (.ireturn, 1) := by decide +kernel
def site : List Cond := []
def tab : Cond := tabOf yN yB 2 (some .byte) site
def P (d : Addr) (B : Cell) (args : Array Value) (s : State) : Prop := args = #[.ref d, .int (Int32.ofNat B.slots.size)] ∧ Arr .byte d B s
def E (r : Option Value) (s u : State) : Prop := XT.PureE (some (.int 0)) r s u
/-- an array as long as the number of chars: LATIN1 -/
theorem law (l : Launch) (d : Addr) (B : Cell) : Law l yN 2 2 0 0 yB 2 (some .byte) site (P d B) E [] 0 0 := by
  refine Law.of_walk (plainFor_of_name (by decide +kernel)) (by decide +kernel) (by decide +kernel) (by decide) (fun _ _ h => by rw [h.1]; rfl) (fun _ U U' hal hh h => ⟨h.1, h.2.mv hal hh⟩) (fun r U U' V V' h1 hal h2 h => XT.PureE.mv r U U' V V' h1 hal h2 h) ?_
  intro p e s m args below meth c s₁ X0 hexec hbytes hml hret hlk hnm hown hh0 W hP
  obtain ⟨rfl, hB⟩ := hP
  have hB0 := hB.mv X0.warmed.alike hh0
  have c1 : Steps p.tables e below (s₁.setTop (entryFrame m #[.ref d, .int (Int32.ofNat B.slots.size)] 2)) (s₁.setTop (mkF m 0 #[.val (.ref d), .val (.int (Int32.ofNat B.slots.size))] [])) := entry rfl
  have c2 : Steps p.tables e below (s₁.setTop (entryFrame m #[.ref d, .int (Int32.ofNat B.slots.size)] 2)) (s₁.setTop (mkF m 2 #[.val (.ref d), .val (.int (Int32.ofNat B.slots.size))] [.ref d, .int (Int32.ofNat B.slots.size)])) := c1.trans (by
    refine XS.iloadN X0.here hexec rfl (hb hbytes d0) rfl ?_
    refine XS.aloadN X0.here hexec rfl (hb hbytes d1) rfl rfl ?_
    exact Steps.refl _)
  have c3 : Steps p.tables e below (s₁.setTop (entryFrame m #[.ref d, .int (Int32.ofNat B.slots.size)] 2)) (s₁.setTop (mkF m 8 #[.val (.ref d), .val (.int (Int32.ofNat B.slots.size))] [.int (lo8 (ushr (Int32.ofNat B.slots.size - Int32.ofNat B.slots.size) 31))])) := c2.trans (by
    refine X0.alen hexec hB0 rfl rfl (hb hbytes d2) ?_
    refine XS.isub X0.here hexec rfl (hb hbytes d3) rfl ?_
    refine bipushV X0.here hexec rfl 31 (hb hbytes d4) (by decide) ?_
    refine iushr X0.here hexec rfl (hb hbytes d6) rfl ?_
    refine i2b X0.here hexec rfl (hb hbytes d7) rfl ?_
    exact Steps.refl _)
  have e0 : lo8 (ushr (Int32.ofNat B.slots.size - Int32.ofNat B.slots.size) 31) = 0 := by rw [Int32.sub_self]; decide
  rw [e0] at c3
  exact ⟨s₁, some (.int 0), _, _, _, X0, rfl, rfl, rfl, (fun h => by cases h), ⟨rfl, hh0⟩, fun fs hl => c3.trans (X0.ireturnOut hexec hret rfl (Or.inr (Or.inr (Or.inl rfl))) (hb hbytes d8) hl)⟩
end CodL
/-- the String at a is Latin-1 over a new byte[] (the heap's one new cell): the low bytes of the len chars of A from o on; every cell but a is kept -/
def Got (a : Addr) (D : Cell) (fV fC : Field) (A : Cell) (o len : Nat) (r : Option Value) (s u : State) : Prop := r = none ∧ ∃ D' V : Cell, Blank "java/lang/String" a D' u ∧ Same D D' [fV.slot, fC.slot] ∧ D'.slots[fV.slot]? = some (.ref s.heap.size) ∧ D'.slots[fC.slot]? = some (.int 0) ∧ Arr .byte s.heap.size V u ∧ V.vm = .none ∧ u.vm.findClass "[B" = some V.cls ∧ V.slots.size = len ∧ (∀ j, j < len → V.slots[j]? = some (.int (lo8 (cv A (o + j))))) ∧ (∀ (y : Addr) (c : Cell), y ≠ a → s.heap[y]? = some c → u.heap[y]? = some c) ∧ u.heap.size = s.heap.size + 1
theorem Got.mv {a : Addr} {D A : Cell} {fV fC : Field} {o len : Nat} : ∀ r (U U' V V' : State), U'.heap = U.heap → V.vm.Alike V'.vm → V'.heap = V.heap → Got a D fV fC A o len r U V → Got a D fV fC A o len r U' V' :=
  fun r U U' V V' h1 hal h2 ⟨e0, D', X, a1, a2, a3, a4, a5, a6, a7, a8, a9, a10, a11⟩ => ⟨e0, D', X, a1.mv hal h2, a2, by rw [h1]; exact a3, a4, by rw [h1]; exact a5.mv hal h2, a6, by rw [hal.findClass]; exact a7, a8, a9, by rw [h1, h2]; exact a10, by rw [h1, h2]; exact a11⟩
namespace New4
def yN : MethodName := ⟨"java/lang/String", "<init>", "([CIILjava/lang/Void;)V"⟩
abbrev yB : ByteArray := jdk_42_method_149_code
theorem d0 : decode yB 0 = .ok (.aload_n 0, 1) := by decide +kernel
theorem d1 : decode yB 1 = .ok (.invokespecial 1, 3) := by decide +kernel
theorem d4 : decode yB 4 = .ok (.iload_n 3, 1) := by decide +kernel
theorem d5 : decode yB 5 = .ok (.ifCond (.ne) 22, 3) := by decide +kernel
theorem d27 : decode yB 27 = .ok (.getstatic 38, 3) := by decide +kernel
theorem d30 : decode yB 30 = .ok (.ifCond (.eq) 28, 3) := by decide +kernel
theorem d33 : decode yB 33 = .ok (.aload_n 1, 1) := by decide +kernel
theorem d34 : decode yB 34 = .ok (.iload_n 2, 1) := by decide +kernel
theorem d35 : decode yB 35 = .ok (.iload_n 3, 1) := by decide +kernel
theorem d36 : decode yB 36 = .ok (.invokestatic 177, 3) := by decide +kernel
theorem d39 : decode yB 39 = .ok (.astore 5, 2) := by decide +kernel
theorem d41 : decode yB 41 = .ok (.aload_n 0, 1) := by decide +kernel
theorem d42 : decode yB 42 = .ok (.aload 5, 2) := by decide +kernel
theorem d44 : decode yB 44 = .ok (.iload_n 3, 1) := by decide +kernel
theorem d45 : decode yB 45 = .ok (.invokestatic 47, 3) := by decide +kernel
theorem d48 : decode yB 48 = .ok (.putfield 15, 3) := by decide +kernel
theorem d51 : decode yB 51 = .ok (.aload_n 0, 1) := by decide +kernel
theorem d52 : decode yB 52 = .ok (.aload 5, 2) := by decide +kernel
theorem d54 : decode yB 54 = .ok (.putfield 9, 3) := by decide +kernel
theorem d57 : decode yB 57 = .ok (.return_, 1) := by decide +kernel
def site : List Cond := [.fieldLink "java/lang/String" 38 "java/lang/String" "COMPACT_STRINGS" "Z", Cmp3.tab, CodL.tab, .laysFinal "java/lang/String" "java/lang/String" "value" "[B", .fieldLink "java/lang/String" 9 "java/lang/String" "value" "[B", .laysFinal "java/lang/String" "java/lang/String" "coder" "B", .fieldLink "java/lang/String" 15 "java/lang/String" "coder" "B"] ++ objW "java/lang/String" 1 ++ staticW "java/lang/String" 177 Cmp3.yN ++ staticW "java/lang/String" 47 CodL.yN
def tab : Cond := tabOf yN yB 6 none site
def P (a : Addr) (D : Cell) (fV fC : Field) (b : Addr) (A : Cell) (z : Int32) (o len : Nat) (args : Array Value) (s : State) : Prop := args = #[.ref a, .ref b, .int (Int32.ofNat o), .int (Int32.ofNat len), .null] ∧ Blank "java/lang/String" a D s ∧ Found "java/lang/String" "value" "[B" fV s ∧ Found "java/lang/String" "coder" "B" fC s ∧ Ch b A s ∧ StaticIs s "java/lang/String" "COMPACT_STRINGS" "Z" (.int z) ∧ ¬ z = 0 ∧ 0 < len ∧ o + len ≤ A.slots.size ∧ len ≤ 536870912 ∧ ∀ i, i < len → ¬ 255 < cv A (o + i)
def E (a : Addr) (D : Cell) (fV fC : Field) (A : Cell) (o len : Nat) (r : Option Value) (s u : State) : Prop := Got a D fV fC A o len r s u
/-- len > 0, no char of the range above 255: a Latin-1 String of their low bytes -/
theorem law (l : Launch) (a : Addr) (D : Cell) (fV fC : Field) (b : Addr) (A : Cell) (z : Int32) (o len : Nat) : Law l yN 5 4 2 35 yB 6 none site (P a D fV fC b A z o len) (E a D fV fC A o len) [⟨a, fC.slot⟩, ⟨a, fV.slot⟩] 1 len := by
  refine Law.of_walk (plainFor_of_name (by decide +kernel)) (by decide +kernel) (by decide +kernel) (by decide) (fun _ _ h => by rw [h.1]; rfl) (fun _ U U' hal hh h => ⟨h.1, h.2.1.mv hal hh, h.2.2.1.al hal, h.2.2.2.1.al hal, h.2.2.2.2.1.mv hal hh, h.2.2.2.2.2.1.there hal hh, h.2.2.2.2.2.2⟩) (fun r U U' V V' h1 hal h2 h => Got.mv r U U' V V' h1 hal h2 h) ?_
  intro p e s m args below meth c s₁ X0 hexec hbytes hml hret hlk hnm hown hh0 W hP
  obtain ⟨rfl, hB, f1, f2, hA, s1, hz, l0, l1, l2, hp⟩ := hP
  have a31 := hA.1.2.2.2
  have c1 : Steps p.tables e below (s₁.setTop (entryFrame m #[.ref a, .ref b, .int (Int32.ofNat o), .int (Int32.ofNat len), .null] 6)) (s₁.setTop (mkF m 0 #[.val (.ref a), .val (.ref b), .val (.int (Int32.ofNat o)), .val (.int (Int32.ofNat len)), .val .null, .unset] [])) := entry rfl
  have c2 : Steps p.tables e below (s₁.setTop (entryFrame m #[.ref a, .ref b, .int (Int32.ofNat o), .int (Int32.ofNat len), .null] 6)) (s₁.setTop (mkF m 1 #[.val (.ref a), .val (.ref b), .val (.int (Int32.ofNat o)), .val (.int (Int32.ofNat len)), .val .null, .unset] [.ref a])) := c1.trans (by
    refine XS.aloadN X0.here hexec rfl (hb hbytes d0) rfl rfl ?_
    exact Steps.refl _)
  obtain ⟨T3, X3, q3, st3⟩ := X0.oinit hexec hown (wks W (objW "java/lang/String" 1)) (g := (mkF m 1 #[.val (.ref a), .val (.ref b), .val (.int (Int32.ofNat o)), .val (.int (Int32.ofNat len)), .val .null, .unset] [.ref a])) rfl (by rw [hml]; rfl) (rest := []) rfl (hb hbytes d1) (W := 0) (by show 2 * 0 + 0 ≤ _; decide) (Nat.le_of_ble_eq_true rfl) (Nat.le_of_ble_eq_true rfl)
  have hh3 := q3.trans hh0
  have c4 : Steps p.tables e below (s₁.setTop (entryFrame m #[.ref a, .ref b, .int (Int32.ofNat o), .int (Int32.ofNat len), .null] 6)) (T3.setTop (mkF m 27 #[.val (.ref a), .val (.ref b), .val (.int (Int32.ofNat o)), .val (.int (Int32.ofNat len)), .val .null, .unset] [])) := (c2.trans (st3 _ (Steps.refl _))).trans (by
    refine XS.iloadN X3.here hexec rfl (hb hbytes d4) rfl ?_
    refine XS.ifYes X3.here hexec rfl (pc0 := 5) rfl (hb hbytes d5) rfl (i0_ne_t (nz32 (by omega) l0)) (by decide) rfl ?_
    exact Steps.refl _)
  obtain ⟨T5, X5, q5, st5⟩ := X3.sget hexec hown (wk W (.fieldLink "java/lang/String" 38 "java/lang/String" "COMPACT_STRINGS" "Z")) s1 (fun _ _ h => by rw [hh3]; exact h) (g := (mkF m 27 #[.val (.ref a), .val (.ref b), .val (.int (Int32.ofNat o)), .val (.int (Int32.ofNat len)), .val .null, .unset] [])) rfl (hb hbytes d27)
  have hh5 := q5.trans hh3
  have c6 : Steps p.tables e below (s₁.setTop (entryFrame m #[.ref a, .ref b, .int (Int32.ofNat o), .int (Int32.ofNat len), .null] 6)) (T5.setTop (mkF m 30 #[.val (.ref a), .val (.ref b), .val (.int (Int32.ofNat o)), .val (.int (Int32.ofNat len)), .val .null, .unset] [.int z])) := c4.trans (st5 _ (Steps.refl _))
  have c7 : Steps p.tables e below (s₁.setTop (entryFrame m #[.ref a, .ref b, .int (Int32.ofNat o), .int (Int32.ofNat len), .null] 6)) (T5.setTop (mkF m 36 #[.val (.ref a), .val (.ref b), .val (.int (Int32.ofNat o)), .val (.int (Int32.ofNat len)), .val .null, .unset] [.int (Int32.ofNat len), .int (Int32.ofNat o), .ref b])) := c6.trans (by
    refine XS.ifNo X5.here hexec rfl (hb hbytes d30) rfl (i0_eq_f hz) ?_
    refine XS.aloadN X5.here hexec rfl (hb hbytes d33) rfl rfl ?_
    refine XS.iloadN X5.here hexec rfl (hb hbytes d34) rfl ?_
    refine XS.iloadN X5.here hexec rfl (hb hbytes d35) rfl ?_
    exact Steps.refl _)
  obtain ⟨v8, T8, X8, E8, g8⟩ := X5.callS hexec (Cmp3.law l b A o len) hown (wks W (staticW "java/lang/String" 177 Cmp3.yN)) (wk W Cmp3.tab) (W := 0) (Nat.le_of_ble_eq_true rfl) (Nat.le_of_ble_eq_true rfl) (Nat.le_refl _) (by show 0 + len ≤ len; omega) (g := (mkF m 36 #[.val (.ref a), .val (.ref b), .val (.int (Int32.ofNat o)), .val (.int (Int32.ofNat len)), .val .null, .unset] [.int (Int32.ofNat len), .int (Int32.ofNat o), .ref b])) rfl (by rw [hml]; rfl) c7 (argsL := [.ref b, .int (Int32.ofNat o), .int (Int32.ofNat len)]) (rest := []) rfl rfl (by show 2 * 0 + 0 ≤ _; decide) (hb hbytes d36) (⟨rfl, hA.mv X5.warmed.alike hh5, l1, l2, hp⟩)
  obtain ⟨e8, z8⟩ := E8
  obtain ⟨rfl, N, n1, n2, n3, n4, n5, n6⟩ := NewArr.mv _ T5 s _ _ hh5.symm (Vm.Alike.refl _) rfl e8
  rw [hh5] at z8
  have hB1 := hB.keep X8.warmed.alike (n6 _ _ hB.1)
  have hne : s.heap.size ≠ a := (Nat.ne_of_lt (Array.getElem?_eq_some_iff.mp hB.1).1).symm
  have c9 : Steps p.tables e below (s₁.setTop (entryFrame m #[.ref a, .ref b, .int (Int32.ofNat o), .int (Int32.ofNat len), .null] 6)) (T8.setTop (mkF m 39 #[.val (.ref a), .val (.ref b), .val (.int (Int32.ofNat o)), .val (.int (Int32.ofNat len)), .val .null, .unset] [.ref s.heap.size])) := g8
  have c10 : Steps p.tables e below (s₁.setTop (entryFrame m #[.ref a, .ref b, .int (Int32.ofNat o), .int (Int32.ofNat len), .null] 6)) (T8.setTop (mkF m 45 #[.val (.ref a), .val (.ref b), .val (.int (Int32.ofNat o)), .val (.int (Int32.ofNat len)), .val .null, .val (.ref s.heap.size)] [.int (Int32.ofNat N.slots.size), .ref s.heap.size, .ref a])) := by
    have hc : Steps p.tables e below (s₁.setTop (entryFrame m #[.ref a, .ref b, .int (Int32.ofNat o), .int (Int32.ofNat len), .null] 6)) (T8.setTop (mkF m 45 #[.val (.ref a), .val (.ref b), .val (.int (Int32.ofNat o)), .val (.int (Int32.ofNat len)), .val .null, .val (.ref s.heap.size)] [.int (Int32.ofNat len), .ref s.heap.size, .ref a])) := c9.trans (by
      refine XS.astore X8.here hexec rfl (hb hbytes d39) rfl rfl rfl ?_
      refine XS.aloadN X8.here hexec rfl (hb hbytes d41) rfl rfl ?_
      refine XS.aload X8.here hexec rfl (hb hbytes d42) rfl rfl ?_
      refine XS.iloadN X8.here hexec rfl (hb hbytes d44) rfl ?_
      exact Steps.refl _)
    rw [n4]; exact hc
  obtain ⟨v11, T11, X11, E11, g11⟩ := X8.callS hexec (CodL.law l s.heap.size N) hown (wks W (staticW "java/lang/String" 47 CodL.yN)) (wk W CodL.tab) (W := 1) (Nat.le_of_ble_eq_true rfl) (Nat.le_of_ble_eq_true rfl) (Nat.le_refl _) (by show 0 + len + 0 ≤ len; omega) (g := (mkF m 45 #[.val (.ref a), .val (.ref b), .val (.int (Int32.ofNat o)), .val (.int (Int32.ofNat len)), .val .null, .val (.ref s.heap.size)] [.int (Int32.ofNat N.slots.size), .ref s.heap.size, .ref a])) rfl (by rw [hml]; rfl) c10 (argsL := [.ref s.heap.size, .int (Int32.ofNat N.slots.size)]) (rest := [.ref a]) rfl rfl (by show 2 * 0 + (1 + 0) ≤ _; decide) (hb hbytes d45) (⟨rfl, n1⟩)
  obtain ⟨rfl, q11⟩ := E11
  have hB11 := hB1.mv (X8.warmed.alike.symm.trans X11.warmed.alike) q11
  have c12 : Steps p.tables e below (s₁.setTop (entryFrame m #[.ref a, .ref b, .int (Int32.ofNat o), .int (Int32.ofNat len), .null] 6)) (T11.setTop (mkF m 48 #[.val (.ref a), .val (.ref b), .val (.int (Int32.ofNat o)), .val (.int (Int32.ofNat len)), .val .null, .val (.ref s.heap.size)] [.int 0, .ref a])) := g11
  obtain ⟨T13, X13, p13, bl13, sl13, st13⟩ := X11.finit hexec hown (wk W (.fieldLink "java/lang/String" 15 "java/lang/String" "coder" "B")) (Or.inr ⟨_, (wk W (.laysFinal "java/lang/String" "java/lang/String" "coder" "B"))⟩) (Or.inl ⟨rfl, hnm⟩) f2 (Or.inl rfl) hB11 (t := .byte) (by decide +kernel) rfl (g := (mkF m 48 #[.val (.ref a), .val (.ref b), .val (.int (Int32.ofNat o)), .val (.int (Int32.ofNat len)), .val .null, .val (.ref s.heap.size)] [.int 0, .ref a])) rfl (rest := []) rfl (hb hbytes d48)
  have c14 : Steps p.tables e below (s₁.setTop (entryFrame m #[.ref a, .ref b, .int (Int32.ofNat o), .int (Int32.ofNat len), .null] 6)) (T13.setTop (mkF m 54 #[.val (.ref a), .val (.ref b), .val (.int (Int32.ofNat o)), .val (.int (Int32.ofNat len)), .val .null, .val (.ref s.heap.size)] [.ref s.heap.size, .ref a])) := (c12.trans (st13 _ (Steps.refl _))).trans (by
    refine XS.aloadN X13.here hexec rfl (hb hbytes d51) rfl rfl ?_
    refine XS.aload X13.here hexec rfl (hb hbytes d52) rfl rfl ?_
    exact Steps.refl _)
  obtain ⟨T15, X15, p15, bl15, sl15, st15⟩ := X13.finit hexec hown (wk W (.fieldLink "java/lang/String" 9 "java/lang/String" "value" "[B")) (Or.inr ⟨_, (wk W (.laysFinal "java/lang/String" "java/lang/String" "value" "[B"))⟩) (Or.inl ⟨rfl, hnm⟩) f1 (Or.inl rfl) bl13 (t := (.array .byte)) (by decide +kernel) rfl (g := (mkF m 54 #[.val (.ref a), .val (.ref b), .val (.int (Int32.ofNat o)), .val (.int (Int32.ofNat len)), .val .null, .val (.ref s.heap.size)] [.ref s.heap.size, .ref a])) rfl (rest := []) rfl (hb hbytes d54)
  have c16 : Steps p.tables e below (s₁.setTop (entryFrame m #[.ref a, .ref b, .int (Int32.ofNat o), .int (Int32.ofNat len), .null] 6)) (T15.setTop (mkF m 57 #[.val (.ref a), .val (.ref b), .val (.int (Int32.ofNat o)), .val (.int (Int32.ofNat len)), .val .null, .val (.ref s.heap.size)] [])) := c14.trans (st15 _ (Steps.refl _))
  have ap := apart (Or.inr ⟨_, (wk W (.laysFinal "java/lang/String" "java/lang/String" "value" "[B"))⟩) (Or.inr ⟨_, (wk W (.laysFinal "java/lang/String" "java/lang/String" "coder" "B"))⟩) f1 f2 (t₁ := .array .byte) (t₂ := .byte) (by decide +kernel) (by decide +kernel) (by decide)
  have al := X8.warmed.alike.symm.trans X15.warmed.alike
  have n7 : T11.heap[s.heap.size]? = some N := by rw [q11]; exact n1.1
  exact ⟨T15, none, _, _, _, X15, by simp, rfl, by omega, (fun _ => rfl), ⟨rfl, _, N, bl15, ((Same.refl D _).set _ (by simp)).set _ (by simp), sl15, (Cell.slots_setSlot_ne _ ap).trans sl13, n1.keep al (p15.other hne (p13.other hne n7)), n2, by rw [al.findClass]; exact n3, n4, n5, fun y c h1 h2 => p15.other h1 (p13.other h1 (by rw [q11]; exact n6 y c h2)), by rw [p15.2.2, p13.2.2, q11]; exact z8⟩, fun fs hl => c16.trans (X15.returnOut hexec hret (hb hbytes d57) hl)⟩
end New4
namespace New1
def yN : MethodName := ⟨"java/lang/String", "<init>", "([C)V"⟩
abbrev yB : ByteArray := jdk_42_method_3_code
theorem d0 : decode yB 0 = .ok (.aload_n 0, 1) := by decide +kernel
theorem d1 : decode yB 1 = .ok (.aload_n 1, 1) := by decide +kernel
theorem d2 : decode yB 2 = .ok (.iconst 0, 1) := by decide +kernel
theorem d3 : decode yB 3 = .ok (.aload_n 1, 1) := by decide +kernel
theorem d4 : decode yB 4 = .ok (.arraylength, 1) := by decide +kernel
theorem d5 : decode yB 5 = .ok (.aconst_null, 1) := by decide +kernel
theorem d6 : decode yB 6 = .ok (.invokespecial 27, 3) := by decide +kernel
theorem d9 : decode yB 9 = .ok (.return_, 1) := by decide +kernel
def site : List Cond := [New4.tab] ++ initW "java/lang/String" 27 New4.yN
def tab : Cond := tabOf yN yB 2 none site
def P (a : Addr) (D : Cell) (fV fC : Field) (b : Addr) (A : Cell) (z : Int32) (args : Array Value) (s : State) : Prop := args = #[.ref a, .ref b] ∧ Blank "java/lang/String" a D s ∧ Found "java/lang/String" "value" "[B" fV s ∧ Found "java/lang/String" "coder" "B" fC s ∧ Ch b A s ∧ StaticIs s "java/lang/String" "COMPACT_STRINGS" "Z" (.int z) ∧ ¬ z = 0 ∧ 0 < A.slots.size ∧ A.slots.size ≤ 536870912 ∧ ∀ i, i < A.slots.size → ¬ 255 < cv A i
def E (a : Addr) (D : Cell) (fV fC : Field) (A : Cell) (r : Option Value) (s u : State) : Prop := Got a D fV fC A 0 A.slots.size r s u
/-- new String(chars), not empty, no char above 255: a Latin-1 String of their low bytes -/
theorem law (l : Launch) (a : Addr) (D : Cell) (fV fC : Field) (b : Addr) (A : Cell) (z : Int32) : Law l yN 2 1 3 52 yB 2 none site (P a D fV fC b A z) (E a D fV fC A) [⟨a, fC.slot⟩, ⟨a, fV.slot⟩] 1 A.slots.size := by
  refine Law.of_walk (plainFor_of_name (by decide +kernel)) (by decide +kernel) (by decide +kernel) (by decide) (fun _ _ h => by rw [h.1]; rfl) (fun _ U U' hal hh h => ⟨h.1, h.2.1.mv hal hh, h.2.2.1.al hal, h.2.2.2.1.al hal, h.2.2.2.2.1.mv hal hh, h.2.2.2.2.2.1.there hal hh, h.2.2.2.2.2.2⟩) (fun r U U' V V' h1 hal h2 h => Got.mv r U U' V V' h1 hal h2 h) ?_
  intro p e s m args below meth c s₁ X0 hexec hbytes hml hret hlk hnm hown hh0 W hP
  obtain ⟨rfl, hB, f1, f2, hA, s1, hz, l0, l2, hp⟩ := hP
  have c1 : Steps p.tables e below (s₁.setTop (entryFrame m #[.ref a, .ref b] 2)) (s₁.setTop (mkF m 0 #[.val (.ref a), .val (.ref b)] [])) := entry rfl
  have c2 : Steps p.tables e below (s₁.setTop (entryFrame m #[.ref a, .ref b] 2)) (s₁.setTop (mkF m 6 #[.val (.ref a), .val (.ref b)] [.null, .int (Int32.ofNat A.slots.size), .int 0, .ref b, .ref a])) := c1.trans (by
    refine XS.aloadN X0.here hexec rfl (hb hbytes d0) rfl rfl ?_
    refine XS.aloadN X0.here hexec rfl (hb hbytes d1) rfl rfl ?_
    refine iconstV X0.here hexec rfl 0 (hb hbytes d2) (by decide) ?_
    refine XS.aloadN X0.here hexec rfl (hb hbytes d3) rfl rfl ?_
    refine X0.alen hexec (hA.1.mv X0.warmed.alike hh0) rfl rfl (hb hbytes d4) ?_
    refine XS.aconstNull X0.here hexec rfl (hb hbytes d5) ?_
    exact Steps.refl _)
  obtain ⟨v3, T3, X3, E3, g3⟩ := X0.callN hexec (New4.law l a D fV fC b A z 0 A.slots.size) rfl hown (wks W (initW "java/lang/String" 27 New4.yN)) (W New4.tab (by simp only [site, List.mem_cons, List.mem_append, true_or, or_true])) (W := 0) (Nat.le_of_ble_eq_true rfl) (Nat.le_of_ble_eq_true rfl) (Nat.le_refl _) (by show 0 + A.slots.size ≤ A.slots.size; omega) (g := (mkF m 6 #[.val (.ref a), .val (.ref b)] [.null, .int (Int32.ofNat A.slots.size), .int (Int32.ofNat 0), .ref b, .ref a])) rfl (by rw [hml]; rfl) c2 (argsL := [.ref b, .int (Int32.ofNat 0), .int (Int32.ofNat A.slots.size), .null]) (rest := []) rfl rfl (by show 2 * 0 + 0 ≤ _; decide) (hb hbytes d6) (⟨rfl, hB.mv X0.warmed.alike hh0, f1.al X0.warmed.alike, f2.al X0.warmed.alike, hA.mv X0.warmed.alike hh0, s1.there X0.warmed.alike hh0, hz, l0, by omega, l2, fun i hi => by rw [Nat.zero_add]; exact hp i hi⟩)
  have e0 := Got.mv _ s₁ s _ _ hh0.symm (Vm.Alike.refl _) rfl E3
  obtain rfl := e0.1
  have c4 : Steps p.tables e below (s₁.setTop (entryFrame m #[.ref a, .ref b] 2)) (T3.setTop (mkF m 9 #[.val (.ref a), .val (.ref b)] [])) := g3
  exact ⟨T3, none, _, _, _, X3, by simp, rfl, by omega, (fun _ => rfl), e0, fun fs hl => c4.trans (X3.returnOut hexec hret (hb hbytes d9) hl)⟩
theorem pays {l : Launch} {R : Room} {p : Program} {e : Env} {below : List Frame} {s : State} {sargs : Array Value} {len W : Nat} (a : Addr) (D : Cell) (fV fC : Field) (b : Addr) (A : Cell) (z : Int32) (htab : tab.before sargs s = true) (hfr : 4 ≤ R.frames) (hlo : W + 65 ≤ R.locals) :
    Back l R p e below s sargs yN len W (fun A₁ a₁ => A₁.cells + 1 ≤ R.cells ∧ A₁.slots + A.slots.size ≤ R.slots ∧ P a D fV fC b A z a₁ A₁.U) (fun A₁ _ v₁ B₁ => E a D fV fC A v₁ A₁.U B₁.U ∧ B₁.locs = A₁.locs ++ [⟨a, fC.slot⟩, ⟨a, fV.slot⟩] ∧ B₁.cells = A₁.cells + 1 ∧ B₁.slots = A₁.slots + A.slots.size) :=
  (law l a D fV fC b A z).pays htab hfr (by omega)
end New1
end StrChars
namespace StrChars.Road
open Jvm Sem ClassFile Op Lib Jvm.Stand Jvm.Free Jvm.Free.XT
open Jvm.Lib.Cold (StaticIs)
abbrev ST : String := "java/lang/String"
/-- every table word that New1's law asks, flat -/
abbrev words : List Jvm.Cond := [.code New1.yN New1.yB 2 none, .initialized ST, .methodLink ST 27 New4.yN, .instanceMethod New4.yN,
  .code New4.yN New4.yB 6 none, .fieldLink ST 38 ST "COMPACT_STRINGS" "Z", .laysFinal ST ST "value" "[B", .fieldLink ST 9 ST "value" "[B", .laysFinal ST ST "coder" "B", .fieldLink ST 15 ST "coder" "B",
  .methodLink ST 1 Lib.objectInit, .instanceMethod Lib.objectInit, .code Lib.objectInit ⟨#[0xb1]⟩ 1 none, .methodLink ST 177 Cmp3.yN, .static Cmp3.yN, .methodLink ST 47 CodL.yN, .static CodL.yN,
  .code Cmp3.yN Cmp3.yB 6 (some (.array .byte)), .initialized U16, .arrayClass .byte, .methodLink U16 115 Cmp5.yN, .static Cmp5.yN, .code Cmp5.yN Cmp5.yB 7 (some .int), .code CodL.yN CodL.yB 2 (some .byte)]
theorem tab_of {a : Array Value} {s : State} (h : ∀ w ∈ words, w.before a s = true) : New1.tab.before a s = true := by
  have h5 : Cmp5.tab.before a s = true := unparts (wk h (.code Cmp5.yN Cmp5.yB 7 (some .int))) (wks h (.initialized Cmp5.yN.cls :: Cmp5.site))
  have hc : CodL.tab.before a s = true := unparts (wk h (.code CodL.yN CodL.yB 2 (some .byte))) (wks h (.initialized CodL.yN.cls :: CodL.site))
  have q5 : ∀ w ∈ Cmp5.tab :: words, w.before a s = true := fun w hw => (List.mem_cons.mp hw).elim (fun e => e ▸ h5) (h w)
  have h3 : Cmp3.tab.before a s = true := unparts (wk q5 (.code Cmp3.yN Cmp3.yB 6 (some (.array .byte)))) (wks q5 (.initialized Cmp3.yN.cls :: Cmp3.site))
  have q3 : ∀ w ∈ Cmp3.tab :: CodL.tab :: words, w.before a s = true := fun w hw => (List.mem_cons.mp hw).elim (fun e => e ▸ h3) fun hw => (List.mem_cons.mp hw).elim (fun e => e ▸ hc) (h w)
  have h4 : New4.tab.before a s = true := unparts (wk q3 (.code New4.yN New4.yB 6 none)) (wks q3 (.initialized New4.yN.cls :: New4.site))
  have q4 : ∀ w ∈ New4.tab :: words, w.before a s = true := fun w hw => (List.mem_cons.mp hw).elim (fun e => e ▸ h4) (h w)
  exact unparts (wk q4 (.code New1.yN New1.yB 2 none)) (wks q4 (.initialized New1.yN.cls :: New1.site))
/-- the words ride from the start Z to the walk's own state -/
theorem moved {Z s : State} {a0 args : Array Value} (hZ : Z.Warmed39 s.vm) (hw : ∀ d ∈ words, d.before a0 Z = true) : ∀ d ∈ words, d.before args s = true := fun d hd => by
  have q := hw d hd
  have t : ∀ d ∈ words, d = .arrayClass .byte ∨ (d.onTables && d.keepsFace) = true := by decide +kernel
  rcases t d hd with rfl | t
  · exact RoadKit.mvA hZ q
  · exact RoadKit.mv hZ q t
/-- WHAT COMES BACK, over the tables of the start Z: h the heap at the call, h' behind it -/
def Q (Z : State) (x : Addr) (A : Cell) (h : Heap) (v : Option Value) (h' : Heap) (L : List Loc) : Prop := v = none ∧ (∀ y ∈ L, y.base = x) ∧ RoadKit.Keep h h' [x] ∧ h'.size = h.size + 1 ∧ RoadKit.Exa Z h' x ST ∧ RoadKit.Fld Z h' x ST "value" "[B" (.ref h.size) ∧ RoadKit.Fld Z h' x ST "coder" "B" (.int 0) ∧
  (∃ V : Cell, RoadKit.Arr Z h' h.size V .byte ∧ V.vm = .none ∧ Z.vm.findClass "[B" = some V.cls ∧ V.slots.size = A.slots.size ∧ ∀ j, j < A.slots.size → V.slots[j]? = some (.int (lo8 (cv A j)))) ∧
  ∀ (O n d : String) (w : Value), RoadKit.Fld Z h x O n d w → RoadKit.slotOf Z O n d ≠ RoadKit.slotOf Z ST "value" "[B" → RoadKit.slotOf Z O n d ≠ RoadKit.slotOf Z ST "coder" "B" → RoadKit.Fld Z h' x O n d w
/-- **new String(chars) AT A CALL, IN THE ROAD'S FORM**: for specialBack behind newO: x the fresh String, b the char[] with the cell A -/
theorem back {p : Program} {l : Launch} {e : Env} {R : Room} {s : State} {args : Array Value} {below : List Frame} {len W : Nat} {Z : State} {a0 : Array Value} {h : Heap} (hZ : Z.Warmed39 s.vm) (hw : ∀ d ∈ words, d.before a0 Z = true) {kI : Nat} (wi : (Jvm.Cond.instantiable ST kI).before a0 Z = true)
    {x b : Addr} {A : Cell} {z : Int32} {v0 c0 : Value} (E : RoadKit.Exa Z h x ST) (V : RoadKit.Fld Z h x ST "value" "[B" v0) (C : RoadKit.Fld Z h x ST "coder" "B" c0) (K : RoadKit.Arr Z h b A .char) (hty : Typed .char A) (S : RoadKit.Sta Z h ST "COMPACT_STRINGS" "Z" (.int z)) (hz : ¬ z = 0)
    (l0 : 0 < A.slots.size) (l2 : A.slots.size ≤ 536870912) (hp : ∀ i, i < A.slots.size → ¬ 255 < cv A i) (hfr : 4 ≤ R.frames) (hlo : W + 65 ≤ R.locals) :
    Back l R p e below s args New1.yN len W (fun P a => a = #[.ref x, .ref b] ∧ P.U.heap = h ∧ P.cells + 1 ≤ R.cells ∧ P.slots + A.slots.size ≤ R.slots)
      (fun P _ v B => ∃ L, Q Z x A h v B.U.heap L ∧ B.locs = P.locs ++ L ∧ B.cells = P.cells + 1 ∧ B.slots = P.slots + A.slots.size) := by
  intro m meth c P g ig mk a X hg hsize hdg hW hn hp'
  obtain ⟨rfl, rfl, r1, r2⟩ := hp'
  have al : Z.vm.Alike P.U.vm := hZ.alike.trans X.warmed.alike
  obtain ⟨D, cfV, kV, iV, fV, hD, gV, stV, knV, obV, asV, slV⟩ := id V
  obtain ⟨D', cfC, kC, iC, fC, hD', gC, stC, -, -, asC, slC⟩ := id C
  cases hD.symm.trans hD'
  obtain ⟨D2, kD, e1, e2, e3, e4, e5⟩ := id E
  cases hD.symm.trans e1
  obtain ⟨c2, k2, i1, i2, i3, -⟩ := Cond.instantiable_spec wi
  cases e2.symm.trans i1
  cases e3.symm.trans i2
  obtain ⟨kU, u1, u2⟩ := al.2.2 _ _ e3
  have hB : Blank ST x D P.U := ⟨hD, ⟨knV, fun q hq => by rw [hq] at obV; cases obV⟩, by rw [al.findClass]; exact e2, kU, u1, by rw [u2]; exact i3, by rw [u2]; exact e5 i3⟩
  have F1 : Found ST "value" "[B" fV P.U := ⟨SBG.found_only al ⟨cfV, kV, iV, gV⟩, stV⟩
  have F2 : Found ST "coder" "B" fC P.U := ⟨SBG.found_only al ⟨cfC, kC, iC, gC⟩, stC⟩
  have hA : Ch b A P.U := ⟨⟨K.1, State.isArrayOf_alike al K.2.1, K.2.2, by omega⟩, hty⟩
  have hS : StaticIs P.U ST "COMPACT_STRINGS" "Z" (.int z) := by
    obtain ⟨cfS, iS, kS, fS, st, cS, t1, t2, t3, t4, t5, t6, t7⟩ := S
    exact StaticIs.there (s := { Z with heap := P.U.heap }) ⟨cfS, iS, kS, fS, st, cS, t1, t2, t3, t4, t5, (fun q => by rw [q] at t6; cases t6), t7⟩ al rfl
  obtain ⟨v, B, X', ⟨⟨hv, E', V', q1, q2, q3, q4, q5, q6, q7, q8, q9, q10, q11⟩, hl, hc, hs⟩, st⟩ := New1.pays x D fV fC b A z (tab_of (moved hZ hw)) hfr hlo m meth c P g ig mk _ X hg hsize hdg hW hn ⟨r1, r2, rfl, hB, F1, F2, hA, hS, hz, l0, l2, hp⟩
  have al' : Z.vm.Alike B.U.vm := hZ.alike.trans X'.warmed.alike
  have hsz : E'.slots.size = D.slots.size := by
    obtain ⟨-, -, -, kB, w1, w2, w3⟩ := q1
    obtain ⟨kB', y1, y2⟩ := al'.2.2 _ _ e3
    rw [q2.2.1] at w1
    cases w1.symm.trans y1
    rw [w3, e5 i3, y2]
  refine ⟨v, B, X', ⟨_, ⟨hv, ?_, ⟨by omega, fun y cy hy hn' => q10 y cy (by simpa using hn') hy, fun y cy hy => ?_⟩, q11, ⟨E', _, q1.1, by rw [q2.2.1]; exact e2, by rw [q2.2.1]; exact e3, by rw [q2.1]; exact obV, fun _ => by rw [hsz]; exact e5 i3⟩,
    ⟨E', cfV, kV, iV, fV, q1.1, gV, stV, by rw [q2.1]; exact knV, by rw [q2.1]; exact obV, by rw [q2.2.1]; exact asV, q3⟩, ⟨E', cfC, kC, iC, fC, q1.1, gC, stC, by rw [q2.1]; exact knV, by rw [q2.1]; exact obV, by rw [q2.2.1]; exact asC, q4⟩,
    ⟨V', ⟨q5.1, State.isArrayOf_alike al'.symm q5.2.1, q5.2.2.1⟩, q6, by rw [← al'.findClass]; exact q7, q8, fun j hj => by have := q9 j hj; rwa [Nat.zero_add] at this⟩, fun O n d w F n1 n2 => ?_⟩, hl, hc, hs⟩, st⟩
  · intro y hy
    simp only [List.mem_cons, List.not_mem_nil, or_false] at hy
    rcases hy with rfl | rfl <;> rfl
  · by_cases q : y = x
    · subst q
      cases hD.symm.trans hy
      exact ⟨E', q1.1, q2.2.1, q2.1, hsz⟩
    · exact ⟨cy, q10 y cy q hy, rfl, rfl, rfl⟩
  · obtain ⟨D3, cf, k, i, f, g1, g2, g3, g4, g5, g6, g7⟩ := F
    cases hD.symm.trans g1
    simp only [RoadKit.slotOf, g2, gV, gC, Option.map_some, Option.getD_some] at n1 n2
    exact ⟨E', cf, k, i, f, q1.1, g2, g3, by rw [q2.1]; exact g4, by rw [q2.1]; exact g5, by rw [q2.2.1]; exact g6, by rw [q2.2.2 f.slot (by simp [n1, n2])]; exact g7⟩
end StrChars.Road
namespace StrChars.Road
open Jvm Sem ClassFile Op Lib Jvm.Stand Jvm.Free Jvm.Free.XT
/-- WHAT COMES BACK, the byte[] as a list of values -/
def QA (Z : State) (x : Addr) (zn : Int32) (cs : List Int32) (h : Heap) (v : Option Value) (h' : Heap) (L : List Loc) : Prop := v = none ∧ (∀ y ∈ L, y.base = x) ∧ RoadKit.Keep h h' [x] ∧ h'.size = h.size + 1 ∧ RoadKit.Exa Z h' x ST ∧ RoadKit.Fld Z h' x ST "value" "[B" (.ref h.size) ∧ RoadKit.Fld Z h' x ST "coder" "B" (.int 0) ∧
  (∃ kb, Z.vm.findClass "[B" = some kb ∧ RoadKit.Arv Z h' h.size kb .byte zn (cs.map fun c => .int (lo8 c)) (.int 0)) ∧
  ∀ (O n d : String) (w : Value), RoadKit.Fld Z h x O n d w → RoadKit.slotOf Z O n d ≠ RoadKit.slotOf Z ST "value" "[B" → RoadKit.slotOf Z O n d ≠ RoadKit.slotOf Z ST "coder" "B" → RoadKit.Fld Z h' x O n d w
/-- **new String(chars) AT A CALL, THE ARRAYS AS LISTS**: the char[] at b holds cs, not empty, no char above 255 -/
theorem backArv {p : Program} {l : Launch} {e : Env} {R : Room} {s : State} {args : Array Value} {below : List Frame} {len W : Nat} {Z : State} {a0 : Array Value} {h : Heap} (hZ : Z.Warmed39 s.vm) (hw : ∀ d ∈ words, d.before a0 Z = true) {kI : Nat} (wi : (Jvm.Cond.instantiable ST kI).before a0 Z = true)
    {x b : Addr} {k : ClassId} {zn z : Int32} {cs : List Int32} {dv v0 c0 : Value} (E : RoadKit.Exa Z h x ST) (V : RoadKit.Fld Z h x ST "value" "[B" v0) (C : RoadKit.Fld Z h x ST "coder" "B" c0) (K : RoadKit.Arv Z h b k .char zn (cs.map Value.int) dv) (S : RoadKit.Sta Z h ST "COMPACT_STRINGS" "Z" (.int z)) (hz : ¬ z = 0)
    (hlen : zn.toNatClampNeg = cs.length) (h0 : 0 < cs.length) (hbig : cs.length ≤ 536870912) (hall : ∀ c ∈ cs, ¬ 255 < c) (hfr : 4 ≤ R.frames) (hlo : W + 65 ≤ R.locals) :
    Back l R p e below s args New1.yN len W (fun P a => a = #[.ref x, .ref b] ∧ P.U.heap = h ∧ P.cells + 1 ≤ R.cells ∧ P.slots + cs.length ≤ R.slots)
      (fun P _ v B => ∃ L, QA Z x zn cs h v B.U.heap L ∧ B.locs = P.locs ++ L ∧ B.cells = P.cells + 1 ∧ B.slots = P.slots + cs.length) := by
  obtain ⟨A, K1, K2, K3, K4, K5, K6⟩ := K
  have e : A.slots.size = cs.length := K3.trans hlen
  have hat : ∀ (i : Nat) (hi : i < cs.length), A.slots[i]? = some (.int cs[i]) := fun i hi => by rw [K5 i (by omega)]; simp [List.getD_eq_getElem?_getD, hi]
  have hcv : ∀ (i : Nat) (hi : i < cs.length), cv A i = cs[i] := fun i hi => by unfold cv; rw [hat i hi]
  have hty : Typed .char A := fun i v hv => by
    have hi : i < A.slots.size := (Array.getElem?_eq_some_iff.mp hv).1
    have q := K5 i hi
    rw [hv] at q
    rw [Option.some.inj q]
    exact K6 i hi
  refine Back.mono (back hZ hw wi E V C K1 hty S hz (by omega) (by omega) (fun i hi => by rw [hcv i (by omega)]; exact hall _ (List.getElem_mem _)) hfr hlo) (fun P a hp => ⟨hp.1, hp.2.1, hp.2.2.1, by rw [e]; exact hp.2.2.2⟩) (fun P a v B hp hq => ?_)
  obtain ⟨L, ⟨q1, q2, q3, q4, q5, q6, q7, ⟨V', v1, v2, v3, v4, v5⟩, q9⟩, hl, hc, hs⟩ := hq
  refine ⟨L, ⟨q1, q2, q3, q4, q5, q6, q7, ⟨V'.cls, v3, V', v1, rfl, by rw [v4, e, hlen], K4, fun i hi => ?_, fun i hi => ?_⟩, q9⟩, hl, hc, by rw [hs, e]⟩
  · have hi' : i < cs.length := by omega
    rw [v5 i (by omega), hcv i hi']; simp [List.getD_eq_getElem?_getD, hi']
  · have hi' : i < cs.length := by omega
    simp only [List.getD_eq_getElem?_getD, List.getElem?_map, List.getElem?_eq_getElem hi', Option.map_some, Option.getD_some]
    exact fits_lo8 _
end StrChars.Road
namespace StrChars.Road
open Jvm Sem ClassFile Op Lib Jvm.Stand Jvm.Free Jvm.Free.XT
/-- WHAT COMES BACK, in the writer's own shape -/
def QV (Z : State) (x : Addr) (N : Int32) (bs : List Int32) (h : Heap) (n0 : Nat) (v : Option Value) (h' : Heap) (L : List Loc) : Prop := v = none ∧ RoadKit.Fr n0 L ∧ RoadKit.Keep h h' [x] ∧ RoadKit.Exa Z h' x ST ∧ RoadKit.Fld Z h' x ST "coder" "B" (.int 0) ∧
  ∃ (t : Addr) (kb : ClassId), n0 ≤ t ∧ h.size ≤ t ∧ ¬ t = x ∧ RoadKit.Fld Z h' x ST "value" "[B" (.ref t) ∧ RoadKit.Arv Z h' t kb .byte N (bs.map Value.int) (.int 0)
/-- **new String(chars) AT A CALL, FOR THE WRITER**: a char[] of n known ints, each 0 to 255 -/
theorem backV {p : Program} {l : Launch} {e : Env} {R : Room} {s : State} {args : Array Value} {below : List Frame} {len W : Nat} {Z : State} {a0 : Array Value} {h : Heap} (hZ : Z.Warmed39 s.vm) (hw : ∀ d ∈ words, d.before a0 Z = true) {kI : Nat} (wi : (Jvm.Cond.instantiable ST kI).before a0 Z = true)
    {x b : Addr} {kC : ClassId} {cs bs : List Int32} {d v0 c0 : Value} {z N : Int32} {n n0 : Nat} (hx0 : n0 ≤ x) (hh0 : n0 ≤ h.size) (E : RoadKit.Exa Z h x ST) (V : RoadKit.Fld Z h x ST "value" "[B" v0) (C : RoadKit.Fld Z h x ST "coder" "B" c0) (K : RoadKit.Arv Z h b kC .char N (cs.map Value.int) d) (S : RoadKit.Sta Z h ST "COMPACT_STRINGS" "Z" (.int z)) (hz : ¬ z = 0)
    (hn : cs.length = n) (hN : N = Int32.ofNat n) (l0 : 0 < n) (l2 : n ≤ 4000) (hp : ∀ c ∈ cs, ¬ c < 0 ∧ ¬ (255 : Int32) < c) (hb : bs = cs.map (fun c => c.toInt8.toInt32)) (hfr : 4 ≤ R.frames) (hlo : W + 65 ≤ R.locals) :
    Back l R p e below s args (⟨"java/lang/String", "<init>", "([C)V"⟩ : MethodName) len W (fun P a => a = #[.ref x, .ref b] ∧ P.U.heap = h ∧ P.cells + 1 ≤ R.cells ∧ P.slots + n ≤ R.slots)
      (fun P _ v B => ∃ L, QV Z x N bs h n0 v B.U.heap L ∧ B.locs = P.locs ++ L ∧ B.cells = P.cells + 1 ∧ B.slots = P.slots + n) := by
  subst hn hN hb
  refine Back.mono (backArv hZ hw wi E V C K S hz (n32 (by omega)) l0 (by omega) (fun c hc => (hp c hc).2) hfr hlo) (fun P a hp => hp) (fun P a v B hp hq => ?_)
  obtain ⟨L, ⟨q1, q2, q3, q4, q5, q6, q7, ⟨kb, v1, v2⟩, q9⟩, hl, hc, hs⟩ := hq
  exact ⟨L, ⟨q1, fun y hy => by rw [q2 y hy]; exact hx0, q3, q5, q7, h.size, kb, hh0, Nat.le_refl _, Nat.ne_of_gt E.lt, q6, by rw [List.map_map]; exact v2⟩, hl, hc, hs⟩
end StrChars.Road
end Jvm.Pilot.@@N@@

namespace Jvm.Pilot.@@N@@
open Jvm Jvm.ClassFile Sem Op Lib Jvm.Free Jvm.Stand Jvm.LawKit Jvm.RoadKit Bundle Jvm.Pilot.@@N@@.Jvm.D

theorem own_c255 {y : Int32} (h0 : 0 ≤ y.toInt) (h1 : y.toInt ≤ 255) : y.toUInt32.toUInt16.toUInt32.toInt32 = y := by
  have h := c_i2c y
  apply Int32.toInt_inj.mp
  omega
theorem own_nar {y : Int32} (h0 : 0 ≤ y.toInt) (h1 : y.toInt ≤ 255) : nar .char (y.toUInt32.toUInt16.toUInt32.toInt32) = y := by
  rw [own_c255 h0 h1]; exact own_c255 h0 h1
theorem own_lat {y : Int32} (h0 : 0 ≤ y.toInt) (h1 : y.toInt ≤ 255) : ¬ nar .char (y.toUInt32.toUInt16.toUInt32.toInt32) < 0 ∧ ¬ (255 : Int32) < nar .char (y.toUInt32.toUInt16.toUInt32.toInt32) := by
  rw [own_nar h0 h1, Int32.lt_iff_toInt_lt, Int32.lt_iff_toInt_lt, show (0 : Int32).toInt = 0 from by decide, show (255 : Int32).toInt = 255 from by decide]
  omega
theorem own_and255 (x : Int32) : 0 ≤ (x &&& (255 : Int32)).toInt ∧ (x &&& (255 : Int32)).toInt ≤ 255 := by
  have h := c_and x 255 (by decide)
  rw [show (255 : Int32).toInt = 255 from by decide] at h
  exact h
theorem own_nsroot {Z : State} {a0 : Array Value} {O K : String} {n : Nat} (w : (Cond.noSuperclass O).before a0 Z = true) (wk : (Cond.instantiable K n).before a0 Z = true) (hn : O ≠ K) : NS Z O K := by
  obtain ⟨c, k, h1, h2, h3, -, -⟩ := Cond.noSuperclass_spec w
  obtain ⟨t, kt, g1, -⟩ := Cond.instantiable_spec wk
  have ne := ids_ne h1 g1 hn
  refine ⟨c, t, h1, g1, fun fuel => ?_⟩
  cases fuel with
  | zero => rfl
  | succ f => simp [Vm.isSubclassAux, ne, h2, h3]
theorem own_nsno {Z : State} {a0 : Array Value} {C S K : String} {n : Nat} (w : (Cond.superclass C S).before a0 Z = true) (wk : (Cond.instantiable K n).before a0 Z = true) (N : NS Z C K) (hn : C ≠ K) : ∃ c t, Z.vm.findClass C = some c ∧ Z.vm.findClass K = some t ∧ Z.vm.assignable c t = false := by
  obtain ⟨c, t, h0, g0, n3⟩ := N
  obtain ⟨p, k, kp, h1, h2, h3, h4, h5, -, h7⟩ := Cond.superclass_spec h0 w
  obtain ⟨t', kt, g1, g2, g3, g4, -⟩ := Cond.instantiable_spec wk
  cases g0.symm.trans g1
  rw [Bool.or_eq_false_iff] at g4
  refine ⟨c, t, h0, g0, ?_⟩
  show Z.vm.assignableAux (255 + 1) c t = false
  simp [Vm.assignableAux, ids_ne h0 g0 hn, h2, g2, h5, g3, g4.1, Vm.isSubclass, n3]

theorem own_rn {v : Value} {C : String} (h : v.isRef = true) : narrow (.object C) v = v := by rcases ref_cases h with rfl | ⟨a, rfl⟩ <;> rfl
theorem own_rf {v : Value} {C : String} (h : v.isRef = true) : fits (.object C) v = true := by rcases ref_cases h with rfl | ⟨a, rfl⟩ <;> rfl
theorem own_cat {v : Value} (h : v.isRef = true) : v.category = 1 := by rcases ref_cases h with rfl | ⟨a, rfl⟩ <;> rfl
/-- what place i of the law's pool holds -/
def own_pool (s1 s2 s3 : Addr) (i : Int32) : Value := if i = 0 then .ref s1 else if i = 1 then .ref s2 else if i = 2 then .ref s3 else .null
theorem own_poolR (s1 s2 s3 : Addr) (i : Int32) : (own_pool s1 s2 s3 i).isRef = true := by
  unfold own_pool; split
  · rfl
  · split
    · rfl
    · split <;> rfl
theorem own_four {i : Int32} (h0 : 0 ≤ i.toInt) (h1 : i.toInt ≤ 3) : i = 0 ∨ i = 1 ∨ i = 2 ∨ i = 3 := by
  have e : ∀ k : Int32, i = k ↔ i.toInt = k.toInt := fun k => Int32.toInt_inj.symm
  rw [e 0, e 1, e 2, e 3]
  show i.toInt = 0 ∨ i.toInt = 1 ∨ i.toInt = 2 ∨ i.toInt = 3
  omega
theorem own_and3 (x : Int32) : (x &&& (3 : Int32)) = 0 ∨ (x &&& (3 : Int32)) = 1 ∨ (x &&& (3 : Int32)) = 2 ∨ (x &&& (3 : Int32)) = 3 := by
  have h := c_and x 3 (by decide)
  rw [show (3 : Int32).toInt = 3 from by decide] at h
  exact own_four h.1 h.2
theorem own_at (s1 s2 s3 : Addr) {i : Int32} (h : i = 0 ∨ i = 1 ∨ i = 2 ∨ i = 3) : [Value.ref s1, .ref s2, .ref s3, .null].getD i.toNatClampNeg .null = own_pool s1 s2 s3 i := by
  rcases h with rfl | rfl | rfl | rfl <;> rfl
theorem own_in {i : Int32} (h : i = 0 ∨ i = 1 ∨ i = 2 ∨ i = 3) : ¬ i < 0 ∧ i < 4 := by rcases h with rfl | rfl | rfl | rfl <;> decide
theorem own_inj {s1 s2 s3 : Addr} (h12 : s1 ≠ s2) (h13 : s1 ≠ s3) (h23 : s2 ≠ s3) {i j : Int32} (hi : i = 0 ∨ i = 1 ∨ i = 2 ∨ i = 3) (hj : j = 0 ∨ j = 1 ∨ j = 2 ∨ j = 3) : own_pool s1 s2 s3 i = own_pool s1 s2 s3 j ↔ i = j := by
  constructor
  · intro h
    rcases hi with rfl | rfl | rfl | rfl <;> rcases hj with rfl | rfl | rfl | rfl <;> first
      | rfl
      | (exfalso; exact h12 (Value.ref.inj h)) | (exfalso; exact h12 (Value.ref.inj h).symm) | (exfalso; exact h13 (Value.ref.inj h)) | (exfalso; exact h13 (Value.ref.inj h).symm) | (exfalso; exact h23 (Value.ref.inj h)) | (exfalso; exact h23 (Value.ref.inj h).symm)
      | (exfalso; exact Value.noConfusion h)
  · rintro rfl; rfl
theorem own_sh (x : Int32) : 0 ≤ (((x.toUInt32 >>> ((8 : Int32) &&& 31).toUInt32).toInt32) &&& (255 : Int32)).toInt ∧ (((x.toUInt32 >>> ((8 : Int32) &&& 31).toUInt32).toInt32) &&& (255 : Int32)).toInt ≤ 255 := own_and255 _

theorem d7_0 : decode prog_34_method_1_code 0 = .ok (.aload_n 0, 1) := by decide +kernel
theorem d7_1 : decode prog_34_method_1_code 1 = .ok (.invokespecial 1, 3) := by decide +kernel
theorem d7_4 : decode prog_34_method_1_code 4 = .ok (.aload_n 0, 1) := by decide +kernel
theorem d7_5 : decode prog_34_method_1_code 5 = .ok (.aload_n 1, 1) := by decide +kernel
theorem d7_6 : decode prog_34_method_1_code 6 = .ok (.putfield 7, 3) := by decide +kernel
theorem d7_9 : decode prog_34_method_1_code 9 = .ok (.aload_n 0, 1) := by decide +kernel
theorem d7_10 : decode prog_34_method_1_code 10 = .ok (.aload_n 2, 1) := by decide +kernel
theorem d7_11 : decode prog_34_method_1_code 11 = .ok (.putfield 13, 3) := by decide +kernel
theorem d7_14 : decode prog_34_method_1_code 14 = .ok (.return_, 1) := by decide +kernel
theorem d8_0 : decode prog_34_method_4_code 0 = .ok (.aload_n 1, 1) := by decide +kernel
theorem d8_1 : decode prog_34_method_4_code 1 = .ok (.instanceof 8, 3) := by decide +kernel
theorem d8_4 : decode prog_34_method_4_code 4 = .ok (.ifCond .eq 34, 3) := by decide +kernel
theorem d8_7 : decode prog_34_method_4_code 7 = .ok (.aload_n 1, 1) := by decide +kernel
theorem d8_8 : decode prog_34_method_4_code 8 = .ok (.checkcast 8, 3) := by decide +kernel
theorem d8_11 : decode prog_34_method_4_code 11 = .ok (.astore_n 2, 1) := by decide +kernel
theorem d8_12 : decode prog_34_method_4_code 12 = .ok (.aload_n 2, 1) := by decide +kernel
theorem d8_13 : decode prog_34_method_4_code 13 = .ok (.getfield 7, 3) := by decide +kernel
theorem d8_16 : decode prog_34_method_4_code 16 = .ok (.aload_n 0, 1) := by decide +kernel
theorem d8_17 : decode prog_34_method_4_code 17 = .ok (.getfield 7, 3) := by decide +kernel
theorem d8_20 : decode prog_34_method_4_code 20 = .ok (.if_acmp .ne 18, 3) := by decide +kernel
theorem d8_23 : decode prog_34_method_4_code 23 = .ok (.aload_n 2, 1) := by decide +kernel
theorem d8_24 : decode prog_34_method_4_code 24 = .ok (.getfield 13, 3) := by decide +kernel
theorem d8_27 : decode prog_34_method_4_code 27 = .ok (.aload_n 0, 1) := by decide +kernel
theorem d8_28 : decode prog_34_method_4_code 28 = .ok (.getfield 13, 3) := by decide +kernel
theorem d8_31 : decode prog_34_method_4_code 31 = .ok (.if_acmp .ne 7, 3) := by decide +kernel
theorem d8_34 : decode prog_34_method_4_code 34 = .ok (.iconst 1, 1) := by decide +kernel
theorem d8_35 : decode prog_34_method_4_code 35 = .ok (.goto 4, 3) := by decide +kernel
theorem d8_38 : decode prog_34_method_4_code 38 = .ok (.iconst 0, 1) := by decide +kernel
theorem d8_39 : decode prog_34_method_4_code 39 = .ok (.ireturn, 1) := by decide +kernel
theorem pn_com_example_fettle_fettle_tree_IdentityPairEqualsPinLaw : plainName "com/example/fettle/fettle/tree/IdentityPairEqualsPinLaw" = true := by first | (simp [plainName, overriddenIn]; done) | decide +kernel
theorem pn_java_lang_String : plainName "java/lang/String" = true := by first | (simp [plainName, overriddenIn]; done) | decide +kernel
theorem pn_java_lang_StringUTF16 : plainName "java/lang/StringUTF16" = true := by first | (simp [plainName, overriddenIn]; done) | decide +kernel
theorem pn_com_example_fettle_fettle_tree_IdentityPair : plainName "com/example/fettle/fettle/tree/IdentityPair" = true := by first | (simp [plainName, overriddenIn]; done) | decide +kernel
theorem pd_0 : parseMethodDescriptor "([C)V" = some ⟨[(.array .char)], none⟩ := by decide +kernel
theorem pd_1 : parseMethodDescriptor "(Ljava/lang/Object;Ljava/lang/Object;)V" = some ⟨[(.object "java/lang/Object"), (.object "java/lang/Object")], none⟩ := by decide +kernel
theorem pd_2 : parseMethodDescriptor "(Ljava/lang/Object;)Z" = some ⟨[(.object "java/lang/Object")], some .boolean⟩ := by decide +kernel
theorem ef_7 (m : MethodId) (a1 : Addr) (v1 : Value) (v2 : Value) (r_v1 : v1.isRef = true) (r_v2 : v2.isRef = true) : entryFrame m #[(.ref a1), v1, v2] 3 = mkF m 0 #[.val (.ref a1), .val v1, .val v2] [] := by rcases ref_cases r_v1 with rfl | ⟨_, rfl⟩ <;> rcases ref_cases r_v2 with rfl | ⟨_, rfl⟩ <;> rfl
def Q7 (Z : State) (a1 : Addr) (v1 : Value) (v2 : Value) (h0 : Heap) (n0 : Nat) (v : Option Value) (h : Heap) (L : List Loc) : Prop := v = none ∧ Fr n0 L ∧ Keep h0 h [a1] ∧ Fld Z h a1 "com/example/fettle/fettle/tree/IdentityPair" "first" "Ljava/lang/Object;" v1 ∧ Fld Z h a1 "com/example/fettle/fettle/tree/IdentityPair" "second" "Ljava/lang/Object;" v2
set_option maxRecDepth 65536 in
set_option maxHeartbeats 40000000 in
theorem rm7 (l : Launch) (Z : State) (a0 : Array Value) (hw : ∀ d ∈ tables_1, d.before a0 Z = true) (ws : List Jvm.Cond) (a1 : Addr) (v1 : Value) (v2 : Value) (h0 : Heap) (n0 : Nat) (Z0 : n0 ≤ h0.size) (r_v1 : v1.isRef = true) (r_v2 : v2.isRef = true) (E1 : Exa Z h0 a1 "com/example/fettle/fettle/tree/IdentityPair") (F1 : Fld Z h0 a1 "com/example/fettle/fettle/tree/IdentityPair" "first" "Ljava/lang/Object;" .null) (F2 : Fld Z h0 a1 "com/example/fettle/fettle/tree/IdentityPair" "second" "Ljava/lang/Object;" .null) (g_a1 : n0 ≤ a1) :
    MetFree l (⟨"com/example/fettle/fettle/tree/IdentityPair", "<init>", "(Ljava/lang/Object;Ljava/lang/Object;)V"⟩ : MethodName) (head1 (Jvm.Cond.code (⟨"com/example/fettle/fettle/tree/IdentityPair", "<init>", "(Ljava/lang/Object;Ljava/lang/Object;)V"⟩ : MethodName) prog_34_method_1_code 3 none :: ws) ({ frames := 1, cells := 0, slots := 0, locals := 12 } : Room)) (fun α υ => α = #[(.ref a1), v1, v2] ∧ Z.Warmed39 υ.vm ∧ υ.heap = h0) (fun _ _ _ _ _ => True) (fun _ υ ω υ' => ∃ v L, ω = .returned v ∧ Q7 Z a1 v1 v2 h0 n0 v υ'.heap L ∧ FrameEnd υ ω υ' L ({ frames := 1, cells := 0, slots := 0, locals := 12 } : Room).cells ({ frames := 1, cells := 0, slots := 0, locals := 12 } : Room).slots) := by
  refine MetFree.of_bodySF (plainFor_of_name pn_com_example_fettle_fettle_tree_IdentityPair) hisR ?_
  intro p e s m args below meth c s₁ Bd hml0 hP hK
  obtain ⟨rfl, hZ, hh⟩ := hP
  have hx := Bd.exec
  have hby := Bd.bytes
  have hml : c.maxLocals = 3 := hml0
  have hown : s.vm.findClass "com/example/fettle/fettle/tree/IdentityPair" = some m.cls := findClass_of_methodNamed Bd.named
  have hnm := (name_of_methodNamed Bd.named Bd.method).1
  have X0 : Stand p l e ({ frames := 1, cells := 0, slots := 0, locals := 12 } : Room) s m #[(.ref a1), v1, v2] below meth c s₁ [] 0 0 := Stand.of_body Bd
  have e0 : s₁.heap = h0 := by rw [← hh, Bd.state]; rfl
  have N0 := Fr.nil n0
  have pre0 : ∀ τ, Steps p.tables e below (s₁.setTop (mkF m 0 #[.val (.ref a1), .val v1, .val v2] [])) τ → Steps p.tables e below (s₁.setTop (entryFrame m #[(.ref a1), v1, v2] 3)) τ := fun τ κ => castTop (ef_7 m a1 v1 v2 r_v1 r_v2) κ
  have Kp0 : Keep h0 h0 [a1] := Keep.refl _ _
  have pre1 := fun τ (κ : Steps p.tables e below (s₁.setTop (mkF m 1 #[.val (.ref a1), .val v1, .val v2] [(.ref a1)])) τ) => pre0 τ (by
    refine XS.aloadN X0.here hx rfl (hb hby d7_0) rfl rfl ?_
    show Steps p.tables e below (s₁.setTop (mkF m 1 #[.val (.ref a1), .val v1, .val v2] [(.ref a1)])) _
    exact κ)
  obtain ⟨T2, X2, e2, st2⟩ := initO X0 hx hZ hown (hw _ (List.mem_of_getElem? (i := 39) rfl)) (hw _ (List.mem_of_getElem? (i := 14) rfl)) (hw _ (List.mem_of_getElem? (i := 15) rfl)) e0 (g := (mkF m 1 #[.val (.ref a1), .val v1, .val v2] [(.ref a1)])) rfl (by rw [hml]; rfl) rfl (hb hby d7_1) (by decide) (W := 0) (by show 2 * 0 + _ ≤ _; exact Nat.le_of_eq rfl) (by decide)
  have pre3 := fun τ (κ : Steps p.tables e below (T2.setTop (mkF m 4 #[.val (.ref a1), .val v1, .val v2] [])) τ) => pre1 τ (st2 _ κ)
  have pre4 := fun τ (κ : Steps p.tables e below (T2.setTop (mkF m 6 #[.val (.ref a1), .val v1, .val v2] [v1, (.ref a1)])) τ) => pre3 τ (by
    refine XS.aloadN X2.here hx rfl (hb hby d7_4) rfl rfl ?_
    show Steps p.tables e below (T2.setTop (mkF m 5 #[.val (.ref a1), .val v1, .val v2] [(.ref a1)])) _
    refine XS.aloadN X2.here hx rfl (hb hby d7_5) rfl r_v1 ?_
    show Steps p.tables e below (T2.setTop (mkF m 6 #[.val (.ref a1), .val v1, .val v2] [v1, (.ref a1)])) _
    exact κ)
  obtain ⟨T5, h5, X5, e5, W5, st5⟩ := putF X2 hx hZ hown (host := "") (Or.inl (hw _ (List.mem_of_getElem? (i := 40) rfl))) Via.refl e2 F1 E1 (Or.inr ⟨(hw _ (List.mem_of_getElem? (i := 41) rfl)), rfl, hnm⟩) (hw _ (List.mem_of_getElem? (i := 34) rfl)) (ty := (.object "java/lang/Object")) (by decide) (own_rn r_v1) (own_rf r_v1) (g := (mkF m 6 #[.val (.ref a1), .val v1, .val v2] [v1, (.ref a1)])) rfl rfl (hb hby d7_6)
  have E1_5 : Exa Z h5 a1 "com/example/fettle/fettle/tree/IdentityPair" := E1.wr W5
  have F2_5 : Fld Z h5 a1 "com/example/fettle/fettle/tree/IdentityPair" "second" "Ljava/lang/Object;" .null := F2.other W5 (Or.inr (slot_ne (Or.inr (hw _ (List.mem_of_getElem? (i := 43) rfl))) (Or.inr (hw _ (List.mem_of_getElem? (i := 41) rfl))) (by decide) (t := (.object "java/lang/Object")) (t' := (.object "java/lang/Object")) (by decide) (by decide)))
  have Kp5 : Keep h0 h5 [a1] := Kp0.wr W5 (Or.inl (List.mem_of_getElem? (i := 0) rfl))
  have N5 := Fr.snoc X5 N0 g_a1
  have Z5 : n0 ≤ h5.size := Nat.le_trans Z0 (Keep.of_wr W5).1
  have F_first_a1_5 : Fld Z h5 a1 "com/example/fettle/fettle/tree/IdentityPair" "first" "Ljava/lang/Object;" v1 := F1.same W5
  have pre6 := fun τ (κ : Steps p.tables e below (T5.setTop (mkF m 9 #[.val (.ref a1), .val v1, .val v2] [])) τ) => pre4 τ (st5 _ κ)
  have pre7 := fun τ (κ : Steps p.tables e below (T5.setTop (mkF m 11 #[.val (.ref a1), .val v1, .val v2] [v2, (.ref a1)])) τ) => pre6 τ (by
    refine XS.aloadN X5.here hx rfl (hb hby d7_9) rfl rfl ?_
    show Steps p.tables e below (T5.setTop (mkF m 10 #[.val (.ref a1), .val v1, .val v2] [(.ref a1)])) _
    refine XS.aloadN X5.here hx rfl (hb hby d7_10) rfl r_v2 ?_
    show Steps p.tables e below (T5.setTop (mkF m 11 #[.val (.ref a1), .val v1, .val v2] [v2, (.ref a1)])) _
    exact κ)
  obtain ⟨T8, h8, X8, e8, W8, st8⟩ := putF X5 hx hZ hown (host := "") (Or.inl (hw _ (List.mem_of_getElem? (i := 42) rfl))) Via.refl e5 F2_5 E1_5 (Or.inr ⟨(hw _ (List.mem_of_getElem? (i := 43) rfl)), rfl, hnm⟩) (hw _ (List.mem_of_getElem? (i := 34) rfl)) (ty := (.object "java/lang/Object")) (by decide) (own_rn r_v2) (own_rf r_v2) (g := (mkF m 11 #[.val (.ref a1), .val v1, .val v2] [v2, (.ref a1)])) rfl rfl (hb hby d7_11)
  have E1_8 : Exa Z h8 a1 "com/example/fettle/fettle/tree/IdentityPair" := E1_5.wr W8
  have F_first_a1_8 : Fld Z h8 a1 "com/example/fettle/fettle/tree/IdentityPair" "first" "Ljava/lang/Object;" v1 := F_first_a1_5.other W8 (Or.inr (slot_ne (Or.inr (hw _ (List.mem_of_getElem? (i := 41) rfl))) (Or.inr (hw _ (List.mem_of_getElem? (i := 43) rfl))) (by decide) (t := (.object "java/lang/Object")) (t' := (.object "java/lang/Object")) (by decide) (by decide)))
  have Kp8 : Keep h0 h8 [a1] := Kp5.wr W8 (Or.inl (List.mem_of_getElem? (i := 0) rfl))
  have N8 := Fr.snoc X8 N5 g_a1
  have Z8 : n0 ≤ h8.size := Nat.le_trans Z5 (Keep.of_wr W8).1
  have F_second_a1_8 : Fld Z h8 a1 "com/example/fettle/fettle/tree/IdentityPair" "second" "Ljava/lang/Object;" v2 := F2_5.same W8
  have pre9 := fun τ (κ : Steps p.tables e below (T8.setTop (mkF m 14 #[.val (.ref a1), .val v1, .val v2] [])) τ) => pre7 τ (st8 _ κ)
  obtain ⟨fs, hr, hrun, hended, hW, hsame⟩ := X8.leave (v := none) (fun _ => rfl)
  refine ⟨_, _, pre9 _ ?_, hrun, hended, _, _, rfl, ?_, ⟨_, rfl⟩, hW, hsame.mono (by decide) (by decide)⟩
  · exact X8.returnOut hx Bd.returns (hb hby d7_14) hr
  · show Q7 Z a1 v1 v2 h0 n0 _ T8.heap _
    rw [e8]
    exact ⟨rfl, N8, Kp8, F_first_a1_8, F_second_a1_8⟩
theorem ef_8n (m : MethodId) (a1 : Addr) : entryFrame m #[(.ref a1), .null] 3 = mkF m 0 #[.val (.ref a1), .val .null, .unset] [] := by first | (simp [entryFrame, mkF, argsToLocals, Value.category]; done) | rfl
def Q8n (Z : State) (a1 : Addr) (h0 : Heap) (n0 : Nat) (v : Option Value) (h : Heap) (L : List Loc) : Prop := v = some (.int 0) ∧ Fr n0 L ∧ h = h0
set_option maxRecDepth 65536 in
set_option maxHeartbeats 40000000 in
theorem rm8n (l : Launch) (Z : State) (a0 : Array Value) (hw : ∀ d ∈ tables_1, d.before a0 Z = true) (ws : List Jvm.Cond) (a1 : Addr) (h0 : Heap) (n0 : Nat) (Z0 : n0 ≤ h0.size) :
    MetFree l (⟨"com/example/fettle/fettle/tree/IdentityPair", "equals", "(Ljava/lang/Object;)Z"⟩ : MethodName) (head1 (Jvm.Cond.code (⟨"com/example/fettle/fettle/tree/IdentityPair", "equals", "(Ljava/lang/Object;)Z"⟩ : MethodName) prog_34_method_4_code 3 (some .boolean) :: ws) ({ frames := 0, cells := 0, slots := 0, locals := 0 } : Room)) (fun α υ => α = #[(.ref a1), .null] ∧ Z.Warmed39 υ.vm ∧ υ.heap = h0) (fun _ _ _ _ _ => True) (fun _ υ ω υ' => ∃ v L, ω = .returned v ∧ Q8n Z a1 h0 n0 v υ'.heap L ∧ FrameEnd υ ω υ' L ({ frames := 0, cells := 0, slots := 0, locals := 0 } : Room).cells ({ frames := 0, cells := 0, slots := 0, locals := 0 } : Room).slots) := by
  refine MetFree.of_bodySF (plainFor_of_name pn_com_example_fettle_fettle_tree_IdentityPair) hisR ?_
  intro p e s m args below meth c s₁ Bd hml0 hP hK
  obtain ⟨rfl, hZ, hh⟩ := hP
  have hx := Bd.exec
  have hby := Bd.bytes
  have hml : c.maxLocals = 3 := hml0
  have hown : s.vm.findClass "com/example/fettle/fettle/tree/IdentityPair" = some m.cls := findClass_of_methodNamed Bd.named
  have hnm := (name_of_methodNamed Bd.named Bd.method).1
  have X0 : Stand p l e ({ frames := 0, cells := 0, slots := 0, locals := 0 } : Room) s m #[(.ref a1), .null] below meth c s₁ [] 0 0 := Stand.of_body Bd
  have e0 : s₁.heap = h0 := by rw [← hh, Bd.state]; rfl
  have N0 := Fr.nil n0
  have pre0 : ∀ τ, Steps p.tables e below (s₁.setTop (mkF m 0 #[.val (.ref a1), .val .null, .unset] [])) τ → Steps p.tables e below (s₁.setTop (entryFrame m #[(.ref a1), .null] 3)) τ := fun τ κ => castTop (ef_8n m a1) κ
  have pre1 := fun τ (κ : Steps p.tables e below (s₁.setTop (mkF m 1 #[.val (.ref a1), .val .null, .unset] [.null])) τ) => pre0 τ (by
    refine XS.aloadN X0.here hx rfl (hb hby d8_0) rfl rfl ?_
    show Steps p.tables e below (s₁.setTop (mkF m 1 #[.val (.ref a1), .val .null, .unset] [.null])) _
    exact κ)
  have pre2 := fun τ (κ : Steps p.tables e below (s₁.setTop (mkF m 39 #[.val (.ref a1), .val .null, .unset] [(.int (0 : Int32))])) τ) => pre1 τ (by
    refine X0.instanceofNull hx (g := (mkF m 1 #[.val (.ref a1), .val .null, .unset] [.null])) rfl rfl (hb hby d8_1) _ ?_
    show Steps p.tables e below (s₁.setTop (mkF m 4 #[.val (.ref a1), .val .null, .unset] [(.int (0 : Int32))])) _
    refine XS.ifYes X0.here hx rfl (pc0 := 4) (pc' := 38) rfl (hb hby d8_4) rfl ((if0 _ _).trans (teq rfl).1) (by decide) (by decide) ?_
    show Steps p.tables e below (s₁.setTop (mkF m 38 #[.val (.ref a1), .val .null, .unset] [])) _
    refine XS.iconst X0.here hx rfl (hb hby d8_38) ?_
    show Steps p.tables e below (s₁.setTop (mkF m 39 #[.val (.ref a1), .val .null, .unset] [(.int (0 : Int32))])) _
    exact κ)
  obtain ⟨fs, hr, hrun, hended, hW, hsame⟩ := X0.leave (v := some (.int (0 : Int32))) (fun h => by rw [Bd.returns] at h; cases h)
  refine ⟨_, _, pre2 _ ?_, hrun, hended, _, _, rfl, ?_, ⟨_, rfl⟩, hW, hsame.mono (by decide) (by decide)⟩
  · exact retN X0 hx (t := .boolean) Bd.returns (by simp) (hb hby d8_39) hr
  · show Q8n Z a1 h0 n0 _ s₁.heap _
    rw [e0]
    exact ⟨rfl, N0, rfl⟩
theorem ef_8s (m : MethodId) (a1 : Addr) (b1 : Addr) : entryFrame m #[(.ref a1), (.ref b1)] 3 = mkF m 0 #[.val (.ref a1), .val (.ref b1), .unset] [] := by first | (simp [entryFrame, mkF, argsToLocals, Value.category]; done) | rfl
def Q8s (Z : State) (a1 : Addr) (b1 : Addr) (h0 : Heap) (n0 : Nat) (v : Option Value) (h : Heap) (L : List Loc) : Prop := v = some (.int 0) ∧ Fr n0 L ∧ h = h0
set_option maxRecDepth 65536 in
set_option maxHeartbeats 40000000 in
theorem rm8s (l : Launch) (Z : State) (a0 : Array Value) (hw : ∀ d ∈ tables_1, d.before a0 Z = true) (ws : List Jvm.Cond) (a1 : Addr) (b1 : Addr) (h0 : Heap) (n0 : Nat) (Z0 : n0 ≤ h0.size) (E2 : Exa Z h0 b1 "java/lang/String") (F1 : ∃ c t, Z.vm.findClass "java/lang/String" = some c ∧ Z.vm.findClass "com/example/fettle/fettle/tree/IdentityPair" = some t ∧ Z.vm.assignable c t = false) :
    MetFree l (⟨"com/example/fettle/fettle/tree/IdentityPair", "equals", "(Ljava/lang/Object;)Z"⟩ : MethodName) (head1 (Jvm.Cond.code (⟨"com/example/fettle/fettle/tree/IdentityPair", "equals", "(Ljava/lang/Object;)Z"⟩ : MethodName) prog_34_method_4_code 3 (some .boolean) :: ws) ({ frames := 0, cells := 0, slots := 0, locals := 0 } : Room)) (fun α υ => α = #[(.ref a1), (.ref b1)] ∧ Z.Warmed39 υ.vm ∧ υ.heap = h0) (fun _ _ _ _ _ => True) (fun _ υ ω υ' => ∃ v L, ω = .returned v ∧ Q8s Z a1 b1 h0 n0 v υ'.heap L ∧ FrameEnd υ ω υ' L ({ frames := 0, cells := 0, slots := 0, locals := 0 } : Room).cells ({ frames := 0, cells := 0, slots := 0, locals := 0 } : Room).slots) := by
  refine MetFree.of_bodySF (plainFor_of_name pn_com_example_fettle_fettle_tree_IdentityPair) hisR ?_
  intro p e s m args below meth c s₁ Bd hml0 hP hK
  obtain ⟨rfl, hZ, hh⟩ := hP
  have hx := Bd.exec
  have hby := Bd.bytes
  have hml : c.maxLocals = 3 := hml0
  have hown : s.vm.findClass "com/example/fettle/fettle/tree/IdentityPair" = some m.cls := findClass_of_methodNamed Bd.named
  have hnm := (name_of_methodNamed Bd.named Bd.method).1
  have X0 : Stand p l e ({ frames := 0, cells := 0, slots := 0, locals := 0 } : Room) s m #[(.ref a1), (.ref b1)] below meth c s₁ [] 0 0 := Stand.of_body Bd
  have e0 : s₁.heap = h0 := by rw [← hh, Bd.state]; rfl
  have N0 := Fr.nil n0
  have pre0 : ∀ τ, Steps p.tables e below (s₁.setTop (mkF m 0 #[.val (.ref a1), .val (.ref b1), .unset] [])) τ → Steps p.tables e below (s₁.setTop (entryFrame m #[(.ref a1), (.ref b1)] 3)) τ := fun τ κ => castTop (ef_8s m a1 b1) κ
  have pre1 := fun τ (κ : Steps p.tables e below (s₁.setTop (mkF m 1 #[.val (.ref a1), .val (.ref b1), .unset] [(.ref b1)])) τ) => pre0 τ (by
    refine XS.aloadN X0.here hx rfl (hb hby d8_0) rfl rfl ?_
    show Steps p.tables e below (s₁.setTop (mkF m 1 #[.val (.ref a1), .val (.ref b1), .unset] [(.ref b1)])) _
    exact κ)
  obtain ⟨T2, X2, e2, st2⟩ := instNo X0 hx hZ hown (hw _ (List.mem_of_getElem? (i := 49) rfl)) e0 E2 F1 (g := (mkF m 1 #[.val (.ref a1), .val (.ref b1), .unset] [(.ref b1)])) rfl rfl (hb hby d8_1)
  have pre3 := fun τ (κ : Steps p.tables e below (T2.setTop (mkF m 4 #[.val (.ref a1), .val (.ref b1), .unset] [(.int (0 : Int32))])) τ) => pre1 τ (st2 _ κ)
  have pre4 := fun τ (κ : Steps p.tables e below (T2.setTop (mkF m 39 #[.val (.ref a1), .val (.ref b1), .unset] [(.int (0 : Int32))])) τ) => pre3 τ (by
    refine XS.ifYes X2.here hx rfl (pc0 := 4) (pc' := 38) rfl (hb hby d8_4) rfl ((if0 _ _).trans (teq rfl).1) (by decide) (by decide) ?_
    show Steps p.tables e below (T2.setTop (mkF m 38 #[.val (.ref a1), .val (.ref b1), .unset] [])) _
    refine XS.iconst X2.here hx rfl (hb hby d8_38) ?_
    show Steps p.tables e below (T2.setTop (mkF m 39 #[.val (.ref a1), .val (.ref b1), .unset] [(.int (0 : Int32))])) _
    exact κ)
  obtain ⟨fs, hr, hrun, hended, hW, hsame⟩ := X2.leave (v := some (.int (0 : Int32))) (fun h => by rw [Bd.returns] at h; cases h)
  refine ⟨_, _, pre4 _ ?_, hrun, hended, _, _, rfl, ?_, ⟨_, rfl⟩, hW, hsame.mono (by decide) (by decide)⟩
  · exact retN X2 hx (t := .boolean) Bd.returns (by simp) (hb hby d8_39) hr
  · show Q8s Z a1 b1 h0 n0 _ T2.heap _
    rw [e2]
    exact ⟨rfl, N0, rfl⟩
theorem ef_8p (m : MethodId) (a1 : Addr) (b1 : Addr) (f1 : Value) (f2 : Value) (u1 : Value) (u2 : Value) : entryFrame m #[(.ref a1), (.ref b1)] 3 = mkF m 0 #[.val (.ref a1), .val (.ref b1), .unset] [] := by first | (simp [entryFrame, mkF, argsToLocals, Value.category]; done) | rfl
def Q8p (Z : State) (a1 : Addr) (b1 : Addr) (f1 : Value) (f2 : Value) (u1 : Value) (u2 : Value) (h0 : Heap) (n0 : Nat) (v : Option Value) (h : Heap) (L : List Loc) : Prop := v = some (.int (if u1 = f1 ∧ u2 = f2 then 1 else 0)) ∧ Fr n0 L ∧ h = h0
set_option maxRecDepth 65536 in
set_option maxHeartbeats 40000000 in
theorem rm8p (l : Launch) (Z : State) (a0 : Array Value) (hw : ∀ d ∈ tables_1, d.before a0 Z = true) (ws : List Jvm.Cond) (a1 : Addr) (b1 : Addr) (f1 : Value) (f2 : Value) (u1 : Value) (u2 : Value) (h0 : Heap) (n0 : Nat) (Z0 : n0 ≤ h0.size) (r_f1 : f1.isRef = true) (r_f2 : f2.isRef = true) (r_u1 : u1.isRef = true) (r_u2 : u2.isRef = true) (E2 : Exa Z h0 b1 "com/example/fettle/fettle/tree/IdentityPair") (A1 : Fld Z h0 a1 "com/example/fettle/fettle/tree/IdentityPair" "first" "Ljava/lang/Object;" f1) (A2 : Fld Z h0 a1 "com/example/fettle/fettle/tree/IdentityPair" "second" "Ljava/lang/Object;" f2) (B1 : Fld Z h0 b1 "com/example/fettle/fettle/tree/IdentityPair" "first" "Ljava/lang/Object;" u1) (B2 : Fld Z h0 b1 "com/example/fettle/fettle/tree/IdentityPair" "second" "Ljava/lang/Object;" u2) :
    MetFree l (⟨"com/example/fettle/fettle/tree/IdentityPair", "equals", "(Ljava/lang/Object;)Z"⟩ : MethodName) (head1 (Jvm.Cond.code (⟨"com/example/fettle/fettle/tree/IdentityPair", "equals", "(Ljava/lang/Object;)Z"⟩ : MethodName) prog_34_method_4_code 3 (some .boolean) :: ws) ({ frames := 0, cells := 0, slots := 0, locals := 0 } : Room)) (fun α υ => α = #[(.ref a1), (.ref b1)] ∧ Z.Warmed39 υ.vm ∧ υ.heap = h0) (fun _ _ _ _ _ => True) (fun _ υ ω υ' => ∃ v L, ω = .returned v ∧ Q8p Z a1 b1 f1 f2 u1 u2 h0 n0 v υ'.heap L ∧ FrameEnd υ ω υ' L ({ frames := 0, cells := 0, slots := 0, locals := 0 } : Room).cells ({ frames := 0, cells := 0, slots := 0, locals := 0 } : Room).slots) := by
  refine MetFree.of_bodySF (plainFor_of_name pn_com_example_fettle_fettle_tree_IdentityPair) hisR ?_
  intro p e s m args below meth c s₁ Bd hml0 hP hK
  obtain ⟨rfl, hZ, hh⟩ := hP
  have hx := Bd.exec
  have hby := Bd.bytes
  have hml : c.maxLocals = 3 := hml0
  have hown : s.vm.findClass "com/example/fettle/fettle/tree/IdentityPair" = some m.cls := findClass_of_methodNamed Bd.named
  have hnm := (name_of_methodNamed Bd.named Bd.method).1
  have X0 : Stand p l e ({ frames := 0, cells := 0, slots := 0, locals := 0 } : Room) s m #[(.ref a1), (.ref b1)] below meth c s₁ [] 0 0 := Stand.of_body Bd
  have e0 : s₁.heap = h0 := by rw [← hh, Bd.state]; rfl
  have N0 := Fr.nil n0
  have pre0 : ∀ τ, Steps p.tables e below (s₁.setTop (mkF m 0 #[.val (.ref a1), .val (.ref b1), .unset] [])) τ → Steps p.tables e below (s₁.setTop (entryFrame m #[(.ref a1), (.ref b1)] 3)) τ := fun τ κ => castTop (ef_8p m a1 b1 f1 f2 u1 u2) κ
  have pre1 := fun τ (κ : Steps p.tables e below (s₁.setTop (mkF m 1 #[.val (.ref a1), .val (.ref b1), .unset] [(.ref b1)])) τ) => pre0 τ (by
    refine XS.aloadN X0.here hx rfl (hb hby d8_0) rfl rfl ?_
    show Steps p.tables e below (s₁.setTop (mkF m 1 #[.val (.ref a1), .val (.ref b1), .unset] [(.ref b1)])) _
    exact κ)
  obtain ⟨T2, X2, e2, st2⟩ := instY X0 hx hZ hown (hw _ (List.mem_of_getElem? (i := 49) rfl)) e0 (Ins.self E2) (g := (mkF m 1 #[.val (.ref a1), .val (.ref b1), .unset] [(.ref b1)])) rfl rfl (hb hby d8_1)
  have pre3 := fun τ (κ : Steps p.tables e below (T2.setTop (mkF m 4 #[.val (.ref a1), .val (.ref b1), .unset] [(.int (1 : Int32))])) τ) => pre1 τ (st2 _ κ)
  have pre4 := fun τ (κ : Steps p.tables e below (T2.setTop (mkF m 8 #[.val (.ref a1), .val (.ref b1), .unset] [(.ref b1)])) τ) => pre3 τ (by
    refine XS.ifNo X2.here hx rfl (hb hby d8_4) rfl ((if0 _ _).trans (feq (by decide)).1) ?_
    show Steps p.tables e below (T2.setTop (mkF m 7 #[.val (.ref a1), .val (.ref b1), .unset] [])) _
    refine XS.aloadN X2.here hx rfl (hb hby d8_7) rfl rfl ?_
    show Steps p.tables e below (T2.setTop (mkF m 8 #[.val (.ref a1), .val (.ref b1), .unset] [(.ref b1)])) _
    exact κ)
  obtain ⟨T5, X5, e5, st5⟩ := castY X2 hx hZ hown (hw _ (List.mem_of_getElem? (i := 49) rfl)) e2 (Ins.self E2) (g := (mkF m 8 #[.val (.ref a1), .val (.ref b1), .unset] [(.ref b1)])) rfl rfl (hb hby d8_8)
  have pre6 := fun τ (κ : Steps p.tables e below (T5.setTop (mkF m 11 #[.val (.ref a1), .val (.ref b1), .unset] [(.ref b1)])) τ) => pre4 τ (st5 _ κ)
  have pre7 := fun τ (κ : Steps p.tables e below (T5.setTop (mkF m 13 #[.val (.ref a1), .val (.ref b1), .val (.ref b1)] [(.ref b1)])) τ) => pre6 τ (by
    refine XS.astoreN X5.here hx rfl (hb hby d8_11) rfl rfl (l' := #[.val (.ref a1), .val (.ref b1), .val (.ref b1)]) rfl ?_
    show Steps p.tables e below (T5.setTop (mkF m 12 #[.val (.ref a1), .val (.ref b1), .val (.ref b1)] [])) _
    refine XS.aloadN X5.here hx rfl (hb hby d8_12) rfl rfl ?_
    show Steps p.tables e below (T5.setTop (mkF m 13 #[.val (.ref a1), .val (.ref b1), .val (.ref b1)] [(.ref b1)])) _
    exact κ)
  obtain ⟨T8, X8, e8, st8⟩ := getF X5 hx hZ hown (host := "") (Or.inl (hw _ (List.mem_of_getElem? (i := 40) rfl))) Via.refl e5 B1 (g := (mkF m 13 #[.val (.ref a1), .val (.ref b1), .val (.ref b1)] [(.ref b1)])) rfl rfl (hb hby d8_13)
  have pre9 := fun τ (κ : Steps p.tables e below (T8.setTop (mkF m 16 #[.val (.ref a1), .val (.ref b1), .val (.ref b1)] [u1])) τ) => pre7 τ (st8 _ κ)
  have pre10 := fun τ (κ : Steps p.tables e below (T8.setTop (mkF m 17 #[.val (.ref a1), .val (.ref b1), .val (.ref b1)] [(.ref a1), u1])) τ) => pre9 τ (by
    refine XS.aloadN X8.here hx rfl (hb hby d8_16) rfl rfl ?_
    show Steps p.tables e below (T8.setTop (mkF m 17 #[.val (.ref a1), .val (.ref b1), .val (.ref b1)] [(.ref a1), u1])) _
    exact κ)
  obtain ⟨T11, X11, e11, st11⟩ := getF X8 hx hZ hown (host := "") (Or.inl (hw _ (List.mem_of_getElem? (i := 40) rfl))) Via.refl e8 A1 (g := (mkF m 17 #[.val (.ref a1), .val (.ref b1), .val (.ref b1)] [(.ref a1), u1])) rfl rfl (hb hby d8_17)
  have pre12 := fun τ (κ : Steps p.tables e below (T11.setTop (mkF m 20 #[.val (.ref a1), .val (.ref b1), .val (.ref b1)] [f1, u1])) τ) => pre10 τ (st11 _ κ)
  by_cases q1 : u1 = f1
  · have pre13 := fun τ (κ : Steps p.tables e below (T11.setTop (mkF m 24 #[.val (.ref a1), .val (.ref b1), .val (.ref b1)] [(.ref b1)])) τ) => pre12 τ (by
      refine Jvm.RoadKit.acmp (g := (mkF m 20 #[.val (.ref a1), .val (.ref b1), .val (.ref b1)] [f1, u1])) X11 hx rfl r_u1 r_f1 (pc0 := 20) (pc' := 23) (same := true) rfl (hb hby d8_20) rfl (decide_eq_true q1) (by decide) (by decide) ?_
      show Steps p.tables e below (T11.setTop (mkF m 23 #[.val (.ref a1), .val (.ref b1), .val (.ref b1)] [])) _
      refine XS.aloadN X11.here hx rfl (hb hby d8_23) rfl rfl ?_
      show Steps p.tables e below (T11.setTop (mkF m 24 #[.val (.ref a1), .val (.ref b1), .val (.ref b1)] [(.ref b1)])) _
      exact κ)
    obtain ⟨T14, X14, e14, st14⟩ := getF X11 hx hZ hown (host := "") (Or.inl (hw _ (List.mem_of_getElem? (i := 42) rfl))) Via.refl e11 B2 (g := (mkF m 24 #[.val (.ref a1), .val (.ref b1), .val (.ref b1)] [(.ref b1)])) rfl rfl (hb hby d8_24)
    have pre15 := fun τ (κ : Steps p.tables e below (T14.setTop (mkF m 27 #[.val (.ref a1), .val (.ref b1), .val (.ref b1)] [u2])) τ) => pre13 τ (st14 _ κ)
    have pre16 := fun τ (κ : Steps p.tables e below (T14.setTop (mkF m 28 #[.val (.ref a1), .val (.ref b1), .val (.ref b1)] [(.ref a1), u2])) τ) => pre15 τ (by
      refine XS.aloadN X14.here hx rfl (hb hby d8_27) rfl rfl ?_
      show Steps p.tables e below (T14.setTop (mkF m 28 #[.val (.ref a1), .val (.ref b1), .val (.ref b1)] [(.ref a1), u2])) _
      exact κ)
    obtain ⟨T17, X17, e17, st17⟩ := getF X14 hx hZ hown (host := "") (Or.inl (hw _ (List.mem_of_getElem? (i := 42) rfl))) Via.refl e14 A2 (g := (mkF m 28 #[.val (.ref a1), .val (.ref b1), .val (.ref b1)] [(.ref a1), u2])) rfl rfl (hb hby d8_28)
    have pre18 := fun τ (κ : Steps p.tables e below (T17.setTop (mkF m 31 #[.val (.ref a1), .val (.ref b1), .val (.ref b1)] [f2, u2])) τ) => pre16 τ (st17 _ κ)
    by_cases q2 : u2 = f2
    · have pre19 := fun τ (κ : Steps p.tables e below (T17.setTop (mkF m 39 #[.val (.ref a1), .val (.ref b1), .val (.ref b1)] [(.int (1 : Int32))])) τ) => pre18 τ (by
        refine Jvm.RoadKit.acmp (g := (mkF m 31 #[.val (.ref a1), .val (.ref b1), .val (.ref b1)] [f2, u2])) X17 hx rfl r_u2 r_f2 (pc0 := 31) (pc' := 34) (same := true) rfl (hb hby d8_31) rfl (decide_eq_true q2) (by decide) (by decide) ?_
        show Steps p.tables e below (T17.setTop (mkF m 34 #[.val (.ref a1), .val (.ref b1), .val (.ref b1)] [])) _
        refine XS.iconst X17.here hx rfl (hb hby d8_34) ?_
        show Steps p.tables e below (T17.setTop (mkF m 35 #[.val (.ref a1), .val (.ref b1), .val (.ref b1)] [(.int (1 : Int32))])) _
        refine XS.goto X17.here hx rfl (pc0 := 35) (pc' := 39) rfl (hb hby d8_35) (by decide) (by decide) ?_
        show Steps p.tables e below (T17.setTop (mkF m 39 #[.val (.ref a1), .val (.ref b1), .val (.ref b1)] [(.int (1 : Int32))])) _
        exact κ)
      obtain ⟨fs, hr, hrun, hended, hW, hsame⟩ := X17.leave (v := some (.int (1 : Int32))) (fun h => by rw [Bd.returns] at h; cases h)
      refine ⟨_, _, pre19 _ ?_, hrun, hended, _, _, rfl, ?_, ⟨_, rfl⟩, hW, hsame.mono (by decide) (by decide)⟩
      · exact retN X17 hx (t := .boolean) Bd.returns (by simp) (hb hby d8_39) hr
      · show Q8p Z a1 b1 f1 f2 u1 u2 h0 n0 _ T17.heap _
        rw [e17]
        exact ⟨congrArg (fun z => some (Value.int z)) (if_pos ⟨q1, q2⟩).symm, N0, rfl⟩
    · have pre20 := fun τ (κ : Steps p.tables e below (T17.setTop (mkF m 39 #[.val (.ref a1), .val (.ref b1), .val (.ref b1)] [(.int (0 : Int32))])) τ) => pre18 τ (by
        refine Jvm.RoadKit.acmp (g := (mkF m 31 #[.val (.ref a1), .val (.ref b1), .val (.ref b1)] [f2, u2])) X17 hx rfl r_u2 r_f2 (pc0 := 31) (pc' := 38) (same := false) rfl (hb hby d8_31) rfl (decide_eq_false q2) (by decide) (by decide) ?_
        show Steps p.tables e below (T17.setTop (mkF m 38 #[.val (.ref a1), .val (.ref b1), .val (.ref b1)] [])) _
        refine XS.iconst X17.here hx rfl (hb hby d8_38) ?_
        show Steps p.tables e below (T17.setTop (mkF m 39 #[.val (.ref a1), .val (.ref b1), .val (.ref b1)] [(.int (0 : Int32))])) _
        exact κ)
      obtain ⟨fs, hr, hrun, hended, hW, hsame⟩ := X17.leave (v := some (.int (0 : Int32))) (fun h => by rw [Bd.returns] at h; cases h)
      refine ⟨_, _, pre20 _ ?_, hrun, hended, _, _, rfl, ?_, ⟨_, rfl⟩, hW, hsame.mono (by decide) (by decide)⟩
      · exact retN X17 hx (t := .boolean) Bd.returns (by simp) (hb hby d8_39) hr
      · show Q8p Z a1 b1 f1 f2 u1 u2 h0 n0 _ T17.heap _
        rw [e17]
        exact ⟨congrArg (fun z => some (Value.int z)) (if_neg fun z => q2 z.2).symm, N0, rfl⟩
  · have pre21 := fun τ (κ : Steps p.tables e below (T11.setTop (mkF m 39 #[.val (.ref a1), .val (.ref b1), .val (.ref b1)] [(.int (0 : Int32))])) τ) => pre12 τ (by
      refine Jvm.RoadKit.acmp (g := (mkF m 20 #[.val (.ref a1), .val (.ref b1), .val (.ref b1)] [f1, u1])) X11 hx rfl r_u1 r_f1 (pc0 := 20) (pc' := 38) (same := false) rfl (hb hby d8_20) rfl (decide_eq_false q1) (by decide) (by decide) ?_
      show Steps p.tables e below (T11.setTop (mkF m 38 #[.val (.ref a1), .val (.ref b1), .val (.ref b1)] [])) _
      refine XS.iconst X11.here hx rfl (hb hby d8_38) ?_
      show Steps p.tables e below (T11.setTop (mkF m 39 #[.val (.ref a1), .val (.ref b1), .val (.ref b1)] [(.int (0 : Int32))])) _
      exact κ)
    obtain ⟨fs, hr, hrun, hended, hW, hsame⟩ := X11.leave (v := some (.int (0 : Int32))) (fun h => by rw [Bd.returns] at h; cases h)
    refine ⟨_, _, pre21 _ ?_, hrun, hended, _, _, rfl, ?_, ⟨_, rfl⟩, hW, hsame.mono (by decide) (by decide)⟩
    · exact retN X11 hx (t := .boolean) Bd.returns (by simp) (hb hby d8_39) hr
    · show Q8p Z a1 b1 f1 f2 u1 u2 h0 n0 _ T11.heap _
      rw [e11]
      exact ⟨congrArg (fun z => some (Value.int z)) (if_neg fun z => q1 z.1).symm, N0, rfl⟩
theorem ef_0 (m : MethodId) (p0 : Int32) (p1 : Int32) (p2 : Int32) (p3 : Int32) (p4 : Int32) (p5 : Int32) (zc : Int32) : entryFrame m #[(.int p0), (.int p1), (.int p2), (.int p3), (.int p4), (.int p5)] maxLocals = mkF m 0 #[.val (.int p0), .val (.int p1), .val (.int p2), .val (.int p3), .val (.int p4), .val (.int p5), .unset, .unset, .unset, .unset, .unset, .unset, .unset, .unset, .unset, .unset, .unset, .unset] [] := by first | (simp [entryFrame, mkF, argsToLocals, Value.category, maxLocals]; done) | rfl
def Q0 (Z : State) (p0 : Int32) (p1 : Int32) (p2 : Int32) (p3 : Int32) (p4 : Int32) (p5 : Int32) (zc : Int32) (h0 : Heap) (n0 : Nat) (v : Option Value) (h : Heap) (L : List Loc) : Prop := v = some (.int 1) ∧ Fr n0 L
set_option maxRecDepth 65536 in
set_option maxHeartbeats 40000000 in
theorem rm0 (l : Launch) (Z : State) (a0 : Array Value) (hw : ∀ d ∈ tables_1, d.before a0 Z = true) (ws : List Jvm.Cond) (p0 : Int32) (p1 : Int32) (p2 : Int32) (p3 : Int32) (p4 : Int32) (p5 : Int32) (zc : Int32) (h0 : Heap) (n0 : Nat) (Z0 : n0 ≤ h0.size) (S8 : Sta Z Z.heap "java/lang/String" "COMPACT_STRINGS" "Z" (.int zc)) (c9 : ¬ zc = 0) (X00 : Old Z n0 h0) :
    MetFree l x (head1 (Jvm.Cond.code x code maxLocals ret :: ws) room_1) (fun α υ => α = #[(.int p0), (.int p1), (.int p2), (.int p3), (.int p4), (.int p5)] ∧ Z.Warmed39 υ.vm ∧ υ.heap = h0) (fun _ _ _ _ _ => True) (fun _ υ ω υ' => ∃ v L, ω = .returned v ∧ Q0 Z p0 p1 p2 p3 p4 p5 zc h0 n0 v υ'.heap L ∧ FrameEnd υ ω υ' L room_1.cells room_1.slots) := by
  refine MetFree.of_bodySF (plainFor_of_name pn_com_example_fettle_fettle_tree_IdentityPairEqualsPinLaw) hisR ?_
  intro p e s m args below meth c s₁ Bd hml0 hP hK
  obtain ⟨rfl, hZ, hh⟩ := hP
  have hx := Bd.exec
  have hby := Bd.bytes
  have hml : c.maxLocals = 18 := hml0
  have hown : s.vm.findClass "com/example/fettle/fettle/tree/IdentityPairEqualsPinLaw" = some m.cls := findClass_of_methodNamed Bd.named
  have hnm := (name_of_methodNamed Bd.named Bd.method).1
  have X0 : Stand p l e room_1 s m #[(.int p0), (.int p1), (.int p2), (.int p3), (.int p4), (.int p5)] below meth c s₁ [] 0 0 := Stand.of_body Bd
  have e0 : s₁.heap = h0 := by rw [← hh, Bd.state]; rfl
  have N0 := Fr.nil n0
  have pre0 : ∀ τ, Steps p.tables e below (s₁.setTop (mkF m 0 #[.val (.int p0), .val (.int p1), .val (.int p2), .val (.int p3), .val (.int p4), .val (.int p5), .unset, .unset, .unset, .unset, .unset, .unset, .unset, .unset, .unset, .unset, .unset, .unset] [])) τ → Steps p.tables e below (s₁.setTop (entryFrame m #[(.int p0), (.int p1), (.int p2), (.int p3), (.int p4), (.int p5)] maxLocals)) τ := fun τ κ => castTop (ef_0 m p0 p1 p2 p3 p4 p5 zc) κ
  have hws : ∀ d ∈ StrChars.Road.words, d.before a0 Z = true := fun d hd => hw d ((by decide +kernel : ∀ d ∈ StrChars.Road.words, d ∈ tables_1) d hd)
  have noS := own_nsno (hw _ (List.mem_of_getElem? (i := 51) rfl)) (hw _ (List.mem_of_getElem? (i := 34) rfl)) (NS.step (hw _ (List.mem_of_getElem? (i := 51) rfl)) (own_nsroot (hw _ (List.mem_of_getElem? (i := 52) rfl)) (hw _ (List.mem_of_getElem? (i := 34) rfl)) (by decide)) (by decide)) (by decide)
  have pre1 := fun τ (κ : Steps p.tables e below (s₁.setTop (mkF m 1 #[.val (.int p0), .val (.int p1), .val (.int p2), .val (.int p3), .val (.int p4), .val (.int p5), .unset, .unset, .unset, .unset, .unset, .unset, .unset, .unset, .unset, .unset, .unset, .unset] [(.int (1 : Int32))])) τ) => pre0 τ (by
    refine XS.iconst X0.here hx rfl (hb hby at_0) ?_
    show Steps p.tables e below (s₁.setTop (mkF m 1 #[.val (.int p0), .val (.int p1), .val (.int p2), .val (.int p3), .val (.int p4), .val (.int p5), .unset, .unset, .unset, .unset, .unset, .unset, .unset, .unset, .unset, .unset, .unset, .unset] [(.int (1 : Int32))])) _
    exact κ)
  obtain ⟨T2, h2, k2, X2, e2, E2, A2, st2⟩ := newP X0 hx hZ (hw _ (List.mem_of_getElem? (i := 0) rfl)) e0 (g := (mkF m 1 #[.val (.int p0), .val (.int p1), .val (.int p2), .val (.int p3), .val (.int p4), .val (.int p5), .unset, .unset, .unset, .unset, .unset, .unset, .unset, .unset, .unset, .unset, .unset, .unset] [(.int (1 : Int32))])) rfl (hb hby at_1) rfl (by decide) (cap := 1) (by decide) (by decide) (by decide) (by decide)
  obtain ⟨r1, g2⟩ : ∃ z, z = h0.size := ⟨_, rfl⟩
  rw [← g2] at A2 st2
  have g_r1 : n0 ≤ r1 := Nat.le_trans Z0 (Nat.le_of_eq g2.symm)
  have X00_2 : Old Z n0 h2 := X00.ext E2
  have Z2 : n0 ≤ h2.size := Nat.le_trans Z0 E2.1
  have V_r1_2 : Arv Z h2 r1 k2 .char (1 : Int32) [(.int (0 : Int32))] (.int (0 : Int32)) := (Arv.new A2 (by decide)).pad (pad_rep [] (.int (0 : Int32)) 1)
  have pre3 := fun τ (κ : Steps p.tables e below (T2.setTop (mkF m 3 #[.val (.int p0), .val (.int p1), .val (.int p2), .val (.int p3), .val (.int p4), .val (.int p5), .unset, .unset, .unset, .unset, .unset, .unset, .unset, .unset, .unset, .unset, .unset, .unset] [(.ref r1)])) τ) => pre1 τ (st2 _ κ)
  have pre4 := fun τ (κ : Steps p.tables e below (T2.setTop (mkF m 12 #[.val (.int p0), .val (.int p1), .val (.int p2), .val (.int p3), .val (.int p4), .val (.int p5), .unset, .unset, .unset, .unset, .unset, .unset, .unset, .unset, .unset, .unset, .unset, .unset] [(.int ((p5 &&& (255 : Int32)).toUInt32.toUInt16.toUInt32.toInt32)), (.int (0 : Int32)), (.ref r1), (.ref r1)])) τ) => pre3 τ (by
    refine XS.dup X2.here hx rfl (hb hby at_3) rfl rfl ?_
    show Steps p.tables e below (T2.setTop (mkF m 4 #[.val (.int p0), .val (.int p1), .val (.int p2), .val (.int p3), .val (.int p4), .val (.int p5), .unset, .unset, .unset, .unset, .unset, .unset, .unset, .unset, .unset, .unset, .unset, .unset] [(.ref r1), (.ref r1)])) _
    refine XS.iconst X2.here hx rfl (hb hby at_4) ?_
    show Steps p.tables e below (T2.setTop (mkF m 5 #[.val (.int p0), .val (.int p1), .val (.int p2), .val (.int p3), .val (.int p4), .val (.int p5), .unset, .unset, .unset, .unset, .unset, .unset, .unset, .unset, .unset, .unset, .unset, .unset] [(.int (0 : Int32)), (.ref r1), (.ref r1)])) _
    refine XS.iload X2.here hx rfl (hb hby at_5) rfl ?_
    show Steps p.tables e below (T2.setTop (mkF m 7 #[.val (.int p0), .val (.int p1), .val (.int p2), .val (.int p3), .val (.int p4), .val (.int p5), .unset, .unset, .unset, .unset, .unset, .unset, .unset, .unset, .unset, .unset, .unset, .unset] [(.int p5), (.int (0 : Int32)), (.ref r1), (.ref r1)])) _
    refine XS.sipush X2.here hx rfl (hb hby at_7) ?_
    show Steps p.tables e below (T2.setTop (mkF m 10 #[.val (.int p0), .val (.int p1), .val (.int p2), .val (.int p3), .val (.int p4), .val (.int p5), .unset, .unset, .unset, .unset, .unset, .unset, .unset, .unset, .unset, .unset, .unset, .unset] [(.int (255 : Int32)), (.int p5), (.int (0 : Int32)), (.ref r1), (.ref r1)])) _
    refine XS.iand X2.here hx rfl (hb hby at_10) rfl ?_
    show Steps p.tables e below (T2.setTop (mkF m 11 #[.val (.int p0), .val (.int p1), .val (.int p2), .val (.int p3), .val (.int p4), .val (.int p5), .unset, .unset, .unset, .unset, .unset, .unset, .unset, .unset, .unset, .unset, .unset, .unset] [(.int (p5 &&& (255 : Int32))), (.int (0 : Int32)), (.ref r1), (.ref r1)])) _
    refine XS.i2c X2.here hx rfl (hb hby at_11) rfl ?_
    show Steps p.tables e below (T2.setTop (mkF m 12 #[.val (.int p0), .val (.int p1), .val (.int p2), .val (.int p3), .val (.int p4), .val (.int p5), .unset, .unset, .unset, .unset, .unset, .unset, .unset, .unset, .unset, .unset, .unset, .unset] [(.int ((p5 &&& (255 : Int32)).toUInt32.toUInt16.toUInt32.toInt32)), (.int (0 : Int32)), (.ref r1), (.ref r1)])) _
    exact κ)
  obtain ⟨cl5, Ar5, q5, S5, M5, H5, G5⟩ := id V_r1_2
  have in5 : ¬ ((0 : Int32) < 0 ∨ cl5.slots.size ≤ ((0 : Int32)).toNatClampNeg) := inb_of S5 ⟨by decide, by decide⟩
  obtain ⟨T6, h6, X6, e6, W6, st6⟩ := stC X2 hx hZ e2 Ar5 (j := (0 : Int32)) in5 (g := (mkF m 12 #[.val (.int p0), .val (.int p1), .val (.int p2), .val (.int p3), .val (.int p4), .val (.int p5), .unset, .unset, .unset, .unset, .unset, .unset, .unset, .unset, .unset, .unset, .unset, .unset] [(.int ((p5 &&& (255 : Int32)).toUInt32.toUInt16.toUInt32.toInt32)), (.int (0 : Int32)), (.ref r1), (.ref r1)])) rfl rfl (hb hby at_12)
  have X00_6 : Old Z n0 h6 := X00_2.wr W6 g_r1
  have N6 := Fr.snoc X6 N0 g_r1
  have Z6 : n0 ≤ h6.size := Nat.le_trans Z2 (Keep.of_wr W6).1
  have V_r1_6 : Arv Z h6 r1 k2 .char (1 : Int32) [(.int (nar .char ((p5 &&& (255 : Int32)).toUInt32.toUInt16.toUInt32.toInt32)))] (.int (0 : Int32)) := Arv.set Ar5 q5 S5 M5 H5 G5 (fits_nar_char _) W6 0 rfl (Nat.le_of_ble_eq_true rfl)
  have pre7 := fun τ (κ : Steps p.tables e below (T6.setTop (mkF m 13 #[.val (.int p0), .val (.int p1), .val (.int p2), .val (.int p3), .val (.int p4), .val (.int p5), .unset, .unset, .unset, .unset, .unset, .unset, .unset, .unset, .unset, .unset, .unset, .unset] [(.ref r1)])) τ) => pre4 τ (st6 _ κ)
  have pre8 := fun τ (κ : Steps p.tables e below (T6.setTop (mkF m 16 #[.val (.int p0), .val (.int p1), .val (.int p2), .val (.int p3), .val (.int p4), .val (.int p5), .val (.ref r1), .unset, .unset, .unset, .unset, .unset, .unset, .unset, .unset, .unset, .unset, .unset] [(.int (1 : Int32))])) τ) => pre7 τ (by
    refine XS.astore X6.here hx rfl (hb hby at_13) rfl rfl (l' := #[.val (.int p0), .val (.int p1), .val (.int p2), .val (.int p3), .val (.int p4), .val (.int p5), .val (.ref r1), .unset, .unset, .unset, .unset, .unset, .unset, .unset, .unset, .unset, .unset, .unset]) rfl ?_
    show Steps p.tables e below (T6.setTop (mkF m 15 #[.val (.int p0), .val (.int p1), .val (.int p2), .val (.int p3), .val (.int p4), .val (.int p5), .val (.ref r1), .unset, .unset, .unset, .unset, .unset, .unset, .unset, .unset, .unset, .unset, .unset] [])) _
    refine XS.iconst X6.here hx rfl (hb hby at_15) ?_
    show Steps p.tables e below (T6.setTop (mkF m 16 #[.val (.int p0), .val (.int p1), .val (.int p2), .val (.int p3), .val (.int p4), .val (.int p5), .val (.ref r1), .unset, .unset, .unset, .unset, .unset, .unset, .unset, .unset, .unset, .unset, .unset] [(.int (1 : Int32))])) _
    exact κ)
  obtain ⟨T9, h9, k9, X9, e9, E9, A9, st9⟩ := newP X6 hx hZ (hw _ (List.mem_of_getElem? (i := 0) rfl)) e6 (g := (mkF m 16 #[.val (.int p0), .val (.int p1), .val (.int p2), .val (.int p3), .val (.int p4), .val (.int p5), .val (.ref r1), .unset, .unset, .unset, .unset, .unset, .unset, .unset, .unset, .unset, .unset, .unset] [(.int (1 : Int32))])) rfl (hb hby at_16) rfl (by decide) (cap := 1) (by decide) (by decide) (by decide) (by decide)
  obtain ⟨r2, g9⟩ : ∃ z, z = h6.size := ⟨_, rfl⟩
  rw [← g9] at A9 st9
  have g_r2 : n0 ≤ r2 := Nat.le_trans Z6 (Nat.le_of_eq g9.symm)
  have ne_r1_r2 : r1 ≠ r2 := Nat.ne_of_lt (Nat.lt_of_lt_of_le V_r1_6.lt (Nat.le_of_eq g9.symm))
  have X00_9 : Old Z n0 h9 := X00_6.ext E9
  have V_r1_9 : Arv Z h9 r1 k2 .char (1 : Int32) [(.int (nar .char ((p5 &&& (255 : Int32)).toUInt32.toUInt16.toUInt32.toInt32)))] (.int (0 : Int32)) := V_r1_6.ext E9
  have Z9 : n0 ≤ h9.size := Nat.le_trans Z6 E9.1
  have V_r2_9 : Arv Z h9 r2 k9 .char (1 : Int32) [(.int (0 : Int32))] (.int (0 : Int32)) := (Arv.new A9 (by decide)).pad (pad_rep [] (.int (0 : Int32)) 1)
  have pre10 := fun τ (κ : Steps p.tables e below (T9.setTop (mkF m 18 #[.val (.int p0), .val (.int p1), .val (.int p2), .val (.int p3), .val (.int p4), .val (.int p5), .val (.ref r1), .unset, .unset, .unset, .unset, .unset, .unset, .unset, .unset, .unset, .unset, .unset] [(.ref r2)])) τ) => pre8 τ (st9 _ κ)
  have pre11 := fun τ (κ : Steps p.tables e below (T9.setTop (mkF m 30 #[.val (.int p0), .val (.int p1), .val (.int p2), .val (.int p3), .val (.int p4), .val (.int p5), .val (.ref r1), .unset, .unset, .unset, .unset, .unset, .unset, .unset, .unset, .unset, .unset, .unset] [(.int ((((p5.toUInt32 >>> ((8 : Int32) &&& 31).toUInt32).toInt32) &&& (255 : Int32)).toUInt32.toUInt16.toUInt32.toInt32)), (.int (0 : Int32)), (.ref r2), (.ref r2)])) τ) => pre10 τ (by
    refine XS.dup X9.here hx rfl (hb hby at_18) rfl rfl ?_
    show Steps p.tables e below (T9.setTop (mkF m 19 #[.val (.int p0), .val (.int p1), .val (.int p2), .val (.int p3), .val (.int p4), .val (.int p5), .val (.ref r1), .unset, .unset, .unset, .unset, .unset, .unset, .unset, .unset, .unset, .unset, .unset] [(.ref r2), (.ref r2)])) _
    refine XS.iconst X9.here hx rfl (hb hby at_19) ?_
    show Steps p.tables e below (T9.setTop (mkF m 20 #[.val (.int p0), .val (.int p1), .val (.int p2), .val (.int p3), .val (.int p4), .val (.int p5), .val (.ref r1), .unset, .unset, .unset, .unset, .unset, .unset, .unset, .unset, .unset, .unset, .unset] [(.int (0 : Int32)), (.ref r2), (.ref r2)])) _
    refine XS.iload X9.here hx rfl (hb hby at_20) rfl ?_
    show Steps p.tables e below (T9.setTop (mkF m 22 #[.val (.int p0), .val (.int p1), .val (.int p2), .val (.int p3), .val (.int p4), .val (.int p5), .val (.ref r1), .unset, .unset, .unset, .unset, .unset, .unset, .unset, .unset, .unset, .unset, .unset] [(.int p5), (.int (0 : Int32)), (.ref r2), (.ref r2)])) _
    refine XS.bipush X9.here hx rfl (hb hby at_22) ?_
    show Steps p.tables e below (T9.setTop (mkF m 24 #[.val (.int p0), .val (.int p1), .val (.int p2), .val (.int p3), .val (.int p4), .val (.int p5), .val (.ref r1), .unset, .unset, .unset, .unset, .unset, .unset, .unset, .unset, .unset, .unset, .unset] [(.int (8 : Int32)), (.int p5), (.int (0 : Int32)), (.ref r2), (.ref r2)])) _
    refine XS.iushr X9.here hx rfl (hb hby at_24) rfl ?_
    show Steps p.tables e below (T9.setTop (mkF m 25 #[.val (.int p0), .val (.int p1), .val (.int p2), .val (.int p3), .val (.int p4), .val (.int p5), .val (.ref r1), .unset, .unset, .unset, .unset, .unset, .unset, .unset, .unset, .unset, .unset, .unset] [(.int ((p5.toUInt32 >>> ((8 : Int32) &&& 31).toUInt32).toInt32)), (.int (0 : Int32)), (.ref r2), (.ref r2)])) _
    refine XS.sipush X9.here hx rfl (hb hby at_25) ?_
    show Steps p.tables e below (T9.setTop (mkF m 28 #[.val (.int p0), .val (.int p1), .val (.int p2), .val (.int p3), .val (.int p4), .val (.int p5), .val (.ref r1), .unset, .unset, .unset, .unset, .unset, .unset, .unset, .unset, .unset, .unset, .unset] [(.int (255 : Int32)), (.int ((p5.toUInt32 >>> ((8 : Int32) &&& 31).toUInt32).toInt32)), (.int (0 : Int32)), (.ref r2), (.ref r2)])) _
    refine XS.iand X9.here hx rfl (hb hby at_28) rfl ?_
    show Steps p.tables e below (T9.setTop (mkF m 29 #[.val (.int p0), .val (.int p1), .val (.int p2), .val (.int p3), .val (.int p4), .val (.int p5), .val (.ref r1), .unset, .unset, .unset, .unset, .unset, .unset, .unset, .unset, .unset, .unset, .unset] [(.int (((p5.toUInt32 >>> ((8 : Int32) &&& 31).toUInt32).toInt32) &&& (255 : Int32))), (.int (0 : Int32)), (.ref r2), (.ref r2)])) _
    refine XS.i2c X9.here hx rfl (hb hby at_29) rfl ?_
    show Steps p.tables e below (T9.setTop (mkF m 30 #[.val (.int p0), .val (.int p1), .val (.int p2), .val (.int p3), .val (.int p4), .val (.int p5), .val (.ref r1), .unset, .unset, .unset, .unset, .unset, .unset, .unset, .unset, .unset, .unset, .unset] [(.int ((((p5.toUInt32 >>> ((8 : Int32) &&& 31).toUInt32).toInt32) &&& (255 : Int32)).toUInt32.toUInt16.toUInt32.toInt32)), (.int (0 : Int32)), (.ref r2), (.ref r2)])) _
    exact κ)
  obtain ⟨cl12, Ar12, q12, S12, M12, H12, G12⟩ := id V_r2_9
  have in12 : ¬ ((0 : Int32) < 0 ∨ cl12.slots.size ≤ ((0 : Int32)).toNatClampNeg) := inb_of S12 ⟨by decide, by decide⟩
  obtain ⟨T13, h13, X13, e13, W13, st13⟩ := stC X9 hx hZ e9 Ar12 (j := (0 : Int32)) in12 (g := (mkF m 30 #[.val (.int p0), .val (.int p1), .val (.int p2), .val (.int p3), .val (.int p4), .val (.int p5), .val (.ref r1), .unset, .unset, .unset, .unset, .unset, .unset, .unset, .unset, .unset, .unset, .unset] [(.int ((((p5.toUInt32 >>> ((8 : Int32) &&& 31).toUInt32).toInt32) &&& (255 : Int32)).toUInt32.toUInt16.toUInt32.toInt32)), (.int (0 : Int32)), (.ref r2), (.ref r2)])) rfl rfl (hb hby at_30)
  have X00_13 : Old Z n0 h13 := X00_9.wr W13 g_r2
  have V_r1_13 : Arv Z h13 r1 k2 .char (1 : Int32) [(.int (nar .char ((p5 &&& (255 : Int32)).toUInt32.toUInt16.toUInt32.toInt32)))] (.int (0 : Int32)) := V_r1_9.other W13 ne_r1_r2
  have N13 := Fr.snoc X13 N6 g_r2
  have Z13 : n0 ≤ h13.size := Nat.le_trans Z9 (Keep.of_wr W13).1
  have V_r2_13 : Arv Z h13 r2 k9 .char (1 : Int32) [(.int (nar .char ((((p5.toUInt32 >>> ((8 : Int32) &&& 31).toUInt32).toInt32) &&& (255 : Int32)).toUInt32.toUInt16.toUInt32.toInt32)))] (.int (0 : Int32)) := Arv.set Ar12 q12 S12 M12 H12 G12 (fits_nar_char _) W13 0 rfl (Nat.le_of_ble_eq_true rfl)
  have pre14 := fun τ (κ : Steps p.tables e below (T13.setTop (mkF m 31 #[.val (.int p0), .val (.int p1), .val (.int p2), .val (.int p3), .val (.int p4), .val (.int p5), .val (.ref r1), .unset, .unset, .unset, .unset, .unset, .unset, .unset, .unset, .unset, .unset, .unset] [(.ref r2)])) τ) => pre11 τ (st13 _ κ)
  have pre15 := fun τ (κ : Steps p.tables e below (T13.setTop (mkF m 34 #[.val (.int p0), .val (.int p1), .val (.int p2), .val (.int p3), .val (.int p4), .val (.int p5), .val (.ref r1), .val (.ref r2), .unset, .unset, .unset, .unset, .unset, .unset, .unset, .unset, .unset, .unset] [(.int (4 : Int32))])) τ) => pre14 τ (by
    refine XS.astore X13.here hx rfl (hb hby at_31) rfl rfl (l' := #[.val (.int p0), .val (.int p1), .val (.int p2), .val (.int p3), .val (.int p4), .val (.int p5), .val (.ref r1), .val (.ref r2), .unset, .unset, .unset, .unset, .unset, .unset, .unset, .unset, .unset, .unset]) rfl ?_
    show Steps p.tables e below (T13.setTop (mkF m 33 #[.val (.int p0), .val (.int p1), .val (.int p2), .val (.int p3), .val (.int p4), .val (.int p5), .val (.ref r1), .val (.ref r2), .unset, .unset, .unset, .unset, .unset, .unset, .unset, .unset, .unset, .unset] [])) _
    refine XS.iconst X13.here hx rfl (hb hby at_33) ?_
    show Steps p.tables e below (T13.setTop (mkF m 34 #[.val (.int p0), .val (.int p1), .val (.int p2), .val (.int p3), .val (.int p4), .val (.int p5), .val (.ref r1), .val (.ref r2), .unset, .unset, .unset, .unset, .unset, .unset, .unset, .unset, .unset, .unset] [(.int (4 : Int32))])) _
    exact κ)
  obtain ⟨T16, h16, k16, X16, e16, E16, A16, O16, st16⟩ := newR X13 hx hZ hown (hw _ (List.mem_of_getElem? (i := 1) rfl)) (hw _ (List.mem_of_getElem? (i := 2) rfl)) e13 (g := (mkF m 34 #[.val (.int p0), .val (.int p1), .val (.int p2), .val (.int p3), .val (.int p4), .val (.int p5), .val (.ref r1), .val (.ref r2), .unset, .unset, .unset, .unset, .unset, .unset, .unset, .unset, .unset, .unset] [(.int (4 : Int32))])) rfl (hb hby at_34) rfl (by decide) (cap := 4) (by decide) (by decide) (by decide) (by decide)
  obtain ⟨pl, g16⟩ : ∃ z, z = h13.size := ⟨_, rfl⟩
  rw [← g16] at A16 st16
  have g_pl : n0 ≤ pl := Nat.le_trans Z13 (Nat.le_of_eq g16.symm)
  have ne_r1_pl : r1 ≠ pl := Nat.ne_of_lt (Nat.lt_of_lt_of_le V_r1_13.lt (Nat.le_of_eq g16.symm))
  have ne_r2_pl : r2 ≠ pl := Nat.ne_of_lt (Nat.lt_of_lt_of_le V_r2_13.lt (Nat.le_of_eq g16.symm))
  have X00_16 : Old Z n0 h16 := X00_13.ext E16
  have V_r1_16 : Arv Z h16 r1 k2 .char (1 : Int32) [(.int (nar .char ((p5 &&& (255 : Int32)).toUInt32.toUInt16.toUInt32.toInt32)))] (.int (0 : Int32)) := V_r1_13.ext E16
  have V_r2_16 : Arv Z h16 r2 k9 .char (1 : Int32) [(.int (nar .char ((((p5.toUInt32 >>> ((8 : Int32) &&& 31).toUInt32).toInt32) &&& (255 : Int32)).toUInt32.toUInt16.toUInt32.toInt32)))] (.int (0 : Int32)) := V_r2_13.ext E16
  have Z16 : n0 ≤ h16.size := Nat.le_trans Z13 E16.1
  have V_pl_16 : Arv Z h16 pl k16 (.object "java/lang/Object") (4 : Int32) [.null, .null, .null, .null] .null := (Arv.new A16 (by decide)).pad (pad_rep [] .null 4)
  have pre17 := fun τ (κ : Steps p.tables e below (T16.setTop (mkF m 37 #[.val (.int p0), .val (.int p1), .val (.int p2), .val (.int p3), .val (.int p4), .val (.int p5), .val (.ref r1), .val (.ref r2), .unset, .unset, .unset, .unset, .unset, .unset, .unset, .unset, .unset, .unset] [(.ref pl)])) τ) => pre15 τ (st16 _ κ)
  have pre18 := fun τ (κ : Steps p.tables e below (T16.setTop (mkF m 39 #[.val (.int p0), .val (.int p1), .val (.int p2), .val (.int p3), .val (.int p4), .val (.int p5), .val (.ref r1), .val (.ref r2), .unset, .unset, .unset, .unset, .unset, .unset, .unset, .unset, .unset, .unset] [(.int (0 : Int32)), (.ref pl), (.ref pl)])) τ) => pre17 τ (by
    refine XS.dup X16.here hx rfl (hb hby at_37) rfl rfl ?_
    show Steps p.tables e below (T16.setTop (mkF m 38 #[.val (.int p0), .val (.int p1), .val (.int p2), .val (.int p3), .val (.int p4), .val (.int p5), .val (.ref r1), .val (.ref r2), .unset, .unset, .unset, .unset, .unset, .unset, .unset, .unset, .unset, .unset] [(.ref pl), (.ref pl)])) _
    refine XS.iconst X16.here hx rfl (hb hby at_38) ?_
    show Steps p.tables e below (T16.setTop (mkF m 39 #[.val (.int p0), .val (.int p1), .val (.int p2), .val (.int p3), .val (.int p4), .val (.int p5), .val (.ref r1), .val (.ref r2), .unset, .unset, .unset, .unset, .unset, .unset, .unset, .unset, .unset, .unset] [(.int (0 : Int32)), (.ref pl), (.ref pl)])) _
    exact κ)
  obtain ⟨T19, h19, X19, e19, E19, A19, D19, -, st19⟩ := newO X16 hx hZ hown (hw _ (List.mem_of_getElem? (i := 3) rfl)) (hw _ (List.mem_of_getElem? (i := 4) rfl)) (hw _ (List.mem_of_getElem? (i := 5) rfl)) e16 (g := (mkF m 39 #[.val (.int p0), .val (.int p1), .val (.int p2), .val (.int p3), .val (.int p4), .val (.int p5), .val (.ref r1), .val (.ref r2), .unset, .unset, .unset, .unset, .unset, .unset, .unset, .unset, .unset, .unset] [(.int (0 : Int32)), (.ref pl), (.ref pl)])) rfl (hb hby at_39) (by decide) (by decide)
  obtain ⟨s1, g19⟩ : ∃ z, z = h16.size := ⟨_, rfl⟩
  rw [← g19] at A19 D19 st19
  have g_s1 : n0 ≤ s1 := Nat.le_trans Z16 (Nat.le_of_eq g19.symm)
  have ne_r1_s1 : r1 ≠ s1 := Nat.ne_of_lt (Nat.lt_of_lt_of_le V_r1_16.lt (Nat.le_of_eq g19.symm))
  have ne_r2_s1 : r2 ≠ s1 := Nat.ne_of_lt (Nat.lt_of_lt_of_le V_r2_16.lt (Nat.le_of_eq g19.symm))
  have ne_pl_s1 : pl ≠ s1 := Nat.ne_of_lt (Nat.lt_of_lt_of_le V_pl_16.lt (Nat.le_of_eq g19.symm))
  have X00_19 : Old Z n0 h19 := X00_16.ext E19
  have V_r1_19 : Arv Z h19 r1 k2 .char (1 : Int32) [(.int (nar .char ((p5 &&& (255 : Int32)).toUInt32.toUInt16.toUInt32.toInt32)))] (.int (0 : Int32)) := V_r1_16.ext E19
  have V_r2_19 : Arv Z h19 r2 k9 .char (1 : Int32) [(.int (nar .char ((((p5.toUInt32 >>> ((8 : Int32) &&& 31).toUInt32).toInt32) &&& (255 : Int32)).toUInt32.toUInt16.toUInt32.toInt32)))] (.int (0 : Int32)) := V_r2_16.ext E19
  have V_pl_19 : Arv Z h19 pl k16 (.object "java/lang/Object") (4 : Int32) [.null, .null, .null, .null] .null := V_pl_16.ext E19
  have Z19 : n0 ≤ h19.size := Nat.le_trans Z16 E19.1
  have F_coder_s1_19 : Fld Z h19 s1 "java/lang/String" "coder" "B" (.int (0 : Int32)) := D19 (Or.inr (hw _ (List.mem_of_getElem? (i := 29) rfl))) (ty := .byte) (by decide)
  have F_value_s1_19 : Fld Z h19 s1 "java/lang/String" "value" "[B" .null := D19 (Or.inr (hw _ (List.mem_of_getElem? (i := 31) rfl))) (ty := (.array .byte)) (by decide)
  have pre20 := fun τ (κ : Steps p.tables e below (T19.setTop (mkF m 42 #[.val (.int p0), .val (.int p1), .val (.int p2), .val (.int p3), .val (.int p4), .val (.int p5), .val (.ref r1), .val (.ref r2), .unset, .unset, .unset, .unset, .unset, .unset, .unset, .unset, .unset, .unset] [(.ref s1), (.int (0 : Int32)), (.ref pl), (.ref pl)])) τ) => pre18 τ (st19 _ κ)
  have pre21 := fun τ (κ : Steps p.tables e below (T19.setTop (mkF m 45 #[.val (.int p0), .val (.int p1), .val (.int p2), .val (.int p3), .val (.int p4), .val (.int p5), .val (.ref r1), .val (.ref r2), .unset, .unset, .unset, .unset, .unset, .unset, .unset, .unset, .unset, .unset] [(.ref r1), (.ref s1), (.ref s1), (.int (0 : Int32)), (.ref pl), (.ref pl)])) τ) => pre20 τ (by
    refine XS.dup X19.here hx rfl (hb hby at_42) rfl rfl ?_
    show Steps p.tables e below (T19.setTop (mkF m 43 #[.val (.int p0), .val (.int p1), .val (.int p2), .val (.int p3), .val (.int p4), .val (.int p5), .val (.ref r1), .val (.ref r2), .unset, .unset, .unset, .unset, .unset, .unset, .unset, .unset, .unset, .unset] [(.ref s1), (.ref s1), (.int (0 : Int32)), (.ref pl), (.ref pl)])) _
    refine XS.aload X19.here hx rfl (hb hby at_43) rfl rfl ?_
    show Steps p.tables e below (T19.setTop (mkF m 45 #[.val (.int p0), .val (.int p1), .val (.int p2), .val (.int p3), .val (.int p4), .val (.int p5), .val (.ref r1), .val (.ref r2), .unset, .unset, .unset, .unset, .unset, .unset, .unset, .unset, .unset, .unset] [(.ref r1), (.ref s1), (.ref s1), (.int (0 : Int32)), (.ref pl), (.ref pl)])) _
    exact κ)
  have hlat_s1 : ∀ c ∈ [nar .char ((p5 &&& (255 : Int32)).toUInt32.toUInt16.toUInt32.toInt32)], ¬ c < 0 ∧ ¬ (255 : Int32) < c := by
    intro c hc
    simp only [List.mem_cons, List.not_mem_nil, or_false] at hc
    rcases hc with rfl
    · exact own_lat (own_and255 p5).1 (own_and255 p5).2
  obtain ⟨_, _, ⟨T22, L22, k22, n22⟩, -, X22, ⟨Lc22, hQ22, l22, y22, z22⟩, st22⟩ := X19.specialBack hx (y := (⟨"java/lang/String", "<init>", "([C)V"⟩ : MethodName)) rfl hown (mvT hZ (hw _ (List.mem_of_getElem? (i := 6) rfl))) (mvT hZ (hw _ (List.mem_of_getElem? (i := 7) rfl))) (mvT hZ (hw _ (List.mem_of_getElem? (i := 8) rfl))) (by decide) (StrChars.Road.backV (W := 4) hZ hws (kI := 4) (hw _ (List.mem_of_getElem? (i := 4) rfl)) (cs := [nar .char ((p5 &&& (255 : Int32)).toUInt32.toUInt16.toUInt32.toInt32)]) (n := 1) g_s1 Z19 A19 F_value_s1_19 F_coder_s1_19 V_r1_19 (S8.ext X00_19.2) c9 rfl rfl (by decide) (by decide) hlat_s1 rfl (by decide) (by decide)) (g := (mkF m 45 #[.val (.int p0), .val (.int p1), .val (.int p2), .val (.int p3), .val (.int p4), .val (.int p5), .val (.ref r1), .val (.ref r2), .unset, .unset, .unset, .unset, .unset, .unset, .unset, .unset, .unset, .unset] [(.ref r1), (.ref s1), (.ref s1), (.int (0 : Int32)), (.ref pl), (.ref pl)])) rfl (by rw [hml]; rfl) (Steps.refl _) (a := s1) (argsL := [(.ref r1)]) (rest := [(.ref s1), (.int (0 : Int32)), (.ref pl), (.ref pl)]) (lenOf pd_0 rfl) rfl (by show 2 * 0 + _ ≤ _; exact Nat.le_of_eq rfl) (hb hby at_45) (fun _ _ => ⟨rfl, e19, (by decide : 4 + 1 ≤ _), (by decide : 10 + 1 ≤ _)⟩)
  dsimp only [Pt.U, Pt.locs, Pt.cells, Pt.slots] at X22 l22 y22 z22 st22 hQ22
  subst l22 y22 z22
  obtain ⟨rfl, Nq22, K22, Es22, Fc22, tb_s1, kb_s1, gt22, zt22, nt22, Fv22, Vb22⟩ := hQ22
  have X00_22 : Old Z n0 T22.heap := X00_19.keep K22 (allS g_s1 all0)
  have V_r1_22 : Arv Z T22.heap r1 k2 .char (1 : Int32) [(.int (nar .char ((p5 &&& (255 : Int32)).toUInt32.toUInt16.toUInt32.toInt32)))] (.int (0 : Int32)) := V_r1_19.keep K22 (ninS ne_r1_s1 nin0)
  have V_r2_22 : Arv Z T22.heap r2 k9 .char (1 : Int32) [(.int (nar .char ((((p5.toUInt32 >>> ((8 : Int32) &&& 31).toUInt32).toInt32) &&& (255 : Int32)).toUInt32.toUInt16.toUInt32.toInt32)))] (.int (0 : Int32)) := V_r2_19.keep K22 (ninS ne_r2_s1 nin0)
  have V_pl_22 : Arv Z T22.heap pl k16 (.object "java/lang/Object") (4 : Int32) [.null, .null, .null, .null] .null := V_pl_19.keep K22 (ninS ne_pl_s1 nin0)
  have A19_22 : Exa Z T22.heap s1 "java/lang/String" := A19.keep K22
  have Z22 : n0 ≤ T22.heap.size := Nat.le_trans Z19 K22.1
  have N22 := Fr.app N13 Nq22
  have pre23 := fun τ (κ : Steps p.tables e below (T22.setTop (mkF m 48 #[.val (.int p0), .val (.int p1), .val (.int p2), .val (.int p3), .val (.int p4), .val (.int p5), .val (.ref r1), .val (.ref r2), .unset, .unset, .unset, .unset, .unset, .unset, .unset, .unset, .unset, .unset] [(.ref s1), (.int (0 : Int32)), (.ref pl), (.ref pl)])) τ) => pre21 τ (st22.trans κ)
  obtain ⟨cl24, Ar24, q24, S24, M24, H24, G24⟩ := id V_pl_22
  have in24 : ¬ ((0 : Int32) < 0 ∨ cl24.slots.size ≤ ((0 : Int32)).toNatClampNeg) := inb_of S24 ⟨by decide, by decide⟩
  obtain ⟨T25, h25, X25, e25, W25, st25⟩ := stR X22 hx hZ rfl Ar24 (j := (0 : Int32)) in24 rfl (Sto.ofV Ar24 q24 O16 (Ins.of_exa Es22 (hw _ (List.mem_of_getElem? (i := 32) rfl)))) (g := (mkF m 48 #[.val (.int p0), .val (.int p1), .val (.int p2), .val (.int p3), .val (.int p4), .val (.int p5), .val (.ref r1), .val (.ref r2), .unset, .unset, .unset, .unset, .unset, .unset, .unset, .unset, .unset, .unset] [(.ref s1), (.int (0 : Int32)), (.ref pl), (.ref pl)])) rfl rfl (hb hby at_48)
  have X00_25 : Old Z n0 h25 := X00_22.wr W25 g_pl
  have V_r1_25 : Arv Z h25 r1 k2 .char (1 : Int32) [(.int (nar .char ((p5 &&& (255 : Int32)).toUInt32.toUInt16.toUInt32.toInt32)))] (.int (0 : Int32)) := V_r1_22.other W25 ne_r1_pl
  have V_r2_25 : Arv Z h25 r2 k9 .char (1 : Int32) [(.int (nar .char ((((p5.toUInt32 >>> ((8 : Int32) &&& 31).toUInt32).toInt32) &&& (255 : Int32)).toUInt32.toUInt16.toUInt32.toInt32)))] (.int (0 : Int32)) := V_r2_22.other W25 ne_r2_pl
  have Es22_25 : Exa Z h25 s1 "java/lang/String" := Es22.wr W25
  have N25 := Fr.snoc X25 N22 g_pl
  have Z25 : n0 ≤ h25.size := Nat.le_trans Z22 (Keep.of_wr W25).1
  have V_pl_25 : Arv Z h25 pl k16 (.object "java/lang/Object") (4 : Int32) [(.ref s1), .null, .null, .null] .null := Arv.set Ar24 q24 S24 M24 H24 G24 rfl W25 0 rfl (Nat.le_of_ble_eq_true rfl)
  have pre26 := fun τ (κ : Steps p.tables e below (T25.setTop (mkF m 49 #[.val (.int p0), .val (.int p1), .val (.int p2), .val (.int p3), .val (.int p4), .val (.int p5), .val (.ref r1), .val (.ref r2), .unset, .unset, .unset, .unset, .unset, .unset, .unset, .unset, .unset, .unset] [(.ref pl)])) τ) => pre23 τ (st25 _ κ)
  have pre27 := fun τ (κ : Steps p.tables e below (T25.setTop (mkF m 51 #[.val (.int p0), .val (.int p1), .val (.int p2), .val (.int p3), .val (.int p4), .val (.int p5), .val (.ref r1), .val (.ref r2), .unset, .unset, .unset, .unset, .unset, .unset, .unset, .unset, .unset, .unset] [(.int (1 : Int32)), (.ref pl), (.ref pl)])) τ) => pre26 τ (by
    refine XS.dup X25.here hx rfl (hb hby at_49) rfl rfl ?_
    show Steps p.tables e below (T25.setTop (mkF m 50 #[.val (.int p0), .val (.int p1), .val (.int p2), .val (.int p3), .val (.int p4), .val (.int p5), .val (.ref r1), .val (.ref r2), .unset, .unset, .unset, .unset, .unset, .unset, .unset, .unset, .unset, .unset] [(.ref pl), (.ref pl)])) _
    refine XS.iconst X25.here hx rfl (hb hby at_50) ?_
    show Steps p.tables e below (T25.setTop (mkF m 51 #[.val (.int p0), .val (.int p1), .val (.int p2), .val (.int p3), .val (.int p4), .val (.int p5), .val (.ref r1), .val (.ref r2), .unset, .unset, .unset, .unset, .unset, .unset, .unset, .unset, .unset, .unset] [(.int (1 : Int32)), (.ref pl), (.ref pl)])) _
    exact κ)
  obtain ⟨T28, h28, X28, e28, E28, A28, D28, -, st28⟩ := newO X25 hx hZ hown (hw _ (List.mem_of_getElem? (i := 3) rfl)) (hw _ (List.mem_of_getElem? (i := 4) rfl)) (hw _ (List.mem_of_getElem? (i := 5) rfl)) e25 (g := (mkF m 51 #[.val (.int p0), .val (.int p1), .val (.int p2), .val (.int p3), .val (.int p4), .val (.int p5), .val (.ref r1), .val (.ref r2), .unset, .unset, .unset, .unset, .unset, .unset, .unset, .unset, .unset, .unset] [(.int (1 : Int32)), (.ref pl), (.ref pl)])) rfl (hb hby at_51) (by decide) (by decide)
  obtain ⟨s2, g28⟩ : ∃ z, z = h25.size := ⟨_, rfl⟩
  rw [← g28] at A28 D28 st28
  have g_s2 : n0 ≤ s2 := Nat.le_trans Z25 (Nat.le_of_eq g28.symm)
  have ne_r1_s2 : r1 ≠ s2 := Nat.ne_of_lt (Nat.lt_of_lt_of_le V_r1_25.lt (Nat.le_of_eq g28.symm))
  have ne_r2_s2 : r2 ≠ s2 := Nat.ne_of_lt (Nat.lt_of_lt_of_le V_r2_25.lt (Nat.le_of_eq g28.symm))
  have ne_s1_s2 : s1 ≠ s2 := Nat.ne_of_lt (Nat.lt_of_lt_of_le Es22_25.lt (Nat.le_of_eq g28.symm))
  have ne_pl_s2 : pl ≠ s2 := Nat.ne_of_lt (Nat.lt_of_lt_of_le V_pl_25.lt (Nat.le_of_eq g28.symm))
  have X00_28 : Old Z n0 h28 := X00_25.ext E28
  have V_r1_28 : Arv Z h28 r1 k2 .char (1 : Int32) [(.int (nar .char ((p5 &&& (255 : Int32)).toUInt32.toUInt16.toUInt32.toInt32)))] (.int (0 : Int32)) := V_r1_25.ext E28
  have V_r2_28 : Arv Z h28 r2 k9 .char (1 : Int32) [(.int (nar .char ((((p5.toUInt32 >>> ((8 : Int32) &&& 31).toUInt32).toInt32) &&& (255 : Int32)).toUInt32.toUInt16.toUInt32.toInt32)))] (.int (0 : Int32)) := V_r2_25.ext E28
  have Es22_28 : Exa Z h28 s1 "java/lang/String" := Es22_25.ext E28
  have V_pl_28 : Arv Z h28 pl k16 (.object "java/lang/Object") (4 : Int32) [(.ref s1), .null, .null, .null] .null := V_pl_25.ext E28
  have Z28 : n0 ≤ h28.size := Nat.le_trans Z25 E28.1
  have F_coder_s2_28 : Fld Z h28 s2 "java/lang/String" "coder" "B" (.int (0 : Int32)) := D28 (Or.inr (hw _ (List.mem_of_getElem? (i := 29) rfl))) (ty := .byte) (by decide)
  have F_value_s2_28 : Fld Z h28 s2 "java/lang/String" "value" "[B" .null := D28 (Or.inr (hw _ (List.mem_of_getElem? (i := 31) rfl))) (ty := (.array .byte)) (by decide)
  have pre29 := fun τ (κ : Steps p.tables e below (T28.setTop (mkF m 54 #[.val (.int p0), .val (.int p1), .val (.int p2), .val (.int p3), .val (.int p4), .val (.int p5), .val (.ref r1), .val (.ref r2), .unset, .unset, .unset, .unset, .unset, .unset, .unset, .unset, .unset, .unset] [(.ref s2), (.int (1 : Int32)), (.ref pl), (.ref pl)])) τ) => pre27 τ (st28 _ κ)
  have pre30 := fun τ (κ : Steps p.tables e below (T28.setTop (mkF m 57 #[.val (.int p0), .val (.int p1), .val (.int p2), .val (.int p3), .val (.int p4), .val (.int p5), .val (.ref r1), .val (.ref r2), .unset, .unset, .unset, .unset, .unset, .unset, .unset, .unset, .unset, .unset] [(.ref r1), (.ref s2), (.ref s2), (.int (1 : Int32)), (.ref pl), (.ref pl)])) τ) => pre29 τ (by
    refine XS.dup X28.here hx rfl (hb hby at_54) rfl rfl ?_
    show Steps p.tables e below (T28.setTop (mkF m 55 #[.val (.int p0), .val (.int p1), .val (.int p2), .val (.int p3), .val (.int p4), .val (.int p5), .val (.ref r1), .val (.ref r2), .unset, .unset, .unset, .unset, .unset, .unset, .unset, .unset, .unset, .unset] [(.ref s2), (.ref s2), (.int (1 : Int32)), (.ref pl), (.ref pl)])) _
    refine XS.aload X28.here hx rfl (hb hby at_55) rfl rfl ?_
    show Steps p.tables e below (T28.setTop (mkF m 57 #[.val (.int p0), .val (.int p1), .val (.int p2), .val (.int p3), .val (.int p4), .val (.int p5), .val (.ref r1), .val (.ref r2), .unset, .unset, .unset, .unset, .unset, .unset, .unset, .unset, .unset, .unset] [(.ref r1), (.ref s2), (.ref s2), (.int (1 : Int32)), (.ref pl), (.ref pl)])) _
    exact κ)
  have hlat_s2 : ∀ c ∈ [nar .char ((p5 &&& (255 : Int32)).toUInt32.toUInt16.toUInt32.toInt32)], ¬ c < 0 ∧ ¬ (255 : Int32) < c := by
    intro c hc
    simp only [List.mem_cons, List.not_mem_nil, or_false] at hc
    rcases hc with rfl
    · exact own_lat (own_and255 p5).1 (own_and255 p5).2
  obtain ⟨_, _, ⟨T31, L31, k31, n31⟩, -, X31, ⟨Lc31, hQ31, l31, y31, z31⟩, st31⟩ := X28.specialBack hx (y := (⟨"java/lang/String", "<init>", "([C)V"⟩ : MethodName)) rfl hown (mvT hZ (hw _ (List.mem_of_getElem? (i := 6) rfl))) (mvT hZ (hw _ (List.mem_of_getElem? (i := 7) rfl))) (mvT hZ (hw _ (List.mem_of_getElem? (i := 8) rfl))) (by decide) (StrChars.Road.backV (W := 4) hZ hws (kI := 4) (hw _ (List.mem_of_getElem? (i := 4) rfl)) (cs := [nar .char ((p5 &&& (255 : Int32)).toUInt32.toUInt16.toUInt32.toInt32)]) (n := 1) g_s2 Z28 A28 F_value_s2_28 F_coder_s2_28 V_r1_28 (S8.ext X00_28.2) c9 rfl rfl (by decide) (by decide) hlat_s2 rfl (by decide) (by decide)) (g := (mkF m 57 #[.val (.int p0), .val (.int p1), .val (.int p2), .val (.int p3), .val (.int p4), .val (.int p5), .val (.ref r1), .val (.ref r2), .unset, .unset, .unset, .unset, .unset, .unset, .unset, .unset, .unset, .unset] [(.ref r1), (.ref s2), (.ref s2), (.int (1 : Int32)), (.ref pl), (.ref pl)])) rfl (by rw [hml]; rfl) (Steps.refl _) (a := s2) (argsL := [(.ref r1)]) (rest := [(.ref s2), (.int (1 : Int32)), (.ref pl), (.ref pl)]) (lenOf pd_0 rfl) rfl (by show 2 * 0 + _ ≤ _; exact Nat.le_of_eq rfl) (hb hby at_57) (fun _ _ => ⟨rfl, e28, (by decide : 6 + 1 ≤ _), (by decide : 15 + 1 ≤ _)⟩)
  dsimp only [Pt.U, Pt.locs, Pt.cells, Pt.slots] at X31 l31 y31 z31 st31 hQ31
  subst l31 y31 z31
  obtain ⟨rfl, Nq31, K31, Es31, Fc31, tb_s2, kb_s2, gt31, zt31, nt31, Fv31, Vb31⟩ := hQ31
  have X00_31 : Old Z n0 T31.heap := X00_28.keep K31 (allS g_s2 all0)
  have V_r1_31 : Arv Z T31.heap r1 k2 .char (1 : Int32) [(.int (nar .char ((p5 &&& (255 : Int32)).toUInt32.toUInt16.toUInt32.toInt32)))] (.int (0 : Int32)) := V_r1_28.keep K31 (ninS ne_r1_s2 nin0)
  have V_r2_31 : Arv Z T31.heap r2 k9 .char (1 : Int32) [(.int (nar .char ((((p5.toUInt32 >>> ((8 : Int32) &&& 31).toUInt32).toInt32) &&& (255 : Int32)).toUInt32.toUInt16.toUInt32.toInt32)))] (.int (0 : Int32)) := V_r2_28.keep K31 (ninS ne_r2_s2 nin0)
  have Es22_31 : Exa Z T31.heap s1 "java/lang/String" := Es22_28.keep K31
  have V_pl_31 : Arv Z T31.heap pl k16 (.object "java/lang/Object") (4 : Int32) [(.ref s1), .null, .null, .null] .null := V_pl_28.keep K31 (ninS ne_pl_s2 nin0)
  have A28_31 : Exa Z T31.heap s2 "java/lang/String" := A28.keep K31
  have Z31 : n0 ≤ T31.heap.size := Nat.le_trans Z28 K31.1
  have N31 := Fr.app N25 Nq31
  have pre32 := fun τ (κ : Steps p.tables e below (T31.setTop (mkF m 60 #[.val (.int p0), .val (.int p1), .val (.int p2), .val (.int p3), .val (.int p4), .val (.int p5), .val (.ref r1), .val (.ref r2), .unset, .unset, .unset, .unset, .unset, .unset, .unset, .unset, .unset, .unset] [(.ref s2), (.int (1 : Int32)), (.ref pl), (.ref pl)])) τ) => pre30 τ (st31.trans κ)
  obtain ⟨cl33, Ar33, q33, S33, M33, H33, G33⟩ := id V_pl_31
  have in33 : ¬ ((1 : Int32) < 0 ∨ cl33.slots.size ≤ ((1 : Int32)).toNatClampNeg) := inb_of S33 ⟨by decide, by decide⟩
  obtain ⟨T34, h34, X34, e34, W34, st34⟩ := stR X31 hx hZ rfl Ar33 (j := (1 : Int32)) in33 rfl (Sto.ofV Ar33 q33 O16 (Ins.of_exa Es31 (hw _ (List.mem_of_getElem? (i := 32) rfl)))) (g := (mkF m 60 #[.val (.int p0), .val (.int p1), .val (.int p2), .val (.int p3), .val (.int p4), .val (.int p5), .val (.ref r1), .val (.ref r2), .unset, .unset, .unset, .unset, .unset, .unset, .unset, .unset, .unset, .unset] [(.ref s2), (.int (1 : Int32)), (.ref pl), (.ref pl)])) rfl rfl (hb hby at_60)
  have X00_34 : Old Z n0 h34 := X00_31.wr W34 g_pl
  have V_r1_34 : Arv Z h34 r1 k2 .char (1 : Int32) [(.int (nar .char ((p5 &&& (255 : Int32)).toUInt32.toUInt16.toUInt32.toInt32)))] (.int (0 : Int32)) := V_r1_31.other W34 ne_r1_pl
  have V_r2_34 : Arv Z h34 r2 k9 .char (1 : Int32) [(.int (nar .char ((((p5.toUInt32 >>> ((8 : Int32) &&& 31).toUInt32).toInt32) &&& (255 : Int32)).toUInt32.toUInt16.toUInt32.toInt32)))] (.int (0 : Int32)) := V_r2_31.other W34 ne_r2_pl
  have Es22_34 : Exa Z h34 s1 "java/lang/String" := Es22_31.wr W34
  have Es31_34 : Exa Z h34 s2 "java/lang/String" := Es31.wr W34
  have N34 := Fr.snoc X34 N31 g_pl
  have Z34 : n0 ≤ h34.size := Nat.le_trans Z31 (Keep.of_wr W34).1
  have V_pl_34 : Arv Z h34 pl k16 (.object "java/lang/Object") (4 : Int32) [(.ref s1), (.ref s2), .null, .null] .null := Arv.set Ar33 q33 S33 M33 H33 G33 rfl W34 1 rfl (Nat.le_of_ble_eq_true rfl)
  have pre35 := fun τ (κ : Steps p.tables e below (T34.setTop (mkF m 61 #[.val (.int p0), .val (.int p1), .val (.int p2), .val (.int p3), .val (.int p4), .val (.int p5), .val (.ref r1), .val (.ref r2), .unset, .unset, .unset, .unset, .unset, .unset, .unset, .unset, .unset, .unset] [(.ref pl)])) τ) => pre32 τ (st34 _ κ)
  have pre36 := fun τ (κ : Steps p.tables e below (T34.setTop (mkF m 63 #[.val (.int p0), .val (.int p1), .val (.int p2), .val (.int p3), .val (.int p4), .val (.int p5), .val (.ref r1), .val (.ref r2), .unset, .unset, .unset, .unset, .unset, .unset, .unset, .unset, .unset, .unset] [(.int (2 : Int32)), (.ref pl), (.ref pl)])) τ) => pre35 τ (by
    refine XS.dup X34.here hx rfl (hb hby at_61) rfl rfl ?_
    show Steps p.tables e below (T34.setTop (mkF m 62 #[.val (.int p0), .val (.int p1), .val (.int p2), .val (.int p3), .val (.int p4), .val (.int p5), .val (.ref r1), .val (.ref r2), .unset, .unset, .unset, .unset, .unset, .unset, .unset, .unset, .unset, .unset] [(.ref pl), (.ref pl)])) _
    refine XS.iconst X34.here hx rfl (hb hby at_62) ?_
    show Steps p.tables e below (T34.setTop (mkF m 63 #[.val (.int p0), .val (.int p1), .val (.int p2), .val (.int p3), .val (.int p4), .val (.int p5), .val (.ref r1), .val (.ref r2), .unset, .unset, .unset, .unset, .unset, .unset, .unset, .unset, .unset, .unset] [(.int (2 : Int32)), (.ref pl), (.ref pl)])) _
    exact κ)
  obtain ⟨T37, h37, X37, e37, E37, A37, D37, -, st37⟩ := newO X34 hx hZ hown (hw _ (List.mem_of_getElem? (i := 3) rfl)) (hw _ (List.mem_of_getElem? (i := 4) rfl)) (hw _ (List.mem_of_getElem? (i := 5) rfl)) e34 (g := (mkF m 63 #[.val (.int p0), .val (.int p1), .val (.int p2), .val (.int p3), .val (.int p4), .val (.int p5), .val (.ref r1), .val (.ref r2), .unset, .unset, .unset, .unset, .unset, .unset, .unset, .unset, .unset, .unset] [(.int (2 : Int32)), (.ref pl), (.ref pl)])) rfl (hb hby at_63) (by decide) (by decide)
  obtain ⟨s3, g37⟩ : ∃ z, z = h34.size := ⟨_, rfl⟩
  rw [← g37] at A37 D37 st37
  have g_s3 : n0 ≤ s3 := Nat.le_trans Z34 (Nat.le_of_eq g37.symm)
  have ne_r1_s3 : r1 ≠ s3 := Nat.ne_of_lt (Nat.lt_of_lt_of_le V_r1_34.lt (Nat.le_of_eq g37.symm))
  have ne_r2_s3 : r2 ≠ s3 := Nat.ne_of_lt (Nat.lt_of_lt_of_le V_r2_34.lt (Nat.le_of_eq g37.symm))
  have ne_s1_s3 : s1 ≠ s3 := Nat.ne_of_lt (Nat.lt_of_lt_of_le Es22_34.lt (Nat.le_of_eq g37.symm))
  have ne_s2_s3 : s2 ≠ s3 := Nat.ne_of_lt (Nat.lt_of_lt_of_le Es31_34.lt (Nat.le_of_eq g37.symm))
  have ne_pl_s3 : pl ≠ s3 := Nat.ne_of_lt (Nat.lt_of_lt_of_le V_pl_34.lt (Nat.le_of_eq g37.symm))
  have X00_37 : Old Z n0 h37 := X00_34.ext E37
  have V_r1_37 : Arv Z h37 r1 k2 .char (1 : Int32) [(.int (nar .char ((p5 &&& (255 : Int32)).toUInt32.toUInt16.toUInt32.toInt32)))] (.int (0 : Int32)) := V_r1_34.ext E37
  have V_r2_37 : Arv Z h37 r2 k9 .char (1 : Int32) [(.int (nar .char ((((p5.toUInt32 >>> ((8 : Int32) &&& 31).toUInt32).toInt32) &&& (255 : Int32)).toUInt32.toUInt16.toUInt32.toInt32)))] (.int (0 : Int32)) := V_r2_34.ext E37
  have Es22_37 : Exa Z h37 s1 "java/lang/String" := Es22_34.ext E37
  have Es31_37 : Exa Z h37 s2 "java/lang/String" := Es31_34.ext E37
  have V_pl_37 : Arv Z h37 pl k16 (.object "java/lang/Object") (4 : Int32) [(.ref s1), (.ref s2), .null, .null] .null := V_pl_34.ext E37
  have Z37 : n0 ≤ h37.size := Nat.le_trans Z34 E37.1
  have F_coder_s3_37 : Fld Z h37 s3 "java/lang/String" "coder" "B" (.int (0 : Int32)) := D37 (Or.inr (hw _ (List.mem_of_getElem? (i := 29) rfl))) (ty := .byte) (by decide)
  have F_value_s3_37 : Fld Z h37 s3 "java/lang/String" "value" "[B" .null := D37 (Or.inr (hw _ (List.mem_of_getElem? (i := 31) rfl))) (ty := (.array .byte)) (by decide)
  have pre38 := fun τ (κ : Steps p.tables e below (T37.setTop (mkF m 66 #[.val (.int p0), .val (.int p1), .val (.int p2), .val (.int p3), .val (.int p4), .val (.int p5), .val (.ref r1), .val (.ref r2), .unset, .unset, .unset, .unset, .unset, .unset, .unset, .unset, .unset, .unset] [(.ref s3), (.int (2 : Int32)), (.ref pl), (.ref pl)])) τ) => pre36 τ (st37 _ κ)
  have pre39 := fun τ (κ : Steps p.tables e below (T37.setTop (mkF m 69 #[.val (.int p0), .val (.int p1), .val (.int p2), .val (.int p3), .val (.int p4), .val (.int p5), .val (.ref r1), .val (.ref r2), .unset, .unset, .unset, .unset, .unset, .unset, .unset, .unset, .unset, .unset] [(.ref r2), (.ref s3), (.ref s3), (.int (2 : Int32)), (.ref pl), (.ref pl)])) τ) => pre38 τ (by
    refine XS.dup X37.here hx rfl (hb hby at_66) rfl rfl ?_
    show Steps p.tables e below (T37.setTop (mkF m 67 #[.val (.int p0), .val (.int p1), .val (.int p2), .val (.int p3), .val (.int p4), .val (.int p5), .val (.ref r1), .val (.ref r2), .unset, .unset, .unset, .unset, .unset, .unset, .unset, .unset, .unset, .unset] [(.ref s3), (.ref s3), (.int (2 : Int32)), (.ref pl), (.ref pl)])) _
    refine XS.aload X37.here hx rfl (hb hby at_67) rfl rfl ?_
    show Steps p.tables e below (T37.setTop (mkF m 69 #[.val (.int p0), .val (.int p1), .val (.int p2), .val (.int p3), .val (.int p4), .val (.int p5), .val (.ref r1), .val (.ref r2), .unset, .unset, .unset, .unset, .unset, .unset, .unset, .unset, .unset, .unset] [(.ref r2), (.ref s3), (.ref s3), (.int (2 : Int32)), (.ref pl), (.ref pl)])) _
    exact κ)
  have hlat_s3 : ∀ c ∈ [nar .char ((((p5.toUInt32 >>> ((8 : Int32) &&& 31).toUInt32).toInt32) &&& (255 : Int32)).toUInt32.toUInt16.toUInt32.toInt32)], ¬ c < 0 ∧ ¬ (255 : Int32) < c := by
    intro c hc
    simp only [List.mem_cons, List.not_mem_nil, or_false] at hc
    rcases hc with rfl
    · exact own_lat (own_sh p5).1 (own_sh p5).2
  obtain ⟨_, _, ⟨T40, L40, k40, n40⟩, -, X40, ⟨Lc40, hQ40, l40, y40, z40⟩, st40⟩ := X37.specialBack hx (y := (⟨"java/lang/String", "<init>", "([C)V"⟩ : MethodName)) rfl hown (mvT hZ (hw _ (List.mem_of_getElem? (i := 6) rfl))) (mvT hZ (hw _ (List.mem_of_getElem? (i := 7) rfl))) (mvT hZ (hw _ (List.mem_of_getElem? (i := 8) rfl))) (by decide) (StrChars.Road.backV (W := 4) hZ hws (kI := 4) (hw _ (List.mem_of_getElem? (i := 4) rfl)) (cs := [nar .char ((((p5.toUInt32 >>> ((8 : Int32) &&& 31).toUInt32).toInt32) &&& (255 : Int32)).toUInt32.toUInt16.toUInt32.toInt32)]) (n := 1) g_s3 Z37 A37 F_value_s3_37 F_coder_s3_37 V_r2_37 (S8.ext X00_37.2) c9 rfl rfl (by decide) (by decide) hlat_s3 rfl (by decide) (by decide)) (g := (mkF m 69 #[.val (.int p0), .val (.int p1), .val (.int p2), .val (.int p3), .val (.int p4), .val (.int p5), .val (.ref r1), .val (.ref r2), .unset, .unset, .unset, .unset, .unset, .unset, .unset, .unset, .unset, .unset] [(.ref r2), (.ref s3), (.ref s3), (.int (2 : Int32)), (.ref pl), (.ref pl)])) rfl (by rw [hml]; rfl) (Steps.refl _) (a := s3) (argsL := [(.ref r2)]) (rest := [(.ref s3), (.int (2 : Int32)), (.ref pl), (.ref pl)]) (lenOf pd_0 rfl) rfl (by show 2 * 0 + _ ≤ _; exact Nat.le_of_eq rfl) (hb hby at_69) (fun _ _ => ⟨rfl, e37, (by decide : 8 + 1 ≤ _), (by decide : 20 + 1 ≤ _)⟩)
  dsimp only [Pt.U, Pt.locs, Pt.cells, Pt.slots] at X40 l40 y40 z40 st40 hQ40
  subst l40 y40 z40
  obtain ⟨rfl, Nq40, K40, Es40, Fc40, tb_s3, kb_s3, gt40, zt40, nt40, Fv40, Vb40⟩ := hQ40
  have X00_40 : Old Z n0 T40.heap := X00_37.keep K40 (allS g_s3 all0)
  have V_r1_40 : Arv Z T40.heap r1 k2 .char (1 : Int32) [(.int (nar .char ((p5 &&& (255 : Int32)).toUInt32.toUInt16.toUInt32.toInt32)))] (.int (0 : Int32)) := V_r1_37.keep K40 (ninS ne_r1_s3 nin0)
  have V_r2_40 : Arv Z T40.heap r2 k9 .char (1 : Int32) [(.int (nar .char ((((p5.toUInt32 >>> ((8 : Int32) &&& 31).toUInt32).toInt32) &&& (255 : Int32)).toUInt32.toUInt16.toUInt32.toInt32)))] (.int (0 : Int32)) := V_r2_37.keep K40 (ninS ne_r2_s3 nin0)
  have Es22_40 : Exa Z T40.heap s1 "java/lang/String" := Es22_37.keep K40
  have Es31_40 : Exa Z T40.heap s2 "java/lang/String" := Es31_37.keep K40
  have V_pl_40 : Arv Z T40.heap pl k16 (.object "java/lang/Object") (4 : Int32) [(.ref s1), (.ref s2), .null, .null] .null := V_pl_37.keep K40 (ninS ne_pl_s3 nin0)
  have A37_40 : Exa Z T40.heap s3 "java/lang/String" := A37.keep K40
  have Z40 : n0 ≤ T40.heap.size := Nat.le_trans Z37 K40.1
  have N40 := Fr.app N34 Nq40
  have pre41 := fun τ (κ : Steps p.tables e below (T40.setTop (mkF m 72 #[.val (.int p0), .val (.int p1), .val (.int p2), .val (.int p3), .val (.int p4), .val (.int p5), .val (.ref r1), .val (.ref r2), .unset, .unset, .unset, .unset, .unset, .unset, .unset, .unset, .unset, .unset] [(.ref s3), (.int (2 : Int32)), (.ref pl), (.ref pl)])) τ) => pre39 τ (st40.trans κ)
  obtain ⟨cl42, Ar42, q42, S42, M42, H42, G42⟩ := id V_pl_40
  have in42 : ¬ ((2 : Int32) < 0 ∨ cl42.slots.size ≤ ((2 : Int32)).toNatClampNeg) := inb_of S42 ⟨by decide, by decide⟩
  obtain ⟨T43, h43, X43, e43, W43, st43⟩ := stR X40 hx hZ rfl Ar42 (j := (2 : Int32)) in42 rfl (Sto.ofV Ar42 q42 O16 (Ins.of_exa Es40 (hw _ (List.mem_of_getElem? (i := 32) rfl)))) (g := (mkF m 72 #[.val (.int p0), .val (.int p1), .val (.int p2), .val (.int p3), .val (.int p4), .val (.int p5), .val (.ref r1), .val (.ref r2), .unset, .unset, .unset, .unset, .unset, .unset, .unset, .unset, .unset, .unset] [(.ref s3), (.int (2 : Int32)), (.ref pl), (.ref pl)])) rfl rfl (hb hby at_72)
  have X00_43 : Old Z n0 h43 := X00_40.wr W43 g_pl
  have V_r1_43 : Arv Z h43 r1 k2 .char (1 : Int32) [(.int (nar .char ((p5 &&& (255 : Int32)).toUInt32.toUInt16.toUInt32.toInt32)))] (.int (0 : Int32)) := V_r1_40.other W43 ne_r1_pl
  have V_r2_43 : Arv Z h43 r2 k9 .char (1 : Int32) [(.int (nar .char ((((p5.toUInt32 >>> ((8 : Int32) &&& 31).toUInt32).toInt32) &&& (255 : Int32)).toUInt32.toUInt16.toUInt32.toInt32)))] (.int (0 : Int32)) := V_r2_40.other W43 ne_r2_pl
  have Es22_43 : Exa Z h43 s1 "java/lang/String" := Es22_40.wr W43
  have Es31_43 : Exa Z h43 s2 "java/lang/String" := Es31_40.wr W43
  have Es40_43 : Exa Z h43 s3 "java/lang/String" := Es40.wr W43
  have N43 := Fr.snoc X43 N40 g_pl
  have Z43 : n0 ≤ h43.size := Nat.le_trans Z40 (Keep.of_wr W43).1
  have V_pl_43 : Arv Z h43 pl k16 (.object "java/lang/Object") (4 : Int32) [(.ref s1), (.ref s2), (.ref s3), .null] .null := Arv.set Ar42 q42 S42 M42 H42 G42 rfl W43 2 rfl (Nat.le_of_ble_eq_true rfl)
  have pre44 := fun τ (κ : Steps p.tables e below (T43.setTop (mkF m 73 #[.val (.int p0), .val (.int p1), .val (.int p2), .val (.int p3), .val (.int p4), .val (.int p5), .val (.ref r1), .val (.ref r2), .unset, .unset, .unset, .unset, .unset, .unset, .unset, .unset, .unset, .unset] [(.ref pl)])) τ) => pre41 τ (st43 _ κ)
  have pre45 := fun τ (κ : Steps p.tables e below (T43.setTop (mkF m 76 #[.val (.int p0), .val (.int p1), .val (.int p2), .val (.int p3), .val (.int p4), .val (.int p5), .val (.ref r1), .val (.ref r2), .unset, .unset, .unset, .unset, .unset, .unset, .unset, .unset, .unset, .unset] [.null, (.int (3 : Int32)), (.ref pl), (.ref pl)])) τ) => pre44 τ (by
    refine XS.dup X43.here hx rfl (hb hby at_73) rfl rfl ?_
    show Steps p.tables e below (T43.setTop (mkF m 74 #[.val (.int p0), .val (.int p1), .val (.int p2), .val (.int p3), .val (.int p4), .val (.int p5), .val (.ref r1), .val (.ref r2), .unset, .unset, .unset, .unset, .unset, .unset, .unset, .unset, .unset, .unset] [(.ref pl), (.ref pl)])) _
    refine XS.iconst X43.here hx rfl (hb hby at_74) ?_
    show Steps p.tables e below (T43.setTop (mkF m 75 #[.val (.int p0), .val (.int p1), .val (.int p2), .val (.int p3), .val (.int p4), .val (.int p5), .val (.ref r1), .val (.ref r2), .unset, .unset, .unset, .unset, .unset, .unset, .unset, .unset, .unset, .unset] [(.int (3 : Int32)), (.ref pl), (.ref pl)])) _
    refine XS.aconstNull X43.here hx rfl (hb hby at_75) ?_
    show Steps p.tables e below (T43.setTop (mkF m 76 #[.val (.int p0), .val (.int p1), .val (.int p2), .val (.int p3), .val (.int p4), .val (.int p5), .val (.ref r1), .val (.ref r2), .unset, .unset, .unset, .unset, .unset, .unset, .unset, .unset, .unset, .unset] [.null, (.int (3 : Int32)), (.ref pl), (.ref pl)])) _
    exact κ)
  obtain ⟨cl46, Ar46, q46, S46, M46, H46, G46⟩ := id V_pl_43
  have in46 : ¬ ((3 : Int32) < 0 ∨ cl46.slots.size ≤ ((3 : Int32)).toNatClampNeg) := inb_of S46 ⟨by decide, by decide⟩
  obtain ⟨T47, h47, X47, e47, W47, st47⟩ := stR X43 hx hZ e43 Ar46 (j := (3 : Int32)) in46 rfl (Or.inl rfl) (g := (mkF m 76 #[.val (.int p0), .val (.int p1), .val (.int p2), .val (.int p3), .val (.int p4), .val (.int p5), .val (.ref r1), .val (.ref r2), .unset, .unset, .unset, .unset, .unset, .unset, .unset, .unset, .unset, .unset] [.null, (.int (3 : Int32)), (.ref pl), (.ref pl)])) rfl rfl (hb hby at_76)
  have X00_47 : Old Z n0 h47 := X00_43.wr W47 g_pl
  have V_r1_47 : Arv Z h47 r1 k2 .char (1 : Int32) [(.int (nar .char ((p5 &&& (255 : Int32)).toUInt32.toUInt16.toUInt32.toInt32)))] (.int (0 : Int32)) := V_r1_43.other W47 ne_r1_pl
  have V_r2_47 : Arv Z h47 r2 k9 .char (1 : Int32) [(.int (nar .char ((((p5.toUInt32 >>> ((8 : Int32) &&& 31).toUInt32).toInt32) &&& (255 : Int32)).toUInt32.toUInt16.toUInt32.toInt32)))] (.int (0 : Int32)) := V_r2_43.other W47 ne_r2_pl
  have Es22_47 : Exa Z h47 s1 "java/lang/String" := Es22_43.wr W47
  have Es31_47 : Exa Z h47 s2 "java/lang/String" := Es31_43.wr W47
  have Es40_47 : Exa Z h47 s3 "java/lang/String" := Es40_43.wr W47
  have N47 := Fr.snoc X47 N43 g_pl
  have Z47 : n0 ≤ h47.size := Nat.le_trans Z43 (Keep.of_wr W47).1
  have V_pl_47 : Arv Z h47 pl k16 (.object "java/lang/Object") (4 : Int32) [(.ref s1), (.ref s2), (.ref s3), .null] .null := Arv.set Ar46 q46 S46 M46 H46 G46 rfl W47 3 rfl (Nat.le_of_ble_eq_true rfl)
  have pre48 := fun τ (κ : Steps p.tables e below (T47.setTop (mkF m 77 #[.val (.int p0), .val (.int p1), .val (.int p2), .val (.int p3), .val (.int p4), .val (.int p5), .val (.ref r1), .val (.ref r2), .unset, .unset, .unset, .unset, .unset, .unset, .unset, .unset, .unset, .unset] [(.ref pl)])) τ) => pre45 τ (st47 _ κ)
  have pre49 := fun τ (κ : Steps p.tables e below (T47.setTop (mkF m 82 #[.val (.int p0), .val (.int p1), .val (.int p2), .val (.int p3), .val (.int p4), .val (.int p5), .val (.ref r1), .val (.ref r2), .val (.ref pl), .unset, .unset, .unset, .unset, .unset, .unset, .unset, .unset, .unset] [(.int (p0 &&& (3 : Int32)))])) τ) => pre48 τ (by
    refine XS.astore X47.here hx rfl (hb hby at_77) rfl rfl (l' := #[.val (.int p0), .val (.int p1), .val (.int p2), .val (.int p3), .val (.int p4), .val (.int p5), .val (.ref r1), .val (.ref r2), .val (.ref pl), .unset, .unset, .unset, .unset, .unset, .unset, .unset, .unset, .unset]) rfl ?_
    show Steps p.tables e below (T47.setTop (mkF m 79 #[.val (.int p0), .val (.int p1), .val (.int p2), .val (.int p3), .val (.int p4), .val (.int p5), .val (.ref r1), .val (.ref r2), .val (.ref pl), .unset, .unset, .unset, .unset, .unset, .unset, .unset, .unset, .unset] [])) _
    refine XS.iloadN X47.here hx rfl (hb hby at_79) rfl ?_
    show Steps p.tables e below (T47.setTop (mkF m 80 #[.val (.int p0), .val (.int p1), .val (.int p2), .val (.int p3), .val (.int p4), .val (.int p5), .val (.ref r1), .val (.ref r2), .val (.ref pl), .unset, .unset, .unset, .unset, .unset, .unset, .unset, .unset, .unset] [(.int p0)])) _
    refine XS.iconst X47.here hx rfl (hb hby at_80) ?_
    show Steps p.tables e below (T47.setTop (mkF m 81 #[.val (.int p0), .val (.int p1), .val (.int p2), .val (.int p3), .val (.int p4), .val (.int p5), .val (.ref r1), .val (.ref r2), .val (.ref pl), .unset, .unset, .unset, .unset, .unset, .unset, .unset, .unset, .unset] [(.int (3 : Int32)), (.int p0)])) _
    refine XS.iand X47.here hx rfl (hb hby at_81) rfl ?_
    show Steps p.tables e below (T47.setTop (mkF m 82 #[.val (.int p0), .val (.int p1), .val (.int p2), .val (.int p3), .val (.int p4), .val (.int p5), .val (.ref r1), .val (.ref r2), .val (.ref pl), .unset, .unset, .unset, .unset, .unset, .unset, .unset, .unset, .unset] [(.int (p0 &&& (3 : Int32)))])) _
    exact κ)
  obtain ⟨ia, h_ia⟩ : ∃ z : Int32, z = (p0 &&& (3 : Int32)) := ⟨_, rfl⟩
  rw [← h_ia] at pre49
  have hia := own_and3 p0
  rw [← h_ia] at hia
  have pre50 := fun τ (κ : Steps p.tables e below (T47.setTop (mkF m 87 #[.val (.int p0), .val (.int p1), .val (.int p2), .val (.int p3), .val (.int p4), .val (.int p5), .val (.ref r1), .val (.ref r2), .val (.ref pl), .val (.int ia), .unset, .unset, .unset, .unset, .unset, .unset, .unset, .unset] [(.int (p1 &&& (3 : Int32)))])) τ) => pre49 τ (by
    refine XS.istore X47.here hx rfl (hb hby at_82) rfl (l' := #[.val (.int p0), .val (.int p1), .val (.int p2), .val (.int p3), .val (.int p4), .val (.int p5), .val (.ref r1), .val (.ref r2), .val (.ref pl), .val (.int ia), .unset, .unset, .unset, .unset, .unset, .unset, .unset, .unset]) rfl ?_
    show Steps p.tables e below (T47.setTop (mkF m 84 #[.val (.int p0), .val (.int p1), .val (.int p2), .val (.int p3), .val (.int p4), .val (.int p5), .val (.ref r1), .val (.ref r2), .val (.ref pl), .val (.int ia), .unset, .unset, .unset, .unset, .unset, .unset, .unset, .unset] [])) _
    refine XS.iloadN X47.here hx rfl (hb hby at_84) rfl ?_
    show Steps p.tables e below (T47.setTop (mkF m 85 #[.val (.int p0), .val (.int p1), .val (.int p2), .val (.int p3), .val (.int p4), .val (.int p5), .val (.ref r1), .val (.ref r2), .val (.ref pl), .val (.int ia), .unset, .unset, .unset, .unset, .unset, .unset, .unset, .unset] [(.int p1)])) _
    refine XS.iconst X47.here hx rfl (hb hby at_85) ?_
    show Steps p.tables e below (T47.setTop (mkF m 86 #[.val (.int p0), .val (.int p1), .val (.int p2), .val (.int p3), .val (.int p4), .val (.int p5), .val (.ref r1), .val (.ref r2), .val (.ref pl), .val (.int ia), .unset, .unset, .unset, .unset, .unset, .unset, .unset, .unset] [(.int (3 : Int32)), (.int p1)])) _
    refine XS.iand X47.here hx rfl (hb hby at_86) rfl ?_
    show Steps p.tables e below (T47.setTop (mkF m 87 #[.val (.int p0), .val (.int p1), .val (.int p2), .val (.int p3), .val (.int p4), .val (.int p5), .val (.ref r1), .val (.ref r2), .val (.ref pl), .val (.int ia), .unset, .unset, .unset, .unset, .unset, .unset, .unset, .unset] [(.int (p1 &&& (3 : Int32)))])) _
    exact κ)
  obtain ⟨ib, h_ib⟩ : ∃ z : Int32, z = (p1 &&& (3 : Int32)) := ⟨_, rfl⟩
  rw [← h_ib] at pre50
  have hib := own_and3 p1
  rw [← h_ib] at hib
  have pre51 := fun τ (κ : Steps p.tables e below (T47.setTop (mkF m 92 #[.val (.int p0), .val (.int p1), .val (.int p2), .val (.int p3), .val (.int p4), .val (.int p5), .val (.ref r1), .val (.ref r2), .val (.ref pl), .val (.int ia), .val (.int ib), .unset, .unset, .unset, .unset, .unset, .unset, .unset] [(.int (p2 &&& (3 : Int32)))])) τ) => pre50 τ (by
    refine XS.istore X47.here hx rfl (hb hby at_87) rfl (l' := #[.val (.int p0), .val (.int p1), .val (.int p2), .val (.int p3), .val (.int p4), .val (.int p5), .val (.ref r1), .val (.ref r2), .val (.ref pl), .val (.int ia), .val (.int ib), .unset, .unset, .unset, .unset, .unset, .unset, .unset]) rfl ?_
    show Steps p.tables e below (T47.setTop (mkF m 89 #[.val (.int p0), .val (.int p1), .val (.int p2), .val (.int p3), .val (.int p4), .val (.int p5), .val (.ref r1), .val (.ref r2), .val (.ref pl), .val (.int ia), .val (.int ib), .unset, .unset, .unset, .unset, .unset, .unset, .unset] [])) _
    refine XS.iloadN X47.here hx rfl (hb hby at_89) rfl ?_
    show Steps p.tables e below (T47.setTop (mkF m 90 #[.val (.int p0), .val (.int p1), .val (.int p2), .val (.int p3), .val (.int p4), .val (.int p5), .val (.ref r1), .val (.ref r2), .val (.ref pl), .val (.int ia), .val (.int ib), .unset, .unset, .unset, .unset, .unset, .unset, .unset] [(.int p2)])) _
    refine XS.iconst X47.here hx rfl (hb hby at_90) ?_
    show Steps p.tables e below (T47.setTop (mkF m 91 #[.val (.int p0), .val (.int p1), .val (.int p2), .val (.int p3), .val (.int p4), .val (.int p5), .val (.ref r1), .val (.ref r2), .val (.ref pl), .val (.int ia), .val (.int ib), .unset, .unset, .unset, .unset, .unset, .unset, .unset] [(.int (3 : Int32)), (.int p2)])) _
    refine XS.iand X47.here hx rfl (hb hby at_91) rfl ?_
    show Steps p.tables e below (T47.setTop (mkF m 92 #[.val (.int p0), .val (.int p1), .val (.int p2), .val (.int p3), .val (.int p4), .val (.int p5), .val (.ref r1), .val (.ref r2), .val (.ref pl), .val (.int ia), .val (.int ib), .unset, .unset, .unset, .unset, .unset, .unset, .unset] [(.int (p2 &&& (3 : Int32)))])) _
    exact κ)
  obtain ⟨ic, h_ic⟩ : ∃ z : Int32, z = (p2 &&& (3 : Int32)) := ⟨_, rfl⟩
  rw [← h_ic] at pre51
  have hic := own_and3 p2
  rw [← h_ic] at hic
  have pre52 := fun τ (κ : Steps p.tables e below (T47.setTop (mkF m 97 #[.val (.int p0), .val (.int p1), .val (.int p2), .val (.int p3), .val (.int p4), .val (.int p5), .val (.ref r1), .val (.ref r2), .val (.ref pl), .val (.int ia), .val (.int ib), .val (.int ic), .unset, .unset, .unset, .unset, .unset, .unset] [(.int (p3 &&& (3 : Int32)))])) τ) => pre51 τ (by
    refine XS.istore X47.here hx rfl (hb hby at_92) rfl (l' := #[.val (.int p0), .val (.int p1), .val (.int p2), .val (.int p3), .val (.int p4), .val (.int p5), .val (.ref r1), .val (.ref r2), .val (.ref pl), .val (.int ia), .val (.int ib), .val (.int ic), .unset, .unset, .unset, .unset, .unset, .unset]) rfl ?_
    show Steps p.tables e below (T47.setTop (mkF m 94 #[.val (.int p0), .val (.int p1), .val (.int p2), .val (.int p3), .val (.int p4), .val (.int p5), .val (.ref r1), .val (.ref r2), .val (.ref pl), .val (.int ia), .val (.int ib), .val (.int ic), .unset, .unset, .unset, .unset, .unset, .unset] [])) _
    refine XS.iloadN X47.here hx rfl (hb hby at_94) rfl ?_
    show Steps p.tables e below (T47.setTop (mkF m 95 #[.val (.int p0), .val (.int p1), .val (.int p2), .val (.int p3), .val (.int p4), .val (.int p5), .val (.ref r1), .val (.ref r2), .val (.ref pl), .val (.int ia), .val (.int ib), .val (.int ic), .unset, .unset, .unset, .unset, .unset, .unset] [(.int p3)])) _
    refine XS.iconst X47.here hx rfl (hb hby at_95) ?_
    show Steps p.tables e below (T47.setTop (mkF m 96 #[.val (.int p0), .val (.int p1), .val (.int p2), .val (.int p3), .val (.int p4), .val (.int p5), .val (.ref r1), .val (.ref r2), .val (.ref pl), .val (.int ia), .val (.int ib), .val (.int ic), .unset, .unset, .unset, .unset, .unset, .unset] [(.int (3 : Int32)), (.int p3)])) _
    refine XS.iand X47.here hx rfl (hb hby at_96) rfl ?_
    show Steps p.tables e below (T47.setTop (mkF m 97 #[.val (.int p0), .val (.int p1), .val (.int p2), .val (.int p3), .val (.int p4), .val (.int p5), .val (.ref r1), .val (.ref r2), .val (.ref pl), .val (.int ia), .val (.int ib), .val (.int ic), .unset, .unset, .unset, .unset, .unset, .unset] [(.int (p3 &&& (3 : Int32)))])) _
    exact κ)
  obtain ⟨ie, h_ie⟩ : ∃ z : Int32, z = (p3 &&& (3 : Int32)) := ⟨_, rfl⟩
  rw [← h_ie] at pre52
  have hie := own_and3 p3
  rw [← h_ie] at hie
  obtain ⟨via, hvia⟩ : ∃ z, z = own_pool s1 s2 s3 ia := ⟨_, rfl⟩
  have r_via : via.isRef = true := by rw [hvia]; exact own_poolR _ _ _ _
  obtain ⟨vib, hvib⟩ : ∃ z, z = own_pool s1 s2 s3 ib := ⟨_, rfl⟩
  have r_vib : vib.isRef = true := by rw [hvib]; exact own_poolR _ _ _ _
  obtain ⟨vic, hvic⟩ : ∃ z, z = own_pool s1 s2 s3 ic := ⟨_, rfl⟩
  have r_vic : vic.isRef = true := by rw [hvic]; exact own_poolR _ _ _ _
  obtain ⟨vie, hvie⟩ : ∃ z, z = own_pool s1 s2 s3 ie := ⟨_, rfl⟩
  have r_vie : vie.isRef = true := by rw [hvie]; exact own_poolR _ _ _ _
  have pre53 := fun τ (κ : Steps p.tables e below (T47.setTop (mkF m 99 #[.val (.int p0), .val (.int p1), .val (.int p2), .val (.int p3), .val (.int p4), .val (.int p5), .val (.ref r1), .val (.ref r2), .val (.ref pl), .val (.int ia), .val (.int ib), .val (.int ic), .val (.int ie), .unset, .unset, .unset, .unset, .unset] [])) τ) => pre52 τ (by
    refine XS.istore X47.here hx rfl (hb hby at_97) rfl (l' := #[.val (.int p0), .val (.int p1), .val (.int p2), .val (.int p3), .val (.int p4), .val (.int p5), .val (.ref r1), .val (.ref r2), .val (.ref pl), .val (.int ia), .val (.int ib), .val (.int ic), .val (.int ie), .unset, .unset, .unset, .unset, .unset]) rfl ?_
    show Steps p.tables e below (T47.setTop (mkF m 99 #[.val (.int p0), .val (.int p1), .val (.int p2), .val (.int p3), .val (.int p4), .val (.int p5), .val (.ref r1), .val (.ref r2), .val (.ref pl), .val (.int ia), .val (.int ib), .val (.int ic), .val (.int ie), .unset, .unset, .unset, .unset, .unset] [])) _
    exact κ)
  obtain ⟨T54, h54, X54, e54, E54, A54, D54, -, st54⟩ := newO X47 hx hZ hown (hw _ (List.mem_of_getElem? (i := 33) rfl)) (hw _ (List.mem_of_getElem? (i := 34) rfl)) (hw _ (List.mem_of_getElem? (i := 35) rfl)) e47 (g := (mkF m 99 #[.val (.int p0), .val (.int p1), .val (.int p2), .val (.int p3), .val (.int p4), .val (.int p5), .val (.ref r1), .val (.ref r2), .val (.ref pl), .val (.int ia), .val (.int ib), .val (.int ic), .val (.int ie), .unset, .unset, .unset, .unset, .unset] [])) rfl (hb hby at_99) (by decide) (by decide)
  obtain ⟨pp, g54⟩ : ∃ z, z = h47.size := ⟨_, rfl⟩
  rw [← g54] at A54 D54 st54
  have g_pp : n0 ≤ pp := Nat.le_trans Z47 (Nat.le_of_eq g54.symm)
  have ne_r1_pp : r1 ≠ pp := Nat.ne_of_lt (Nat.lt_of_lt_of_le V_r1_47.lt (Nat.le_of_eq g54.symm))
  have ne_r2_pp : r2 ≠ pp := Nat.ne_of_lt (Nat.lt_of_lt_of_le V_r2_47.lt (Nat.le_of_eq g54.symm))
  have ne_s1_pp : s1 ≠ pp := Nat.ne_of_lt (Nat.lt_of_lt_of_le Es22_47.lt (Nat.le_of_eq g54.symm))
  have ne_s2_pp : s2 ≠ pp := Nat.ne_of_lt (Nat.lt_of_lt_of_le Es31_47.lt (Nat.le_of_eq g54.symm))
  have ne_s3_pp : s3 ≠ pp := Nat.ne_of_lt (Nat.lt_of_lt_of_le Es40_47.lt (Nat.le_of_eq g54.symm))
  have ne_pl_pp : pl ≠ pp := Nat.ne_of_lt (Nat.lt_of_lt_of_le V_pl_47.lt (Nat.le_of_eq g54.symm))
  have X00_54 : Old Z n0 h54 := X00_47.ext E54
  have V_r1_54 : Arv Z h54 r1 k2 .char (1 : Int32) [(.int (nar .char ((p5 &&& (255 : Int32)).toUInt32.toUInt16.toUInt32.toInt32)))] (.int (0 : Int32)) := V_r1_47.ext E54
  have V_r2_54 : Arv Z h54 r2 k9 .char (1 : Int32) [(.int (nar .char ((((p5.toUInt32 >>> ((8 : Int32) &&& 31).toUInt32).toInt32) &&& (255 : Int32)).toUInt32.toUInt16.toUInt32.toInt32)))] (.int (0 : Int32)) := V_r2_47.ext E54
  have Es22_54 : Exa Z h54 s1 "java/lang/String" := Es22_47.ext E54
  have Es31_54 : Exa Z h54 s2 "java/lang/String" := Es31_47.ext E54
  have Es40_54 : Exa Z h54 s3 "java/lang/String" := Es40_47.ext E54
  have V_pl_54 : Arv Z h54 pl k16 (.object "java/lang/Object") (4 : Int32) [(.ref s1), (.ref s2), (.ref s3), .null] .null := V_pl_47.ext E54
  have Z54 : n0 ≤ h54.size := Nat.le_trans Z47 E54.1
  have F_first_pp_54 : Fld Z h54 pp "com/example/fettle/fettle/tree/IdentityPair" "first" "Ljava/lang/Object;" .null := D54 (Or.inr (hw _ (List.mem_of_getElem? (i := 41) rfl))) (ty := (.object "java/lang/Object")) (by decide)
  have F_second_pp_54 : Fld Z h54 pp "com/example/fettle/fettle/tree/IdentityPair" "second" "Ljava/lang/Object;" .null := D54 (Or.inr (hw _ (List.mem_of_getElem? (i := 43) rfl))) (ty := (.object "java/lang/Object")) (by decide)
  have pre55 := fun τ (κ : Steps p.tables e below (T54.setTop (mkF m 102 #[.val (.int p0), .val (.int p1), .val (.int p2), .val (.int p3), .val (.int p4), .val (.int p5), .val (.ref r1), .val (.ref r2), .val (.ref pl), .val (.int ia), .val (.int ib), .val (.int ic), .val (.int ie), .unset, .unset, .unset, .unset, .unset] [(.ref pp)])) τ) => pre53 τ (st54 _ κ)
  have pre56 := fun τ (κ : Steps p.tables e below (T54.setTop (mkF m 107 #[.val (.int p0), .val (.int p1), .val (.int p2), .val (.int p3), .val (.int p4), .val (.int p5), .val (.ref r1), .val (.ref r2), .val (.ref pl), .val (.int ia), .val (.int ib), .val (.int ic), .val (.int ie), .unset, .unset, .unset, .unset, .unset] [(.int ia), (.ref pl), (.ref pp), (.ref pp)])) τ) => pre55 τ (by
    refine XS.dup X54.here hx rfl (hb hby at_102) rfl rfl ?_
    show Steps p.tables e below (T54.setTop (mkF m 103 #[.val (.int p0), .val (.int p1), .val (.int p2), .val (.int p3), .val (.int p4), .val (.int p5), .val (.ref r1), .val (.ref r2), .val (.ref pl), .val (.int ia), .val (.int ib), .val (.int ic), .val (.int ie), .unset, .unset, .unset, .unset, .unset] [(.ref pp), (.ref pp)])) _
    refine XS.aload X54.here hx rfl (hb hby at_103) rfl rfl ?_
    show Steps p.tables e below (T54.setTop (mkF m 105 #[.val (.int p0), .val (.int p1), .val (.int p2), .val (.int p3), .val (.int p4), .val (.int p5), .val (.ref r1), .val (.ref r2), .val (.ref pl), .val (.int ia), .val (.int ib), .val (.int ic), .val (.int ie), .unset, .unset, .unset, .unset, .unset] [(.ref pl), (.ref pp), (.ref pp)])) _
    refine XS.iload X54.here hx rfl (hb hby at_105) rfl ?_
    show Steps p.tables e below (T54.setTop (mkF m 107 #[.val (.int p0), .val (.int p1), .val (.int p2), .val (.int p3), .val (.int p4), .val (.int p5), .val (.ref r1), .val (.ref r2), .val (.ref pl), .val (.int ia), .val (.int ib), .val (.int ic), .val (.int ie), .unset, .unset, .unset, .unset, .unset] [(.int ia), (.ref pl), (.ref pp), (.ref pp)])) _
    exact κ)
  obtain ⟨cl57, Ar57, -, S57, M57, H57, -⟩ := id V_pl_54
  have in57 : ¬ (ia < 0 ∨ cl57.slots.size ≤ (ia).toNatClampNeg) := inb_of S57 (own_in hia)
  have at57 : cl57.slots[(ia).toNatClampNeg]? = some via := H57.at in57 (by rw [hvia]; exact own_at s1 s2 s3 hia)
  have pre58 := fun τ (κ : Steps p.tables e below (T54.setTop (mkF m 112 #[.val (.int p0), .val (.int p1), .val (.int p2), .val (.int p3), .val (.int p4), .val (.int p5), .val (.ref r1), .val (.ref r2), .val (.ref pl), .val (.int ia), .val (.int ib), .val (.int ic), .val (.int ie), .unset, .unset, .unset, .unset, .unset] [(.int ib), (.ref pl), via, (.ref pp), (.ref pp)])) τ) => pre56 τ (by
    refine X54.aaload hx (j := ia) (v := via) (by rw [e54]; exact Ar57.1) (State.isArrayOf_alike hZ.alike Ar57.2.1) rfl Ar57.2.2 in57 at57 (g := (mkF m 107 #[.val (.int p0), .val (.int p1), .val (.int p2), .val (.int p3), .val (.int p4), .val (.int p5), .val (.ref r1), .val (.ref r2), .val (.ref pl), .val (.int ia), .val (.int ib), .val (.int ic), .val (.int ie), .unset, .unset, .unset, .unset, .unset] [(.int ia), (.ref pl), (.ref pp), (.ref pp)])) rfl rfl (hb hby at_107) _ ?_
    show Steps p.tables e below (T54.setTop (mkF m 108 #[.val (.int p0), .val (.int p1), .val (.int p2), .val (.int p3), .val (.int p4), .val (.int p5), .val (.ref r1), .val (.ref r2), .val (.ref pl), .val (.int ia), .val (.int ib), .val (.int ic), .val (.int ie), .unset, .unset, .unset, .unset, .unset] [via, (.ref pp), (.ref pp)])) _
    refine XS.aload X54.here hx rfl (hb hby at_108) rfl rfl ?_
    show Steps p.tables e below (T54.setTop (mkF m 110 #[.val (.int p0), .val (.int p1), .val (.int p2), .val (.int p3), .val (.int p4), .val (.int p5), .val (.ref r1), .val (.ref r2), .val (.ref pl), .val (.int ia), .val (.int ib), .val (.int ic), .val (.int ie), .unset, .unset, .unset, .unset, .unset] [(.ref pl), via, (.ref pp), (.ref pp)])) _
    refine XS.iload X54.here hx rfl (hb hby at_110) rfl ?_
    show Steps p.tables e below (T54.setTop (mkF m 112 #[.val (.int p0), .val (.int p1), .val (.int p2), .val (.int p3), .val (.int p4), .val (.int p5), .val (.ref r1), .val (.ref r2), .val (.ref pl), .val (.int ia), .val (.int ib), .val (.int ic), .val (.int ie), .unset, .unset, .unset, .unset, .unset] [(.int ib), (.ref pl), via, (.ref pp), (.ref pp)])) _
    exact κ)
  obtain ⟨cl59, Ar59, -, S59, M59, H59, -⟩ := id V_pl_54
  have in59 : ¬ (ib < 0 ∨ cl59.slots.size ≤ (ib).toNatClampNeg) := inb_of S59 (own_in hib)
  have at59 : cl59.slots[(ib).toNatClampNeg]? = some vib := H59.at in59 (by rw [hvib]; exact own_at s1 s2 s3 hib)
  have pre60 := fun τ (κ : Steps p.tables e below (T54.setTop (mkF m 113 #[.val (.int p0), .val (.int p1), .val (.int p2), .val (.int p3), .val (.int p4), .val (.int p5), .val (.ref r1), .val (.ref r2), .val (.ref pl), .val (.int ia), .val (.int ib), .val (.int ic), .val (.int ie), .unset, .unset, .unset, .unset, .unset] [vib, via, (.ref pp), (.ref pp)])) τ) => pre58 τ (by
    refine X54.aaload hx (j := ib) (v := vib) (by rw [e54]; exact Ar59.1) (State.isArrayOf_alike hZ.alike Ar59.2.1) rfl Ar59.2.2 in59 at59 (g := (mkF m 112 #[.val (.int p0), .val (.int p1), .val (.int p2), .val (.int p3), .val (.int p4), .val (.int p5), .val (.ref r1), .val (.ref r2), .val (.ref pl), .val (.int ia), .val (.int ib), .val (.int ic), .val (.int ie), .unset, .unset, .unset, .unset, .unset] [(.int ib), (.ref pl), via, (.ref pp), (.ref pp)])) rfl rfl (hb hby at_112) _ ?_
    show Steps p.tables e below (T54.setTop (mkF m 113 #[.val (.int p0), .val (.int p1), .val (.int p2), .val (.int p3), .val (.int p4), .val (.int p5), .val (.ref r1), .val (.ref r2), .val (.ref pl), .val (.int ia), .val (.int ib), .val (.int ic), .val (.int ie), .unset, .unset, .unset, .unset, .unset] [vib, via, (.ref pp), (.ref pp)])) _
    exact κ)
  obtain ⟨_, _, ⟨T61, L61, k61, n61⟩, -, X61, ⟨Lc61, hQ61, l61, y61, z61⟩, st61⟩ := X54.specialBack hx (y := (⟨"com/example/fettle/fettle/tree/IdentityPair", "<init>", "(Ljava/lang/Object;Ljava/lang/Object;)V"⟩ : MethodName)) rfl hown (mvT hZ (hw _ (List.mem_of_getElem? (i := 36) rfl))) (mvT hZ (hw _ (List.mem_of_getElem? (i := 37) rfl))) (mvT hZ (hw _ (List.mem_of_getElem? (i := 38) rfl))) (by decide) (backOf (W := 1) (rm7 l Z a0 hw [] pp via vib h54 n0 Z54 r_via r_vib A54 F_first_pp_54 F_second_pp_54 g_pp) hZ (hw _ (List.mem_of_getElem? (i := 38) rfl)) (hw _ (List.mem_of_getElem? (i := 35) rfl)) (by decide) (by decide)) (g := (mkF m 113 #[.val (.int p0), .val (.int p1), .val (.int p2), .val (.int p3), .val (.int p4), .val (.int p5), .val (.ref r1), .val (.ref r2), .val (.ref pl), .val (.int ia), .val (.int ib), .val (.int ic), .val (.int ie), .unset, .unset, .unset, .unset, .unset] [vib, via, (.ref pp), (.ref pp)])) rfl (by rw [hml]; rfl) (Steps.refl _) (a := pp) (argsL := [via, vib]) (rest := [(.ref pp)]) (lenOf pd_1 rfl) rfl (by show 2 * 0 + _ ≤ _; exact Nat.le_of_eq rfl) (hb hby at_113) (fun _ _ => ⟨rfl, e54, (by decide : 10 + 0 ≤ _), (by decide : 23 + 0 ≤ _)⟩)
  dsimp only [Pt.U, Pt.locs, Pt.cells, Pt.slots] at X61 l61 y61 z61 st61 hQ61
  subst l61 y61 z61
  obtain ⟨rfl, Nq61, K61, Ff61, Fs61⟩ := hQ61
  have X00_61 : Old Z n0 T61.heap := X00_54.keep K61 (allS g_pp all0)
  have V_r1_61 : Arv Z T61.heap r1 k2 .char (1 : Int32) [(.int (nar .char ((p5 &&& (255 : Int32)).toUInt32.toUInt16.toUInt32.toInt32)))] (.int (0 : Int32)) := V_r1_54.keep K61 (ninS ne_r1_pp nin0)
  have V_r2_61 : Arv Z T61.heap r2 k9 .char (1 : Int32) [(.int (nar .char ((((p5.toUInt32 >>> ((8 : Int32) &&& 31).toUInt32).toInt32) &&& (255 : Int32)).toUInt32.toUInt16.toUInt32.toInt32)))] (.int (0 : Int32)) := V_r2_54.keep K61 (ninS ne_r2_pp nin0)
  have Es22_61 : Exa Z T61.heap s1 "java/lang/String" := Es22_54.keep K61
  have Es31_61 : Exa Z T61.heap s2 "java/lang/String" := Es31_54.keep K61
  have Es40_61 : Exa Z T61.heap s3 "java/lang/String" := Es40_54.keep K61
  have V_pl_61 : Arv Z T61.heap pl k16 (.object "java/lang/Object") (4 : Int32) [(.ref s1), (.ref s2), (.ref s3), .null] .null := V_pl_54.keep K61 (ninS ne_pl_pp nin0)
  have A54_61 : Exa Z T61.heap pp "com/example/fettle/fettle/tree/IdentityPair" := A54.keep K61
  have Z61 : n0 ≤ T61.heap.size := Nat.le_trans Z54 K61.1
  have N61 := Fr.app N47 Nq61
  have pre62 := fun τ (κ : Steps p.tables e below (T61.setTop (mkF m 116 #[.val (.int p0), .val (.int p1), .val (.int p2), .val (.int p3), .val (.int p4), .val (.int p5), .val (.ref r1), .val (.ref r2), .val (.ref pl), .val (.int ia), .val (.int ib), .val (.int ic), .val (.int ie), .unset, .unset, .unset, .unset, .unset] [(.ref pp)])) τ) => pre60 τ (st61.trans κ)
  have pre63 := fun τ (κ : Steps p.tables e below (T61.setTop (mkF m 118 #[.val (.int p0), .val (.int p1), .val (.int p2), .val (.int p3), .val (.int p4), .val (.int p5), .val (.ref r1), .val (.ref r2), .val (.ref pl), .val (.int ia), .val (.int ib), .val (.int ic), .val (.int ie), .val (.ref pp), .unset, .unset, .unset, .unset] [])) τ) => pre62 τ (by
    refine XS.astore X61.here hx rfl (hb hby at_116) rfl rfl (l' := #[.val (.int p0), .val (.int p1), .val (.int p2), .val (.int p3), .val (.int p4), .val (.int p5), .val (.ref r1), .val (.ref r2), .val (.ref pl), .val (.int ia), .val (.int ib), .val (.int ic), .val (.int ie), .val (.ref pp), .unset, .unset, .unset, .unset]) rfl ?_
    show Steps p.tables e below (T61.setTop (mkF m 118 #[.val (.int p0), .val (.int p1), .val (.int p2), .val (.int p3), .val (.int p4), .val (.int p5), .val (.ref r1), .val (.ref r2), .val (.ref pl), .val (.int ia), .val (.int ib), .val (.int ic), .val (.int ie), .val (.ref pp), .unset, .unset, .unset, .unset] [])) _
    exact κ)
  obtain ⟨T64, h64, X64, e64, E64, A64, D64, -, st64⟩ := newO X61 hx hZ hown (hw _ (List.mem_of_getElem? (i := 33) rfl)) (hw _ (List.mem_of_getElem? (i := 34) rfl)) (hw _ (List.mem_of_getElem? (i := 35) rfl)) rfl (g := (mkF m 118 #[.val (.int p0), .val (.int p1), .val (.int p2), .val (.int p3), .val (.int p4), .val (.int p5), .val (.ref r1), .val (.ref r2), .val (.ref pl), .val (.int ia), .val (.int ib), .val (.int ic), .val (.int ie), .val (.ref pp), .unset, .unset, .unset, .unset] [])) rfl (hb hby at_118) (by decide) (by decide)
  obtain ⟨qq, g64⟩ : ∃ z, z = T61.heap.size := ⟨_, rfl⟩
  rw [← g64] at A64 D64 st64
  have g_qq : n0 ≤ qq := Nat.le_trans Z61 (Nat.le_of_eq g64.symm)
  have ne_r1_qq : r1 ≠ qq := Nat.ne_of_lt (Nat.lt_of_lt_of_le V_r1_61.lt (Nat.le_of_eq g64.symm))
  have ne_r2_qq : r2 ≠ qq := Nat.ne_of_lt (Nat.lt_of_lt_of_le V_r2_61.lt (Nat.le_of_eq g64.symm))
  have ne_s1_qq : s1 ≠ qq := Nat.ne_of_lt (Nat.lt_of_lt_of_le Es22_61.lt (Nat.le_of_eq g64.symm))
  have ne_s2_qq : s2 ≠ qq := Nat.ne_of_lt (Nat.lt_of_lt_of_le Es31_61.lt (Nat.le_of_eq g64.symm))
  have ne_s3_qq : s3 ≠ qq := Nat.ne_of_lt (Nat.lt_of_lt_of_le Es40_61.lt (Nat.le_of_eq g64.symm))
  have ne_pl_qq : pl ≠ qq := Nat.ne_of_lt (Nat.lt_of_lt_of_le V_pl_61.lt (Nat.le_of_eq g64.symm))
  have ne_pp_qq : pp ≠ qq := Nat.ne_of_lt (Nat.lt_of_lt_of_le A54_61.lt (Nat.le_of_eq g64.symm))
  have X00_64 : Old Z n0 h64 := X00_61.ext E64
  have V_r1_64 : Arv Z h64 r1 k2 .char (1 : Int32) [(.int (nar .char ((p5 &&& (255 : Int32)).toUInt32.toUInt16.toUInt32.toInt32)))] (.int (0 : Int32)) := V_r1_61.ext E64
  have V_r2_64 : Arv Z h64 r2 k9 .char (1 : Int32) [(.int (nar .char ((((p5.toUInt32 >>> ((8 : Int32) &&& 31).toUInt32).toInt32) &&& (255 : Int32)).toUInt32.toUInt16.toUInt32.toInt32)))] (.int (0 : Int32)) := V_r2_61.ext E64
  have Es22_64 : Exa Z h64 s1 "java/lang/String" := Es22_61.ext E64
  have Es31_64 : Exa Z h64 s2 "java/lang/String" := Es31_61.ext E64
  have Es40_64 : Exa Z h64 s3 "java/lang/String" := Es40_61.ext E64
  have V_pl_64 : Arv Z h64 pl k16 (.object "java/lang/Object") (4 : Int32) [(.ref s1), (.ref s2), (.ref s3), .null] .null := V_pl_61.ext E64
  have A54_64 : Exa Z h64 pp "com/example/fettle/fettle/tree/IdentityPair" := A54_61.ext E64
  have Ff61_64 : Fld Z h64 pp "com/example/fettle/fettle/tree/IdentityPair" "first" "Ljava/lang/Object;" via := Ff61.ext E64
  have Fs61_64 : Fld Z h64 pp "com/example/fettle/fettle/tree/IdentityPair" "second" "Ljava/lang/Object;" vib := Fs61.ext E64
  have Z64 : n0 ≤ h64.size := Nat.le_trans Z61 E64.1
  have F_first_qq_64 : Fld Z h64 qq "com/example/fettle/fettle/tree/IdentityPair" "first" "Ljava/lang/Object;" .null := D64 (Or.inr (hw _ (List.mem_of_getElem? (i := 41) rfl))) (ty := (.object "java/lang/Object")) (by decide)
  have F_second_qq_64 : Fld Z h64 qq "com/example/fettle/fettle/tree/IdentityPair" "second" "Ljava/lang/Object;" .null := D64 (Or.inr (hw _ (List.mem_of_getElem? (i := 43) rfl))) (ty := (.object "java/lang/Object")) (by decide)
  have pre65 := fun τ (κ : Steps p.tables e below (T64.setTop (mkF m 121 #[.val (.int p0), .val (.int p1), .val (.int p2), .val (.int p3), .val (.int p4), .val (.int p5), .val (.ref r1), .val (.ref r2), .val (.ref pl), .val (.int ia), .val (.int ib), .val (.int ic), .val (.int ie), .val (.ref pp), .unset, .unset, .unset, .unset] [(.ref qq)])) τ) => pre63 τ (st64 _ κ)
  have pre66 := fun τ (κ : Steps p.tables e below (T64.setTop (mkF m 126 #[.val (.int p0), .val (.int p1), .val (.int p2), .val (.int p3), .val (.int p4), .val (.int p5), .val (.ref r1), .val (.ref r2), .val (.ref pl), .val (.int ia), .val (.int ib), .val (.int ic), .val (.int ie), .val (.ref pp), .unset, .unset, .unset, .unset] [(.int ic), (.ref pl), (.ref qq), (.ref qq)])) τ) => pre65 τ (by
    refine XS.dup X64.here hx rfl (hb hby at_121) rfl rfl ?_
    show Steps p.tables e below (T64.setTop (mkF m 122 #[.val (.int p0), .val (.int p1), .val (.int p2), .val (.int p3), .val (.int p4), .val (.int p5), .val (.ref r1), .val (.ref r2), .val (.ref pl), .val (.int ia), .val (.int ib), .val (.int ic), .val (.int ie), .val (.ref pp), .unset, .unset, .unset, .unset] [(.ref qq), (.ref qq)])) _
    refine XS.aload X64.here hx rfl (hb hby at_122) rfl rfl ?_
    show Steps p.tables e below (T64.setTop (mkF m 124 #[.val (.int p0), .val (.int p1), .val (.int p2), .val (.int p3), .val (.int p4), .val (.int p5), .val (.ref r1), .val (.ref r2), .val (.ref pl), .val (.int ia), .val (.int ib), .val (.int ic), .val (.int ie), .val (.ref pp), .unset, .unset, .unset, .unset] [(.ref pl), (.ref qq), (.ref qq)])) _
    refine XS.iload X64.here hx rfl (hb hby at_124) rfl ?_
    show Steps p.tables e below (T64.setTop (mkF m 126 #[.val (.int p0), .val (.int p1), .val (.int p2), .val (.int p3), .val (.int p4), .val (.int p5), .val (.ref r1), .val (.ref r2), .val (.ref pl), .val (.int ia), .val (.int ib), .val (.int ic), .val (.int ie), .val (.ref pp), .unset, .unset, .unset, .unset] [(.int ic), (.ref pl), (.ref qq), (.ref qq)])) _
    exact κ)
  obtain ⟨cl67, Ar67, -, S67, M67, H67, -⟩ := id V_pl_64
  have in67 : ¬ (ic < 0 ∨ cl67.slots.size ≤ (ic).toNatClampNeg) := inb_of S67 (own_in hic)
  have at67 : cl67.slots[(ic).toNatClampNeg]? = some vic := H67.at in67 (by rw [hvic]; exact own_at s1 s2 s3 hic)
  have pre68 := fun τ (κ : Steps p.tables e below (T64.setTop (mkF m 131 #[.val (.int p0), .val (.int p1), .val (.int p2), .val (.int p3), .val (.int p4), .val (.int p5), .val (.ref r1), .val (.ref r2), .val (.ref pl), .val (.int ia), .val (.int ib), .val (.int ic), .val (.int ie), .val (.ref pp), .unset, .unset, .unset, .unset] [(.int ie), (.ref pl), vic, (.ref qq), (.ref qq)])) τ) => pre66 τ (by
    refine X64.aaload hx (j := ic) (v := vic) (by rw [e64]; exact Ar67.1) (State.isArrayOf_alike hZ.alike Ar67.2.1) rfl Ar67.2.2 in67 at67 (g := (mkF m 126 #[.val (.int p0), .val (.int p1), .val (.int p2), .val (.int p3), .val (.int p4), .val (.int p5), .val (.ref r1), .val (.ref r2), .val (.ref pl), .val (.int ia), .val (.int ib), .val (.int ic), .val (.int ie), .val (.ref pp), .unset, .unset, .unset, .unset] [(.int ic), (.ref pl), (.ref qq), (.ref qq)])) rfl rfl (hb hby at_126) _ ?_
    show Steps p.tables e below (T64.setTop (mkF m 127 #[.val (.int p0), .val (.int p1), .val (.int p2), .val (.int p3), .val (.int p4), .val (.int p5), .val (.ref r1), .val (.ref r2), .val (.ref pl), .val (.int ia), .val (.int ib), .val (.int ic), .val (.int ie), .val (.ref pp), .unset, .unset, .unset, .unset] [vic, (.ref qq), (.ref qq)])) _
    refine XS.aload X64.here hx rfl (hb hby at_127) rfl rfl ?_
    show Steps p.tables e below (T64.setTop (mkF m 129 #[.val (.int p0), .val (.int p1), .val (.int p2), .val (.int p3), .val (.int p4), .val (.int p5), .val (.ref r1), .val (.ref r2), .val (.ref pl), .val (.int ia), .val (.int ib), .val (.int ic), .val (.int ie), .val (.ref pp), .unset, .unset, .unset, .unset] [(.ref pl), vic, (.ref qq), (.ref qq)])) _
    refine XS.iload X64.here hx rfl (hb hby at_129) rfl ?_
    show Steps p.tables e below (T64.setTop (mkF m 131 #[.val (.int p0), .val (.int p1), .val (.int p2), .val (.int p3), .val (.int p4), .val (.int p5), .val (.ref r1), .val (.ref r2), .val (.ref pl), .val (.int ia), .val (.int ib), .val (.int ic), .val (.int ie), .val (.ref pp), .unset, .unset, .unset, .unset] [(.int ie), (.ref pl), vic, (.ref qq), (.ref qq)])) _
    exact κ)
  obtain ⟨cl69, Ar69, -, S69, M69, H69, -⟩ := id V_pl_64
  have in69 : ¬ (ie < 0 ∨ cl69.slots.size ≤ (ie).toNatClampNeg) := inb_of S69 (own_in hie)
  have at69 : cl69.slots[(ie).toNatClampNeg]? = some vie := H69.at in69 (by rw [hvie]; exact own_at s1 s2 s3 hie)
  have pre70 := fun τ (κ : Steps p.tables e below (T64.setTop (mkF m 132 #[.val (.int p0), .val (.int p1), .val (.int p2), .val (.int p3), .val (.int p4), .val (.int p5), .val (.ref r1), .val (.ref r2), .val (.ref pl), .val (.int ia), .val (.int ib), .val (.int ic), .val (.int ie), .val (.ref pp), .unset, .unset, .unset, .unset] [vie, vic, (.ref qq), (.ref qq)])) τ) => pre68 τ (by
    refine X64.aaload hx (j := ie) (v := vie) (by rw [e64]; exact Ar69.1) (State.isArrayOf_alike hZ.alike Ar69.2.1) rfl Ar69.2.2 in69 at69 (g := (mkF m 131 #[.val (.int p0), .val (.int p1), .val (.int p2), .val (.int p3), .val (.int p4), .val (.int p5), .val (.ref r1), .val (.ref r2), .val (.ref pl), .val (.int ia), .val (.int ib), .val (.int ic), .val (.int ie), .val (.ref pp), .unset, .unset, .unset, .unset] [(.int ie), (.ref pl), vic, (.ref qq), (.ref qq)])) rfl rfl (hb hby at_131) _ ?_
    show Steps p.tables e below (T64.setTop (mkF m 132 #[.val (.int p0), .val (.int p1), .val (.int p2), .val (.int p3), .val (.int p4), .val (.int p5), .val (.ref r1), .val (.ref r2), .val (.ref pl), .val (.int ia), .val (.int ib), .val (.int ic), .val (.int ie), .val (.ref pp), .unset, .unset, .unset, .unset] [vie, vic, (.ref qq), (.ref qq)])) _
    exact κ)
  obtain ⟨_, _, ⟨T71, L71, k71, n71⟩, -, X71, ⟨Lc71, hQ71, l71, y71, z71⟩, st71⟩ := X64.specialBack hx (y := (⟨"com/example/fettle/fettle/tree/IdentityPair", "<init>", "(Ljava/lang/Object;Ljava/lang/Object;)V"⟩ : MethodName)) rfl hown (mvT hZ (hw _ (List.mem_of_getElem? (i := 36) rfl))) (mvT hZ (hw _ (List.mem_of_getElem? (i := 37) rfl))) (mvT hZ (hw _ (List.mem_of_getElem? (i := 38) rfl))) (by decide) (backOf (W := 1) (rm7 l Z a0 hw [] qq vic vie h64 n0 Z64 r_vic r_vie A64 F_first_qq_64 F_second_qq_64 g_qq) hZ (hw _ (List.mem_of_getElem? (i := 38) rfl)) (hw _ (List.mem_of_getElem? (i := 35) rfl)) (by decide) (by decide)) (g := (mkF m 132 #[.val (.int p0), .val (.int p1), .val (.int p2), .val (.int p3), .val (.int p4), .val (.int p5), .val (.ref r1), .val (.ref r2), .val (.ref pl), .val (.int ia), .val (.int ib), .val (.int ic), .val (.int ie), .val (.ref pp), .unset, .unset, .unset, .unset] [vie, vic, (.ref qq), (.ref qq)])) rfl (by rw [hml]; rfl) (Steps.refl _) (a := qq) (argsL := [vic, vie]) (rest := [(.ref qq)]) (lenOf pd_1 rfl) rfl (by show 2 * 0 + _ ≤ _; exact Nat.le_of_eq rfl) (hb hby at_132) (fun _ _ => ⟨rfl, e64, (by decide : 11 + 0 ≤ _), (by decide : 25 + 0 ≤ _)⟩)
  dsimp only [Pt.U, Pt.locs, Pt.cells, Pt.slots] at X71 l71 y71 z71 st71 hQ71
  subst l71 y71 z71
  obtain ⟨rfl, Nq71, K71, Ff71, Fs71⟩ := hQ71
  have X00_71 : Old Z n0 T71.heap := X00_64.keep K71 (allS g_qq all0)
  have V_r1_71 : Arv Z T71.heap r1 k2 .char (1 : Int32) [(.int (nar .char ((p5 &&& (255 : Int32)).toUInt32.toUInt16.toUInt32.toInt32)))] (.int (0 : Int32)) := V_r1_64.keep K71 (ninS ne_r1_qq nin0)
  have V_r2_71 : Arv Z T71.heap r2 k9 .char (1 : Int32) [(.int (nar .char ((((p5.toUInt32 >>> ((8 : Int32) &&& 31).toUInt32).toInt32) &&& (255 : Int32)).toUInt32.toUInt16.toUInt32.toInt32)))] (.int (0 : Int32)) := V_r2_64.keep K71 (ninS ne_r2_qq nin0)
  have Es22_71 : Exa Z T71.heap s1 "java/lang/String" := Es22_64.keep K71
  have Es31_71 : Exa Z T71.heap s2 "java/lang/String" := Es31_64.keep K71
  have Es40_71 : Exa Z T71.heap s3 "java/lang/String" := Es40_64.keep K71
  have V_pl_71 : Arv Z T71.heap pl k16 (.object "java/lang/Object") (4 : Int32) [(.ref s1), (.ref s2), (.ref s3), .null] .null := V_pl_64.keep K71 (ninS ne_pl_qq nin0)
  have A54_71 : Exa Z T71.heap pp "com/example/fettle/fettle/tree/IdentityPair" := A54_64.keep K71
  have Ff61_71 : Fld Z T71.heap pp "com/example/fettle/fettle/tree/IdentityPair" "first" "Ljava/lang/Object;" via := Ff61_64.keep K71 (ninS ne_pp_qq nin0)
  have Fs61_71 : Fld Z T71.heap pp "com/example/fettle/fettle/tree/IdentityPair" "second" "Ljava/lang/Object;" vib := Fs61_64.keep K71 (ninS ne_pp_qq nin0)
  have A64_71 : Exa Z T71.heap qq "com/example/fettle/fettle/tree/IdentityPair" := A64.keep K71
  have Z71 : n0 ≤ T71.heap.size := Nat.le_trans Z64 K71.1
  have N71 := Fr.app N61 Nq71
  have pre72 := fun τ (κ : Steps p.tables e below (T71.setTop (mkF m 135 #[.val (.int p0), .val (.int p1), .val (.int p2), .val (.int p3), .val (.int p4), .val (.int p5), .val (.ref r1), .val (.ref r2), .val (.ref pl), .val (.int ia), .val (.int ib), .val (.int ic), .val (.int ie), .val (.ref pp), .unset, .unset, .unset, .unset] [(.ref qq)])) τ) => pre70 τ (st71.trans κ)
  have pre73 := fun τ (κ : Steps p.tables e below (T71.setTop (mkF m 141 #[.val (.int p0), .val (.int p1), .val (.int p2), .val (.int p3), .val (.int p4), .val (.int p5), .val (.ref r1), .val (.ref r2), .val (.ref pl), .val (.int ia), .val (.int ib), .val (.int ic), .val (.int ie), .val (.ref pp), .val (.ref qq), .unset, .unset, .unset] [(.int (p4 &&& (3 : Int32)))])) τ) => pre72 τ (by
    refine XS.astore X71.here hx rfl (hb hby at_135) rfl rfl (l' := #[.val (.int p0), .val (.int p1), .val (.int p2), .val (.int p3), .val (.int p4), .val (.int p5), .val (.ref r1), .val (.ref r2), .val (.ref pl), .val (.int ia), .val (.int ib), .val (.int ic), .val (.int ie), .val (.ref pp), .val (.ref qq), .unset, .unset, .unset]) rfl ?_
    show Steps p.tables e below (T71.setTop (mkF m 137 #[.val (.int p0), .val (.int p1), .val (.int p2), .val (.int p3), .val (.int p4), .val (.int p5), .val (.ref r1), .val (.ref r2), .val (.ref pl), .val (.int ia), .val (.int ib), .val (.int ic), .val (.int ie), .val (.ref pp), .val (.ref qq), .unset, .unset, .unset] [])) _
    refine XS.iload X71.here hx rfl (hb hby at_137) rfl ?_
    show Steps p.tables e below (T71.setTop (mkF m 139 #[.val (.int p0), .val (.int p1), .val (.int p2), .val (.int p3), .val (.int p4), .val (.int p5), .val (.ref r1), .val (.ref r2), .val (.ref pl), .val (.int ia), .val (.int ib), .val (.int ic), .val (.int ie), .val (.ref pp), .val (.ref qq), .unset, .unset, .unset] [(.int p4)])) _
    refine XS.iconst X71.here hx rfl (hb hby at_139) ?_
    show Steps p.tables e below (T71.setTop (mkF m 140 #[.val (.int p0), .val (.int p1), .val (.int p2), .val (.int p3), .val (.int p4), .val (.int p5), .val (.ref r1), .val (.ref r2), .val (.ref pl), .val (.int ia), .val (.int ib), .val (.int ic), .val (.int ie), .val (.ref pp), .val (.ref qq), .unset, .unset, .unset] [(.int (3 : Int32)), (.int p4)])) _
    refine XS.iand X71.here hx rfl (hb hby at_140) rfl ?_
    show Steps p.tables e below (T71.setTop (mkF m 141 #[.val (.int p0), .val (.int p1), .val (.int p2), .val (.int p3), .val (.int p4), .val (.int p5), .val (.ref r1), .val (.ref r2), .val (.ref pl), .val (.int ia), .val (.int ib), .val (.int ic), .val (.int ie), .val (.ref pp), .val (.ref qq), .unset, .unset, .unset] [(.int (p4 &&& (3 : Int32)))])) _
    exact κ)
  obtain ⟨kd, h_kd⟩ : ∃ z : Int32, z = (p4 &&& (3 : Int32)) := ⟨_, rfl⟩
  rw [← h_kd] at pre73
  have hkd := own_and3 p4
  rw [← h_kd] at hkd
  have hac : via = vic ↔ ia = ic := by rw [hvia, hvic]; exact own_inj ne_s1_s2 ne_s1_s3 ne_s2_s3 hia hic
  have hbd : vib = vie ↔ ib = ie := by rw [hvib, hvie]; exact own_inj ne_s1_s2 ne_s1_s3 ne_s2_s3 hib hie
  have pre74 := fun τ (κ : Steps p.tables e below (T71.setTop (mkF m 145 #[.val (.int p0), .val (.int p1), .val (.int p2), .val (.int p3), .val (.int p4), .val (.int p5), .val (.ref r1), .val (.ref r2), .val (.ref pl), .val (.int ia), .val (.int ib), .val (.int ic), .val (.int ie), .val (.ref pp), .val (.ref qq), .val (.int kd), .unset, .unset] [(.int kd)])) τ) => pre73 τ (by
    refine XS.istore X71.here hx rfl (hb hby at_141) rfl (l' := #[.val (.int p0), .val (.int p1), .val (.int p2), .val (.int p3), .val (.int p4), .val (.int p5), .val (.ref r1), .val (.ref r2), .val (.ref pl), .val (.int ia), .val (.int ib), .val (.int ic), .val (.int ie), .val (.ref pp), .val (.ref qq), .val (.int kd), .unset, .unset]) rfl ?_
    show Steps p.tables e below (T71.setTop (mkF m 143 #[.val (.int p0), .val (.int p1), .val (.int p2), .val (.int p3), .val (.int p4), .val (.int p5), .val (.ref r1), .val (.ref r2), .val (.ref pl), .val (.int ia), .val (.int ib), .val (.int ic), .val (.int ie), .val (.ref pp), .val (.ref qq), .val (.int kd), .unset, .unset] [])) _
    refine XS.iload X71.here hx rfl (hb hby at_143) rfl ?_
    show Steps p.tables e below (T71.setTop (mkF m 145 #[.val (.int p0), .val (.int p1), .val (.int p2), .val (.int p3), .val (.int p4), .val (.int p5), .val (.ref r1), .val (.ref r2), .val (.ref pl), .val (.int ia), .val (.int ib), .val (.int ic), .val (.int ie), .val (.ref pp), .val (.ref qq), .val (.int kd), .unset, .unset] [(.int kd)])) _
    exact κ)
  by_cases kq0 : kd = (0 : Int32)
  · have pre75 := fun τ (κ : Steps p.tables e below (T71.setTop (mkF m 156 #[.val (.int p0), .val (.int p1), .val (.int p2), .val (.int p3), .val (.int p4), .val (.int p5), .val (.ref r1), .val (.ref r2), .val (.ref pl), .val (.int ia), .val (.int ib), .val (.int ic), .val (.int ie), .val (.ref pp), .val (.ref qq), .val (.int kd), .val (.ref qq), .unset] [(.int ic), (.int ia)])) τ) => pre74 τ (by
      refine XS.ifNo X71.here hx rfl (hb hby at_145) rfl ((if0 _ _).trans (teq kq0).2) ?_
      show Steps p.tables e below (T71.setTop (mkF m 148 #[.val (.int p0), .val (.int p1), .val (.int p2), .val (.int p3), .val (.int p4), .val (.int p5), .val (.ref r1), .val (.ref r2), .val (.ref pl), .val (.int ia), .val (.int ib), .val (.int ic), .val (.int ie), .val (.ref pp), .val (.ref qq), .val (.int kd), .unset, .unset] [])) _
      refine XS.aload X71.here hx rfl (hb hby at_148) rfl rfl ?_
      show Steps p.tables e below (T71.setTop (mkF m 150 #[.val (.int p0), .val (.int p1), .val (.int p2), .val (.int p3), .val (.int p4), .val (.int p5), .val (.ref r1), .val (.ref r2), .val (.ref pl), .val (.int ia), .val (.int ib), .val (.int ic), .val (.int ie), .val (.ref pp), .val (.ref qq), .val (.int kd), .unset, .unset] [(.ref qq)])) _
      refine XS.astore X71.here hx rfl (hb hby at_150) rfl rfl (l' := #[.val (.int p0), .val (.int p1), .val (.int p2), .val (.int p3), .val (.int p4), .val (.int p5), .val (.ref r1), .val (.ref r2), .val (.ref pl), .val (.int ia), .val (.int ib), .val (.int ic), .val (.int ie), .val (.ref pp), .val (.ref qq), .val (.int kd), .val (.ref qq), .unset]) rfl ?_
      show Steps p.tables e below (T71.setTop (mkF m 152 #[.val (.int p0), .val (.int p1), .val (.int p2), .val (.int p3), .val (.int p4), .val (.int p5), .val (.ref r1), .val (.ref r2), .val (.ref pl), .val (.int ia), .val (.int ib), .val (.int ic), .val (.int ie), .val (.ref pp), .val (.ref qq), .val (.int kd), .val (.ref qq), .unset] [])) _
      refine XS.iload X71.here hx rfl (hb hby at_152) rfl ?_
      show Steps p.tables e below (T71.setTop (mkF m 154 #[.val (.int p0), .val (.int p1), .val (.int p2), .val (.int p3), .val (.int p4), .val (.int p5), .val (.ref r1), .val (.ref r2), .val (.ref pl), .val (.int ia), .val (.int ib), .val (.int ic), .val (.int ie), .val (.ref pp), .val (.ref qq), .val (.int kd), .val (.ref qq), .unset] [(.int ia)])) _
      refine XS.iload X71.here hx rfl (hb hby at_154) rfl ?_
      show Steps p.tables e below (T71.setTop (mkF m 156 #[.val (.int p0), .val (.int p1), .val (.int p2), .val (.int p3), .val (.int p4), .val (.int p5), .val (.ref r1), .val (.ref r2), .val (.ref pl), .val (.int ia), .val (.int ib), .val (.int ic), .val (.int ie), .val (.ref pp), .val (.ref qq), .val (.int kd), .val (.ref qq), .unset] [(.int ic), (.int ia)])) _
      exact κ)
    by_cases qa : ia = ic
    · have pre76 := fun τ (κ : Steps p.tables e below (T71.setTop (mkF m 163 #[.val (.int p0), .val (.int p1), .val (.int p2), .val (.int p3), .val (.int p4), .val (.int p5), .val (.ref r1), .val (.ref r2), .val (.ref pl), .val (.int ia), .val (.int ib), .val (.int ic), .val (.int ie), .val (.ref pp), .val (.ref qq), .val (.int kd), .val (.ref qq), .unset] [(.int ie), (.int ib)])) τ) => pre75 τ (by
        refine XS.icmpNo X71.here hx rfl (hb hby at_156) rfl (teq qa).2 ?_
        show Steps p.tables e below (T71.setTop (mkF m 159 #[.val (.int p0), .val (.int p1), .val (.int p2), .val (.int p3), .val (.int p4), .val (.int p5), .val (.ref r1), .val (.ref r2), .val (.ref pl), .val (.int ia), .val (.int ib), .val (.int ic), .val (.int ie), .val (.ref pp), .val (.ref qq), .val (.int kd), .val (.ref qq), .unset] [])) _
        refine XS.iload X71.here hx rfl (hb hby at_159) rfl ?_
        show Steps p.tables e below (T71.setTop (mkF m 161 #[.val (.int p0), .val (.int p1), .val (.int p2), .val (.int p3), .val (.int p4), .val (.int p5), .val (.ref r1), .val (.ref r2), .val (.ref pl), .val (.int ia), .val (.int ib), .val (.int ic), .val (.int ie), .val (.ref pp), .val (.ref qq), .val (.int kd), .val (.ref qq), .unset] [(.int ib)])) _
        refine XS.iload X71.here hx rfl (hb hby at_161) rfl ?_
        show Steps p.tables e below (T71.setTop (mkF m 163 #[.val (.int p0), .val (.int p1), .val (.int p2), .val (.int p3), .val (.int p4), .val (.int p5), .val (.ref r1), .val (.ref r2), .val (.ref pl), .val (.int ia), .val (.int ib), .val (.int ic), .val (.int ie), .val (.ref pp), .val (.ref qq), .val (.int kd), .val (.ref qq), .unset] [(.int ie), (.int ib)])) _
        exact κ)
      by_cases qb : ib = ie
      · have pre77 := fun τ (κ : Steps p.tables e below (T71.setTop (mkF m 221 #[.val (.int p0), .val (.int p1), .val (.int p2), .val (.int p3), .val (.int p4), .val (.int p5), .val (.ref r1), .val (.ref r2), .val (.ref pl), .val (.int ia), .val (.int ib), .val (.int ic), .val (.int ie), .val (.ref pp), .val (.ref qq), .val (.int kd), .val (.ref qq), .val (.int (1 : Int32))] [(.ref qq), (.ref pp)])) τ) => pre76 τ (by
          refine XS.icmpNo X71.here hx rfl (hb hby at_163) rfl (teq qb).2 ?_
          show Steps p.tables e below (T71.setTop (mkF m 166 #[.val (.int p0), .val (.int p1), .val (.int p2), .val (.int p3), .val (.int p4), .val (.int p5), .val (.ref r1), .val (.ref r2), .val (.ref pl), .val (.int ia), .val (.int ib), .val (.int ic), .val (.int ie), .val (.ref pp), .val (.ref qq), .val (.int kd), .val (.ref qq), .unset] [])) _
          refine XS.iconst X71.here hx rfl (hb hby at_166) ?_
          show Steps p.tables e below (T71.setTop (mkF m 167 #[.val (.int p0), .val (.int p1), .val (.int p2), .val (.int p3), .val (.int p4), .val (.int p5), .val (.ref r1), .val (.ref r2), .val (.ref pl), .val (.int ia), .val (.int ib), .val (.int ic), .val (.int ie), .val (.ref pp), .val (.ref qq), .val (.int kd), .val (.ref qq), .unset] [(.int (1 : Int32))])) _
          refine XS.goto X71.here hx rfl (pc0 := 167) (pc' := 171) rfl (hb hby at_167) (by decide) (by decide) ?_
          show Steps p.tables e below (T71.setTop (mkF m 171 #[.val (.int p0), .val (.int p1), .val (.int p2), .val (.int p3), .val (.int p4), .val (.int p5), .val (.ref r1), .val (.ref r2), .val (.ref pl), .val (.int ia), .val (.int ib), .val (.int ic), .val (.int ie), .val (.ref pp), .val (.ref qq), .val (.int kd), .val (.ref qq), .unset] [(.int (1 : Int32))])) _
          refine XS.istore X71.here hx rfl (hb hby at_171) rfl (l' := #[.val (.int p0), .val (.int p1), .val (.int p2), .val (.int p3), .val (.int p4), .val (.int p5), .val (.ref r1), .val (.ref r2), .val (.ref pl), .val (.int ia), .val (.int ib), .val (.int ic), .val (.int ie), .val (.ref pp), .val (.ref qq), .val (.int kd), .val (.ref qq), .val (.int (1 : Int32))]) rfl ?_
          show Steps p.tables e below (T71.setTop (mkF m 173 #[.val (.int p0), .val (.int p1), .val (.int p2), .val (.int p3), .val (.int p4), .val (.int p5), .val (.ref r1), .val (.ref r2), .val (.ref pl), .val (.int ia), .val (.int ib), .val (.int ic), .val (.int ie), .val (.ref pp), .val (.ref qq), .val (.int kd), .val (.ref qq), .val (.int (1 : Int32))] [])) _
          refine XS.goto X71.here hx rfl (pc0 := 173) (pc' := 217) rfl (hb hby at_173) (by decide) (by decide) ?_
          show Steps p.tables e below (T71.setTop (mkF m 217 #[.val (.int p0), .val (.int p1), .val (.int p2), .val (.int p3), .val (.int p4), .val (.int p5), .val (.ref r1), .val (.ref r2), .val (.ref pl), .val (.int ia), .val (.int ib), .val (.int ic), .val (.int ie), .val (.ref pp), .val (.ref qq), .val (.int kd), .val (.ref qq), .val (.int (1 : Int32))] [])) _
          refine XS.aload X71.here hx rfl (hb hby at_217) rfl rfl ?_
          show Steps p.tables e below (T71.setTop (mkF m 219 #[.val (.int p0), .val (.int p1), .val (.int p2), .val (.int p3), .val (.int p4), .val (.int p5), .val (.ref r1), .val (.ref r2), .val (.ref pl), .val (.int ia), .val (.int ib), .val (.int ic), .val (.int ie), .val (.ref pp), .val (.ref qq), .val (.int kd), .val (.ref qq), .val (.int (1 : Int32))] [(.ref pp)])) _
          refine XS.aload X71.here hx rfl (hb hby at_219) rfl rfl ?_
          show Steps p.tables e below (T71.setTop (mkF m 221 #[.val (.int p0), .val (.int p1), .val (.int p2), .val (.int p3), .val (.int p4), .val (.int p5), .val (.ref r1), .val (.ref r2), .val (.ref pl), .val (.int ia), .val (.int ib), .val (.int ic), .val (.int ie), .val (.ref pp), .val (.ref qq), .val (.int kd), .val (.ref qq), .val (.int (1 : Int32))] [(.ref qq), (.ref pp)])) _
          exact κ)
        obtain ⟨cq78, kq78, q78a, q78b, q78c⟩ := isOf hZ rfl A54_71
        obtain ⟨_, _, ⟨T78, L78, k78, n78⟩, -, X78, ⟨Lc78, hQ78, l78, y78, z78⟩, st78⟩ := X71.virtualBack hx (y := (⟨"com/example/fettle/fettle/tree/IdentityPair", "equals", "(Ljava/lang/Object;)Z"⟩ : MethodName)) (z := (⟨"com/example/fettle/fettle/tree/IdentityPair", "equals", "(Ljava/lang/Object;)Z"⟩ : MethodName)) hown (mvT hZ (hw _ (List.mem_of_getElem? (i := 44) rfl))) (mvT hZ (hw _ (List.mem_of_getElem? (i := 45) rfl))) (notFace_of_selects (args := #[]) (mvT hZ (hw _ (List.mem_of_getElem? (i := 47) rfl)))) (mvT hZ (hw _ (List.mem_of_getElem? (i := 47) rfl))) (mvT hZ (hw _ (List.mem_of_getElem? (i := 46) rfl))) (by decide) (backOf (W := 0) (rm8p l Z a0 hw [] pp qq via vib vic vie T71.heap n0 Z71 r_via r_vib r_vic r_vie A64_71 Ff61_71 Fs61_71 Ff71 Fs71) hZ (hw _ (List.mem_of_getElem? (i := 48) rfl)) (hw _ (List.mem_of_getElem? (i := 35) rfl)) (by decide) (by decide)) q78a q78c (g := (mkF m 221 #[.val (.int p0), .val (.int p1), .val (.int p2), .val (.int p3), .val (.int p4), .val (.int p5), .val (.ref r1), .val (.ref r2), .val (.ref pl), .val (.int ia), .val (.int ib), .val (.int ic), .val (.int ie), .val (.ref pp), .val (.ref qq), .val (.int kd), .val (.ref qq), .val (.int (1 : Int32))] [(.ref qq), (.ref pp)])) rfl (by rw [hml]; rfl) (Steps.refl _) (argsL := [(.ref qq)]) (rest := []) (lenOf pd_2 rfl) rfl (by show 2 * 0 + _ ≤ _; exact Nat.le_of_eq rfl) (hb hby at_221) (fun _ _ => ⟨rfl, rfl, (by decide : 11 + 0 ≤ _), (by decide : 25 + 0 ≤ _)⟩)
        dsimp only [Pt.U, Pt.locs, Pt.cells, Pt.slots] at X78 l78 y78 z78 st78 hQ78
        subst l78 y78 z78
        obtain ⟨rfl, Nq78, hh78⟩ := hQ78
        have X00_78 : Old Z n0 T78.heap := by rw [hh78]; exact X00_71
        have V_r1_78 : Arv Z T78.heap r1 k2 .char (1 : Int32) [(.int (nar .char ((p5 &&& (255 : Int32)).toUInt32.toUInt16.toUInt32.toInt32)))] (.int (0 : Int32)) := by rw [hh78]; exact V_r1_71
        have V_r2_78 : Arv Z T78.heap r2 k9 .char (1 : Int32) [(.int (nar .char ((((p5.toUInt32 >>> ((8 : Int32) &&& 31).toUInt32).toInt32) &&& (255 : Int32)).toUInt32.toUInt16.toUInt32.toInt32)))] (.int (0 : Int32)) := by rw [hh78]; exact V_r2_71
        have Es22_78 : Exa Z T78.heap s1 "java/lang/String" := by rw [hh78]; exact Es22_71
        have Es31_78 : Exa Z T78.heap s2 "java/lang/String" := by rw [hh78]; exact Es31_71
        have Es40_78 : Exa Z T78.heap s3 "java/lang/String" := by rw [hh78]; exact Es40_71
        have V_pl_78 : Arv Z T78.heap pl k16 (.object "java/lang/Object") (4 : Int32) [(.ref s1), (.ref s2), (.ref s3), .null] .null := by rw [hh78]; exact V_pl_71
        have A54_78 : Exa Z T78.heap pp "com/example/fettle/fettle/tree/IdentityPair" := by rw [hh78]; exact A54_71
        have Ff61_78 : Fld Z T78.heap pp "com/example/fettle/fettle/tree/IdentityPair" "first" "Ljava/lang/Object;" via := by rw [hh78]; exact Ff61_71
        have Fs61_78 : Fld Z T78.heap pp "com/example/fettle/fettle/tree/IdentityPair" "second" "Ljava/lang/Object;" vib := by rw [hh78]; exact Fs61_71
        have A64_78 : Exa Z T78.heap qq "com/example/fettle/fettle/tree/IdentityPair" := by rw [hh78]; exact A64_71
        have Ff71_78 : Fld Z T78.heap qq "com/example/fettle/fettle/tree/IdentityPair" "first" "Ljava/lang/Object;" vic := by rw [hh78]; exact Ff71
        have Fs71_78 : Fld Z T78.heap qq "com/example/fettle/fettle/tree/IdentityPair" "second" "Ljava/lang/Object;" vie := by rw [hh78]; exact Fs71
        have Z78 : n0 ≤ T78.heap.size := by rw [hh78]; exact Z71
        have N78 := Fr.app N71 Nq78
        have pre79 := fun τ (κ : Steps p.tables e below (T78.setTop (mkF m 224 #[.val (.int p0), .val (.int p1), .val (.int p2), .val (.int p3), .val (.int p4), .val (.int p5), .val (.ref r1), .val (.ref r2), .val (.ref pl), .val (.int ia), .val (.int ib), .val (.int ic), .val (.int ie), .val (.ref pp), .val (.ref qq), .val (.int kd), .val (.ref qq), .val (.int (1 : Int32))] [(.int (if vic = via ∧ vie = vib then 1 else 0))])) τ) => pre77 τ (st78.trans κ)
        have pre80 := fun τ (κ : Steps p.tables e below (T78.setTop (mkF m 234 #[.val (.int p0), .val (.int p1), .val (.int p2), .val (.int p3), .val (.int p4), .val (.int p5), .val (.ref r1), .val (.ref r2), .val (.ref pl), .val (.int ia), .val (.int ib), .val (.int ic), .val (.int ie), .val (.ref pp), .val (.ref qq), .val (.int kd), .val (.ref qq), .val (.int (1 : Int32))] [(.int (1 : Int32))])) τ) => pre79 τ (by
          refine XS.iload X78.here hx rfl (hb hby at_224) rfl ?_
          show Steps p.tables e below (T78.setTop (mkF m 226 #[.val (.int p0), .val (.int p1), .val (.int p2), .val (.int p3), .val (.int p4), .val (.int p5), .val (.ref r1), .val (.ref r2), .val (.ref pl), .val (.int ia), .val (.int ib), .val (.int ic), .val (.int ie), .val (.ref pp), .val (.ref qq), .val (.int kd), .val (.ref qq), .val (.int (1 : Int32))] [(.int (1 : Int32)), (.int (if vic = via ∧ vie = vib then 1 else 0))])) _
          refine XS.icmpNo X78.here hx rfl (hb hby at_226) rfl (teq (if_pos ⟨(hac.mpr qa).symm, (hbd.mpr qb).symm⟩)).2 ?_
          show Steps p.tables e below (T78.setTop (mkF m 229 #[.val (.int p0), .val (.int p1), .val (.int p2), .val (.int p3), .val (.int p4), .val (.int p5), .val (.ref r1), .val (.ref r2), .val (.ref pl), .val (.int ia), .val (.int ib), .val (.int ic), .val (.int ie), .val (.ref pp), .val (.ref qq), .val (.int kd), .val (.ref qq), .val (.int (1 : Int32))] [])) _
          refine XS.iconst X78.here hx rfl (hb hby at_229) ?_
          show Steps p.tables e below (T78.setTop (mkF m 230 #[.val (.int p0), .val (.int p1), .val (.int p2), .val (.int p3), .val (.int p4), .val (.int p5), .val (.ref r1), .val (.ref r2), .val (.ref pl), .val (.int ia), .val (.int ib), .val (.int ic), .val (.int ie), .val (.ref pp), .val (.ref qq), .val (.int kd), .val (.ref qq), .val (.int (1 : Int32))] [(.int (1 : Int32))])) _
          refine XS.goto X78.here hx rfl (pc0 := 230) (pc' := 234) rfl (hb hby at_230) (by decide) (by decide) ?_
          show Steps p.tables e below (T78.setTop (mkF m 234 #[.val (.int p0), .val (.int p1), .val (.int p2), .val (.int p3), .val (.int p4), .val (.int p5), .val (.ref r1), .val (.ref r2), .val (.ref pl), .val (.int ia), .val (.int ib), .val (.int ic), .val (.int ie), .val (.ref pp), .val (.ref qq), .val (.int kd), .val (.ref qq), .val (.int (1 : Int32))] [(.int (1 : Int32))])) _
          exact κ)
        obtain ⟨fs, hr, hrun, hended, hW, hsame⟩ := X78.leave (v := some (.int (1 : Int32))) (fun h => by rw [Bd.returns] at h; cases h)
        refine ⟨_, _, pre80 _ ?_, hrun, hended, _, _, rfl, ?_, ⟨_, rfl⟩, hW, hsame.mono (by decide) (by decide)⟩
        · exact retN X78 hx (t := .boolean) Bd.returns (by simp) (hb hby at_234) hr
        · show Q0 Z p0 p1 p2 p3 p4 p5 zc h0 n0 _ T78.heap _
          exact ⟨rfl, N78⟩
      · have pre81 := fun τ (κ : Steps p.tables e below (T71.setTop (mkF m 221 #[.val (.int p0), .val (.int p1), .val (.int p2), .val (.int p3), .val (.int p4), .val (.int p5), .val (.ref r1), .val (.ref r2), .val (.ref pl), .val (.int ia), .val (.int ib), .val (.int ic), .val (.int ie), .val (.ref pp), .val (.ref qq), .val (.int kd), .val (.ref qq), .val (.int (0 : Int32))] [(.ref qq), (.ref pp)])) τ) => pre76 τ (by
          refine XS.icmpYes X71.here hx rfl (pc0 := 163) (pc' := 170) rfl (hb hby at_163) rfl (feq qb).2 (by decide) (by decide) ?_
          show Steps p.tables e below (T71.setTop (mkF m 170 #[.val (.int p0), .val (.int p1), .val (.int p2), .val (.int p3), .val (.int p4), .val (.int p5), .val (.ref r1), .val (.ref r2), .val (.ref pl), .val (.int ia), .val (.int ib), .val (.int ic), .val (.int ie), .val (.ref pp), .val (.ref qq), .val (.int kd), .val (.ref qq), .unset] [])) _
          refine XS.iconst X71.here hx rfl (hb hby at_170) ?_
          show Steps p.tables e below (T71.setTop (mkF m 171 #[.val (.int p0), .val (.int p1), .val (.int p2), .val (.int p3), .val (.int p4), .val (.int p5), .val (.ref r1), .val (.ref r2), .val (.ref pl), .val (.int ia), .val (.int ib), .val (.int ic), .val (.int ie), .val (.ref pp), .val (.ref qq), .val (.int kd), .val (.ref qq), .unset] [(.int (0 : Int32))])) _
          refine XS.istore X71.here hx rfl (hb hby at_171) rfl (l' := #[.val (.int p0), .val (.int p1), .val (.int p2), .val (.int p3), .val (.int p4), .val (.int p5), .val (.ref r1), .val (.ref r2), .val (.ref pl), .val (.int ia), .val (.int ib), .val (.int ic), .val (.int ie), .val (.ref pp), .val (.ref qq), .val (.int kd), .val (.ref qq), .val (.int (0 : Int32))]) rfl ?_
          show Steps p.tables e below (T71.setTop (mkF m 173 #[.val (.int p0), .val (.int p1), .val (.int p2), .val (.int p3), .val (.int p4), .val (.int p5), .val (.ref r1), .val (.ref r2), .val (.ref pl), .val (.int ia), .val (.int ib), .val (.int ic), .val (.int ie), .val (.ref pp), .val (.ref qq), .val (.int kd), .val (.ref qq), .val (.int (0 : Int32))] [])) _
          refine XS.goto X71.here hx rfl (pc0 := 173) (pc' := 217) rfl (hb hby at_173) (by decide) (by decide) ?_
          show Steps p.tables e below (T71.setTop (mkF m 217 #[.val (.int p0), .val (.int p1), .val (.int p2), .val (.int p3), .val (.int p4), .val (.int p5), .val (.ref r1), .val (.ref r2), .val (.ref pl), .val (.int ia), .val (.int ib), .val (.int ic), .val (.int ie), .val (.ref pp), .val (.ref qq), .val (.int kd), .val (.ref qq), .val (.int (0 : Int32))] [])) _
          refine XS.aload X71.here hx rfl (hb hby at_217) rfl rfl ?_
          show Steps p.tables e below (T71.setTop (mkF m 219 #[.val (.int p0), .val (.int p1), .val (.int p2), .val (.int p3), .val (.int p4), .val (.int p5), .val (.ref r1), .val (.ref r2), .val (.ref pl), .val (.int ia), .val (.int ib), .val (.int ic), .val (.int ie), .val (.ref pp), .val (.ref qq), .val (.int kd), .val (.ref qq), .val (.int (0 : Int32))] [(.ref pp)])) _
          refine XS.aload X71.here hx rfl (hb hby at_219) rfl rfl ?_
          show Steps p.tables e below (T71.setTop (mkF m 221 #[.val (.int p0), .val (.int p1), .val (.int p2), .val (.int p3), .val (.int p4), .val (.int p5), .val (.ref r1), .val (.ref r2), .val (.ref pl), .val (.int ia), .val (.int ib), .val (.int ic), .val (.int ie), .val (.ref pp), .val (.ref qq), .val (.int kd), .val (.ref qq), .val (.int (0 : Int32))] [(.ref qq), (.ref pp)])) _
          exact κ)
        obtain ⟨cq82, kq82, q82a, q82b, q82c⟩ := isOf hZ rfl A54_71
        obtain ⟨_, _, ⟨T82, L82, k82, n82⟩, -, X82, ⟨Lc82, hQ82, l82, y82, z82⟩, st82⟩ := X71.virtualBack hx (y := (⟨"com/example/fettle/fettle/tree/IdentityPair", "equals", "(Ljava/lang/Object;)Z"⟩ : MethodName)) (z := (⟨"com/example/fettle/fettle/tree/IdentityPair", "equals", "(Ljava/lang/Object;)Z"⟩ : MethodName)) hown (mvT hZ (hw _ (List.mem_of_getElem? (i := 44) rfl))) (mvT hZ (hw _ (List.mem_of_getElem? (i := 45) rfl))) (notFace_of_selects (args := #[]) (mvT hZ (hw _ (List.mem_of_getElem? (i := 47) rfl)))) (mvT hZ (hw _ (List.mem_of_getElem? (i := 47) rfl))) (mvT hZ (hw _ (List.mem_of_getElem? (i := 46) rfl))) (by decide) (backOf (W := 0) (rm8p l Z a0 hw [] pp qq via vib vic vie T71.heap n0 Z71 r_via r_vib r_vic r_vie A64_71 Ff61_71 Fs61_71 Ff71 Fs71) hZ (hw _ (List.mem_of_getElem? (i := 48) rfl)) (hw _ (List.mem_of_getElem? (i := 35) rfl)) (by decide) (by decide)) q82a q82c (g := (mkF m 221 #[.val (.int p0), .val (.int p1), .val (.int p2), .val (.int p3), .val (.int p4), .val (.int p5), .val (.ref r1), .val (.ref r2), .val (.ref pl), .val (.int ia), .val (.int ib), .val (.int ic), .val (.int ie), .val (.ref pp), .val (.ref qq), .val (.int kd), .val (.ref qq), .val (.int (0 : Int32))] [(.ref qq), (.ref pp)])) rfl (by rw [hml]; rfl) (Steps.refl _) (argsL := [(.ref qq)]) (rest := []) (lenOf pd_2 rfl) rfl (by show 2 * 0 + _ ≤ _; exact Nat.le_of_eq rfl) (hb hby at_221) (fun _ _ => ⟨rfl, rfl, (by decide : 11 + 0 ≤ _), (by decide : 25 + 0 ≤ _)⟩)
        dsimp only [Pt.U, Pt.locs, Pt.cells, Pt.slots] at X82 l82 y82 z82 st82 hQ82
        subst l82 y82 z82
        obtain ⟨rfl, Nq82, hh82⟩ := hQ82
        have X00_82 : Old Z n0 T82.heap := by rw [hh82]; exact X00_71
        have V_r1_82 : Arv Z T82.heap r1 k2 .char (1 : Int32) [(.int (nar .char ((p5 &&& (255 : Int32)).toUInt32.toUInt16.toUInt32.toInt32)))] (.int (0 : Int32)) := by rw [hh82]; exact V_r1_71
        have V_r2_82 : Arv Z T82.heap r2 k9 .char (1 : Int32) [(.int (nar .char ((((p5.toUInt32 >>> ((8 : Int32) &&& 31).toUInt32).toInt32) &&& (255 : Int32)).toUInt32.toUInt16.toUInt32.toInt32)))] (.int (0 : Int32)) := by rw [hh82]; exact V_r2_71
        have Es22_82 : Exa Z T82.heap s1 "java/lang/String" := by rw [hh82]; exact Es22_71
        have Es31_82 : Exa Z T82.heap s2 "java/lang/String" := by rw [hh82]; exact Es31_71
        have Es40_82 : Exa Z T82.heap s3 "java/lang/String" := by rw [hh82]; exact Es40_71
        have V_pl_82 : Arv Z T82.heap pl k16 (.object "java/lang/Object") (4 : Int32) [(.ref s1), (.ref s2), (.ref s3), .null] .null := by rw [hh82]; exact V_pl_71
        have A54_82 : Exa Z T82.heap pp "com/example/fettle/fettle/tree/IdentityPair" := by rw [hh82]; exact A54_71
        have Ff61_82 : Fld Z T82.heap pp "com/example/fettle/fettle/tree/IdentityPair" "first" "Ljava/lang/Object;" via := by rw [hh82]; exact Ff61_71
        have Fs61_82 : Fld Z T82.heap pp "com/example/fettle/fettle/tree/IdentityPair" "second" "Ljava/lang/Object;" vib := by rw [hh82]; exact Fs61_71
        have A64_82 : Exa Z T82.heap qq "com/example/fettle/fettle/tree/IdentityPair" := by rw [hh82]; exact A64_71
        have Ff71_82 : Fld Z T82.heap qq "com/example/fettle/fettle/tree/IdentityPair" "first" "Ljava/lang/Object;" vic := by rw [hh82]; exact Ff71
        have Fs71_82 : Fld Z T82.heap qq "com/example/fettle/fettle/tree/IdentityPair" "second" "Ljava/lang/Object;" vie := by rw [hh82]; exact Fs71
        have Z82 : n0 ≤ T82.heap.size := by rw [hh82]; exact Z71
        have N82 := Fr.app N71 Nq82
        have pre83 := fun τ (κ : Steps p.tables e below (T82.setTop (mkF m 224 #[.val (.int p0), .val (.int p1), .val (.int p2), .val (.int p3), .val (.int p4), .val (.int p5), .val (.ref r1), .val (.ref r2), .val (.ref pl), .val (.int ia), .val (.int ib), .val (.int ic), .val (.int ie), .val (.ref pp), .val (.ref qq), .val (.int kd), .val (.ref qq), .val (.int (0 : Int32))] [(.int (if vic = via ∧ vie = vib then 1 else 0))])) τ) => pre81 τ (st82.trans κ)
        have pre84 := fun τ (κ : Steps p.tables e below (T82.setTop (mkF m 234 #[.val (.int p0), .val (.int p1), .val (.int p2), .val (.int p3), .val (.int p4), .val (.int p5), .val (.ref r1), .val (.ref r2), .val (.ref pl), .val (.int ia), .val (.int ib), .val (.int ic), .val (.int ie), .val (.ref pp), .val (.ref qq), .val (.int kd), .val (.ref qq), .val (.int (0 : Int32))] [(.int (1 : Int32))])) τ) => pre83 τ (by
          refine XS.iload X82.here hx rfl (hb hby at_224) rfl ?_
          show Steps p.tables e below (T82.setTop (mkF m 226 #[.val (.int p0), .val (.int p1), .val (.int p2), .val (.int p3), .val (.int p4), .val (.int p5), .val (.ref r1), .val (.ref r2), .val (.ref pl), .val (.int ia), .val (.int ib), .val (.int ic), .val (.int ie), .val (.ref pp), .val (.ref qq), .val (.int kd), .val (.ref qq), .val (.int (0 : Int32))] [(.int (0 : Int32)), (.int (if vic = via ∧ vie = vib then 1 else 0))])) _
          refine XS.icmpNo X82.here hx rfl (hb hby at_226) rfl (teq (if_neg fun z => qb (hbd.mp z.2.symm))).2 ?_
          show Steps p.tables e below (T82.setTop (mkF m 229 #[.val (.int p0), .val (.int p1), .val (.int p2), .val (.int p3), .val (.int p4), .val (.int p5), .val (.ref r1), .val (.ref r2), .val (.ref pl), .val (.int ia), .val (.int ib), .val (.int ic), .val (.int ie), .val (.ref pp), .val (.ref qq), .val (.int kd), .val (.ref qq), .val (.int (0 : Int32))] [])) _
          refine XS.iconst X82.here hx rfl (hb hby at_229) ?_
          show Steps p.tables e below (T82.setTop (mkF m 230 #[.val (.int p0), .val (.int p1), .val (.int p2), .val (.int p3), .val (.int p4), .val (.int p5), .val (.ref r1), .val (.ref r2), .val (.ref pl), .val (.int ia), .val (.int ib), .val (.int ic), .val (.int ie), .val (.ref pp), .val (.ref qq), .val (.int kd), .val (.ref qq), .val (.int (0 : Int32))] [(.int (1 : Int32))])) _
          refine XS.goto X82.here hx rfl (pc0 := 230) (pc' := 234) rfl (hb hby at_230) (by decide) (by decide) ?_
          show Steps p.tables e below (T82.setTop (mkF m 234 #[.val (.int p0), .val (.int p1), .val (.int p2), .val (.int p3), .val (.int p4), .val (.int p5), .val (.ref r1), .val (.ref r2), .val (.ref pl), .val (.int ia), .val (.int ib), .val (.int ic), .val (.int ie), .val (.ref pp), .val (.ref qq), .val (.int kd), .val (.ref qq), .val (.int (0 : Int32))] [(.int (1 : Int32))])) _
          exact κ)
        obtain ⟨fs, hr, hrun, hended, hW, hsame⟩ := X82.leave (v := some (.int (1 : Int32))) (fun h => by rw [Bd.returns] at h; cases h)
        refine ⟨_, _, pre84 _ ?_, hrun, hended, _, _, rfl, ?_, ⟨_, rfl⟩, hW, hsame.mono (by decide) (by decide)⟩
        · exact retN X82 hx (t := .boolean) Bd.returns (by simp) (hb hby at_234) hr
        · show Q0 Z p0 p1 p2 p3 p4 p5 zc h0 n0 _ T82.heap _
          exact ⟨rfl, N82⟩
    · have pre85 := fun τ (κ : Steps p.tables e below (T71.setTop (mkF m 221 #[.val (.int p0), .val (.int p1), .val (.int p2), .val (.int p3), .val (.int p4), .val (.int p5), .val (.ref r1), .val (.ref r2), .val (.ref pl), .val (.int ia), .val (.int ib), .val (.int ic), .val (.int ie), .val (.ref pp), .val (.ref qq), .val (.int kd), .val (.ref qq), .val (.int (0 : Int32))] [(.ref qq), (.ref pp)])) τ) => pre75 τ (by
        refine XS.icmpYes X71.here hx rfl (pc0 := 156) (pc' := 170) rfl (hb hby at_156) rfl (feq qa).2 (by decide) (by decide) ?_
        show Steps p.tables e below (T71.setTop (mkF m 170 #[.val (.int p0), .val (.int p1), .val (.int p2), .val (.int p3), .val (.int p4), .val (.int p5), .val (.ref r1), .val (.ref r2), .val (.ref pl), .val (.int ia), .val (.int ib), .val (.int ic), .val (.int ie), .val (.ref pp), .val (.ref qq), .val (.int kd), .val (.ref qq), .unset] [])) _
        refine XS.iconst X71.here hx rfl (hb hby at_170) ?_
        show Steps p.tables e below (T71.setTop (mkF m 171 #[.val (.int p0), .val (.int p1), .val (.int p2), .val (.int p3), .val (.int p4), .val (.int p5), .val (.ref r1), .val (.ref r2), .val (.ref pl), .val (.int ia), .val (.int ib), .val (.int ic), .val (.int ie), .val (.ref pp), .val (.ref qq), .val (.int kd), .val (.ref qq), .unset] [(.int (0 : Int32))])) _
        refine XS.istore X71.here hx rfl (hb hby at_171) rfl (l' := #[.val (.int p0), .val (.int p1), .val (.int p2), .val (.int p3), .val (.int p4), .val (.int p5), .val (.ref r1), .val (.ref r2), .val (.ref pl), .val (.int ia), .val (.int ib), .val (.int ic), .val (.int ie), .val (.ref pp), .val (.ref qq), .val (.int kd), .val (.ref qq), .val (.int (0 : Int32))]) rfl ?_
        show Steps p.tables e below (T71.setTop (mkF m 173 #[.val (.int p0), .val (.int p1), .val (.int p2), .val (.int p3), .val (.int p4), .val (.int p5), .val (.ref r1), .val (.ref r2), .val (.ref pl), .val (.int ia), .val (.int ib), .val (.int ic), .val (.int ie), .val (.ref pp), .val (.ref qq), .val (.int kd), .val (.ref qq), .val (.int (0 : Int32))] [])) _
        refine XS.goto X71.here hx rfl (pc0 := 173) (pc' := 217) rfl (hb hby at_173) (by decide) (by decide) ?_
        show Steps p.tables e below (T71.setTop (mkF m 217 #[.val (.int p0), .val (.int p1), .val (.int p2), .val (.int p3), .val (.int p4), .val (.int p5), .val (.ref r1), .val (.ref r2), .val (.ref pl), .val (.int ia), .val (.int ib), .val (.int ic), .val (.int ie), .val (.ref pp), .val (.ref qq), .val (.int kd), .val (.ref qq), .val (.int (0 : Int32))] [])) _
        refine XS.aload X71.here hx rfl (hb hby at_217) rfl rfl ?_
        show Steps p.tables e below (T71.setTop (mkF m 219 #[.val (.int p0), .val (.int p1), .val (.int p2), .val (.int p3), .val (.int p4), .val (.int p5), .val (.ref r1), .val (.ref r2), .val (.ref pl), .val (.int ia), .val (.int ib), .val (.int ic), .val (.int ie), .val (.ref pp), .val (.ref qq), .val (.int kd), .val (.ref qq), .val (.int (0 : Int32))] [(.ref pp)])) _
        refine XS.aload X71.here hx rfl (hb hby at_219) rfl rfl ?_
        show Steps p.tables e below (T71.setTop (mkF m 221 #[.val (.int p0), .val (.int p1), .val (.int p2), .val (.int p3), .val (.int p4), .val (.int p5), .val (.ref r1), .val (.ref r2), .val (.ref pl), .val (.int ia), .val (.int ib), .val (.int ic), .val (.int ie), .val (.ref pp), .val (.ref qq), .val (.int kd), .val (.ref qq), .val (.int (0 : Int32))] [(.ref qq), (.ref pp)])) _
        exact κ)
      obtain ⟨cq86, kq86, q86a, q86b, q86c⟩ := isOf hZ rfl A54_71
      obtain ⟨_, _, ⟨T86, L86, k86, n86⟩, -, X86, ⟨Lc86, hQ86, l86, y86, z86⟩, st86⟩ := X71.virtualBack hx (y := (⟨"com/example/fettle/fettle/tree/IdentityPair", "equals", "(Ljava/lang/Object;)Z"⟩ : MethodName)) (z := (⟨"com/example/fettle/fettle/tree/IdentityPair", "equals", "(Ljava/lang/Object;)Z"⟩ : MethodName)) hown (mvT hZ (hw _ (List.mem_of_getElem? (i := 44) rfl))) (mvT hZ (hw _ (List.mem_of_getElem? (i := 45) rfl))) (notFace_of_selects (args := #[]) (mvT hZ (hw _ (List.mem_of_getElem? (i := 47) rfl)))) (mvT hZ (hw _ (List.mem_of_getElem? (i := 47) rfl))) (mvT hZ (hw _ (List.mem_of_getElem? (i := 46) rfl))) (by decide) (backOf (W := 0) (rm8p l Z a0 hw [] pp qq via vib vic vie T71.heap n0 Z71 r_via r_vib r_vic r_vie A64_71 Ff61_71 Fs61_71 Ff71 Fs71) hZ (hw _ (List.mem_of_getElem? (i := 48) rfl)) (hw _ (List.mem_of_getElem? (i := 35) rfl)) (by decide) (by decide)) q86a q86c (g := (mkF m 221 #[.val (.int p0), .val (.int p1), .val (.int p2), .val (.int p3), .val (.int p4), .val (.int p5), .val (.ref r1), .val (.ref r2), .val (.ref pl), .val (.int ia), .val (.int ib), .val (.int ic), .val (.int ie), .val (.ref pp), .val (.ref qq), .val (.int kd), .val (.ref qq), .val (.int (0 : Int32))] [(.ref qq), (.ref pp)])) rfl (by rw [hml]; rfl) (Steps.refl _) (argsL := [(.ref qq)]) (rest := []) (lenOf pd_2 rfl) rfl (by show 2 * 0 + _ ≤ _; exact Nat.le_of_eq rfl) (hb hby at_221) (fun _ _ => ⟨rfl, rfl, (by decide : 11 + 0 ≤ _), (by decide : 25 + 0 ≤ _)⟩)
      dsimp only [Pt.U, Pt.locs, Pt.cells, Pt.slots] at X86 l86 y86 z86 st86 hQ86
      subst l86 y86 z86
      obtain ⟨rfl, Nq86, hh86⟩ := hQ86
      have X00_86 : Old Z n0 T86.heap := by rw [hh86]; exact X00_71
      have V_r1_86 : Arv Z T86.heap r1 k2 .char (1 : Int32) [(.int (nar .char ((p5 &&& (255 : Int32)).toUInt32.toUInt16.toUInt32.toInt32)))] (.int (0 : Int32)) := by rw [hh86]; exact V_r1_71
      have V_r2_86 : Arv Z T86.heap r2 k9 .char (1 : Int32) [(.int (nar .char ((((p5.toUInt32 >>> ((8 : Int32) &&& 31).toUInt32).toInt32) &&& (255 : Int32)).toUInt32.toUInt16.toUInt32.toInt32)))] (.int (0 : Int32)) := by rw [hh86]; exact V_r2_71
      have Es22_86 : Exa Z T86.heap s1 "java/lang/String" := by rw [hh86]; exact Es22_71
      have Es31_86 : Exa Z T86.heap s2 "java/lang/String" := by rw [hh86]; exact Es31_71
      have Es40_86 : Exa Z T86.heap s3 "java/lang/String" := by rw [hh86]; exact Es40_71
      have V_pl_86 : Arv Z T86.heap pl k16 (.object "java/lang/Object") (4 : Int32) [(.ref s1), (.ref s2), (.ref s3), .null] .null := by rw [hh86]; exact V_pl_71
      have A54_86 : Exa Z T86.heap pp "com/example/fettle/fettle/tree/IdentityPair" := by rw [hh86]; exact A54_71
      have Ff61_86 : Fld Z T86.heap pp "com/example/fettle/fettle/tree/IdentityPair" "first" "Ljava/lang/Object;" via := by rw [hh86]; exact Ff61_71
      have Fs61_86 : Fld Z T86.heap pp "com/example/fettle/fettle/tree/IdentityPair" "second" "Ljava/lang/Object;" vib := by rw [hh86]; exact Fs61_71
      have A64_86 : Exa Z T86.heap qq "com/example/fettle/fettle/tree/IdentityPair" := by rw [hh86]; exact A64_71
      have Ff71_86 : Fld Z T86.heap qq "com/example/fettle/fettle/tree/IdentityPair" "first" "Ljava/lang/Object;" vic := by rw [hh86]; exact Ff71
      have Fs71_86 : Fld Z T86.heap qq "com/example/fettle/fettle/tree/IdentityPair" "second" "Ljava/lang/Object;" vie := by rw [hh86]; exact Fs71
      have Z86 : n0 ≤ T86.heap.size := by rw [hh86]; exact Z71
      have N86 := Fr.app N71 Nq86
      have pre87 := fun τ (κ : Steps p.tables e below (T86.setTop (mkF m 224 #[.val (.int p0), .val (.int p1), .val (.int p2), .val (.int p3), .val (.int p4), .val (.int p5), .val (.ref r1), .val (.ref r2), .val (.ref pl), .val (.int ia), .val (.int ib), .val (.int ic), .val (.int ie), .val (.ref pp), .val (.ref qq), .val (.int kd), .val (.ref qq), .val (.int (0 : Int32))] [(.int (if vic = via ∧ vie = vib then 1 else 0))])) τ) => pre85 τ (st86.trans κ)
      have pre88 := fun τ (κ : Steps p.tables e below (T86.setTop (mkF m 234 #[.val (.int p0), .val (.int p1), .val (.int p2), .val (.int p3), .val (.int p4), .val (.int p5), .val (.ref r1), .val (.ref r2), .val (.ref pl), .val (.int ia), .val (.int ib), .val (.int ic), .val (.int ie), .val (.ref pp), .val (.ref qq), .val (.int kd), .val (.ref qq), .val (.int (0 : Int32))] [(.int (1 : Int32))])) τ) => pre87 τ (by
        refine XS.iload X86.here hx rfl (hb hby at_224) rfl ?_
        show Steps p.tables e below (T86.setTop (mkF m 226 #[.val (.int p0), .val (.int p1), .val (.int p2), .val (.int p3), .val (.int p4), .val (.int p5), .val (.ref r1), .val (.ref r2), .val (.ref pl), .val (.int ia), .val (.int ib), .val (.int ic), .val (.int ie), .val (.ref pp), .val (.ref qq), .val (.int kd), .val (.ref qq), .val (.int (0 : Int32))] [(.int (0 : Int32)), (.int (if vic = via ∧ vie = vib then 1 else 0))])) _
        refine XS.icmpNo X86.here hx rfl (hb hby at_226) rfl (teq (if_neg fun z => qa (hac.mp z.1.symm))).2 ?_
        show Steps p.tables e below (T86.setTop (mkF m 229 #[.val (.int p0), .val (.int p1), .val (.int p2), .val (.int p3), .val (.int p4), .val (.int p5), .val (.ref r1), .val (.ref r2), .val (.ref pl), .val (.int ia), .val (.int ib), .val (.int ic), .val (.int ie), .val (.ref pp), .val (.ref qq), .val (.int kd), .val (.ref qq), .val (.int (0 : Int32))] [])) _
        refine XS.iconst X86.here hx rfl (hb hby at_229) ?_
        show Steps p.tables e below (T86.setTop (mkF m 230 #[.val (.int p0), .val (.int p1), .val (.int p2), .val (.int p3), .val (.int p4), .val (.int p5), .val (.ref r1), .val (.ref r2), .val (.ref pl), .val (.int ia), .val (.int ib), .val (.int ic), .val (.int ie), .val (.ref pp), .val (.ref qq), .val (.int kd), .val (.ref qq), .val (.int (0 : Int32))] [(.int (1 : Int32))])) _
        refine XS.goto X86.here hx rfl (pc0 := 230) (pc' := 234) rfl (hb hby at_230) (by decide) (by decide) ?_
        show Steps p.tables e below (T86.setTop (mkF m 234 #[.val (.int p0), .val (.int p1), .val (.int p2), .val (.int p3), .val (.int p4), .val (.int p5), .val (.ref r1), .val (.ref r2), .val (.ref pl), .val (.int ia), .val (.int ib), .val (.int ic), .val (.int ie), .val (.ref pp), .val (.ref qq), .val (.int kd), .val (.ref qq), .val (.int (0 : Int32))] [(.int (1 : Int32))])) _
        exact κ)
      obtain ⟨fs, hr, hrun, hended, hW, hsame⟩ := X86.leave (v := some (.int (1 : Int32))) (fun h => by rw [Bd.returns] at h; cases h)
      refine ⟨_, _, pre88 _ ?_, hrun, hended, _, _, rfl, ?_, ⟨_, rfl⟩, hW, hsame.mono (by decide) (by decide)⟩
      · exact retN X86 hx (t := .boolean) Bd.returns (by simp) (hb hby at_234) hr
      · show Q0 Z p0 p1 p2 p3 p4 p5 zc h0 n0 _ T86.heap _
        exact ⟨rfl, N86⟩
  · have pre89 := fun τ (κ : Steps p.tables e below (T71.setTop (mkF m 179 #[.val (.int p0), .val (.int p1), .val (.int p2), .val (.int p3), .val (.int p4), .val (.int p5), .val (.ref r1), .val (.ref r2), .val (.ref pl), .val (.int ia), .val (.int ib), .val (.int ic), .val (.int ie), .val (.ref pp), .val (.ref qq), .val (.int kd), .unset, .unset] [(.int (1 : Int32)), (.int kd)])) τ) => pre74 τ (by
      refine XS.ifYes X71.here hx rfl (pc0 := 145) (pc' := 176) rfl (hb hby at_145) rfl ((if0 _ _).trans (feq kq0).2) (by decide) (by decide) ?_
      show Steps p.tables e below (T71.setTop (mkF m 176 #[.val (.int p0), .val (.int p1), .val (.int p2), .val (.int p3), .val (.int p4), .val (.int p5), .val (.ref r1), .val (.ref r2), .val (.ref pl), .val (.int ia), .val (.int ib), .val (.int ic), .val (.int ie), .val (.ref pp), .val (.ref qq), .val (.int kd), .unset, .unset] [])) _
      refine XS.iload X71.here hx rfl (hb hby at_176) rfl ?_
      show Steps p.tables e below (T71.setTop (mkF m 178 #[.val (.int p0), .val (.int p1), .val (.int p2), .val (.int p3), .val (.int p4), .val (.int p5), .val (.ref r1), .val (.ref r2), .val (.ref pl), .val (.int ia), .val (.int ib), .val (.int ic), .val (.int ie), .val (.ref pp), .val (.ref qq), .val (.int kd), .unset, .unset] [(.int kd)])) _
      refine XS.iconst X71.here hx rfl (hb hby at_178) ?_
      show Steps p.tables e below (T71.setTop (mkF m 179 #[.val (.int p0), .val (.int p1), .val (.int p2), .val (.int p3), .val (.int p4), .val (.int p5), .val (.ref r1), .val (.ref r2), .val (.ref pl), .val (.int ia), .val (.int ib), .val (.int ic), .val (.int ie), .val (.ref pp), .val (.ref qq), .val (.int kd), .unset, .unset] [(.int (1 : Int32)), (.int kd)])) _
      exact κ)
    by_cases kq1 : kd = (1 : Int32)
    · have pre90 := fun τ (κ : Steps p.tables e below (T71.setTop (mkF m 221 #[.val (.int p0), .val (.int p1), .val (.int p2), .val (.int p3), .val (.int p4), .val (.int p5), .val (.ref r1), .val (.ref r2), .val (.ref pl), .val (.int ia), .val (.int ib), .val (.int ic), .val (.int ie), .val (.ref pp), .val (.ref qq), .val (.int kd), .val .null, .val (.int (0 : Int32))] [.null, (.ref pp)])) τ) => pre89 τ (by
        refine XS.icmpNo X71.here hx rfl (hb hby at_179) rfl (teq kq1).2 ?_
        show Steps p.tables e below (T71.setTop (mkF m 182 #[.val (.int p0), .val (.int p1), .val (.int p2), .val (.int p3), .val (.int p4), .val (.int p5), .val (.ref r1), .val (.ref r2), .val (.ref pl), .val (.int ia), .val (.int ib), .val (.int ic), .val (.int ie), .val (.ref pp), .val (.ref qq), .val (.int kd), .unset, .unset] [])) _
        refine XS.aconstNull X71.here hx rfl (hb hby at_182) ?_
        show Steps p.tables e below (T71.setTop (mkF m 183 #[.val (.int p0), .val (.int p1), .val (.int p2), .val (.int p3), .val (.int p4), .val (.int p5), .val (.ref r1), .val (.ref r2), .val (.ref pl), .val (.int ia), .val (.int ib), .val (.int ic), .val (.int ie), .val (.ref pp), .val (.ref qq), .val (.int kd), .unset, .unset] [.null])) _
        refine XS.astore X71.here hx rfl (hb hby at_183) rfl rfl (l' := #[.val (.int p0), .val (.int p1), .val (.int p2), .val (.int p3), .val (.int p4), .val (.int p5), .val (.ref r1), .val (.ref r2), .val (.ref pl), .val (.int ia), .val (.int ib), .val (.int ic), .val (.int ie), .val (.ref pp), .val (.ref qq), .val (.int kd), .val .null, .unset]) rfl ?_
        show Steps p.tables e below (T71.setTop (mkF m 185 #[.val (.int p0), .val (.int p1), .val (.int p2), .val (.int p3), .val (.int p4), .val (.int p5), .val (.ref r1), .val (.ref r2), .val (.ref pl), .val (.int ia), .val (.int ib), .val (.int ic), .val (.int ie), .val (.ref pp), .val (.ref qq), .val (.int kd), .val .null, .unset] [])) _
        refine XS.iconst X71.here hx rfl (hb hby at_185) ?_
        show Steps p.tables e below (T71.setTop (mkF m 186 #[.val (.int p0), .val (.int p1), .val (.int p2), .val (.int p3), .val (.int p4), .val (.int p5), .val (.ref r1), .val (.ref r2), .val (.ref pl), .val (.int ia), .val (.int ib), .val (.int ic), .val (.int ie), .val (.ref pp), .val (.ref qq), .val (.int kd), .val .null, .unset] [(.int (0 : Int32))])) _
        refine XS.istore X71.here hx rfl (hb hby at_186) rfl (l' := #[.val (.int p0), .val (.int p1), .val (.int p2), .val (.int p3), .val (.int p4), .val (.int p5), .val (.ref r1), .val (.ref r2), .val (.ref pl), .val (.int ia), .val (.int ib), .val (.int ic), .val (.int ie), .val (.ref pp), .val (.ref qq), .val (.int kd), .val .null, .val (.int (0 : Int32))]) rfl ?_
        show Steps p.tables e below (T71.setTop (mkF m 188 #[.val (.int p0), .val (.int p1), .val (.int p2), .val (.int p3), .val (.int p4), .val (.int p5), .val (.ref r1), .val (.ref r2), .val (.ref pl), .val (.int ia), .val (.int ib), .val (.int ic), .val (.int ie), .val (.ref pp), .val (.ref qq), .val (.int kd), .val .null, .val (.int (0 : Int32))] [])) _
        refine XS.goto X71.here hx rfl (pc0 := 188) (pc' := 217) rfl (hb hby at_188) (by decide) (by decide) ?_
        show Steps p.tables e below (T71.setTop (mkF m 217 #[.val (.int p0), .val (.int p1), .val (.int p2), .val (.int p3), .val (.int p4), .val (.int p5), .val (.ref r1), .val (.ref r2), .val (.ref pl), .val (.int ia), .val (.int ib), .val (.int ic), .val (.int ie), .val (.ref pp), .val (.ref qq), .val (.int kd), .val .null, .val (.int (0 : Int32))] [])) _
        refine XS.aload X71.here hx rfl (hb hby at_217) rfl rfl ?_
        show Steps p.tables e below (T71.setTop (mkF m 219 #[.val (.int p0), .val (.int p1), .val (.int p2), .val (.int p3), .val (.int p4), .val (.int p5), .val (.ref r1), .val (.ref r2), .val (.ref pl), .val (.int ia), .val (.int ib), .val (.int ic), .val (.int ie), .val (.ref pp), .val (.ref qq), .val (.int kd), .val .null, .val (.int (0 : Int32))] [(.ref pp)])) _
        refine XS.aload X71.here hx rfl (hb hby at_219) rfl rfl ?_
        show Steps p.tables e below (T71.setTop (mkF m 221 #[.val (.int p0), .val (.int p1), .val (.int p2), .val (.int p3), .val (.int p4), .val (.int p5), .val (.ref r1), .val (.ref r2), .val (.ref pl), .val (.int ia), .val (.int ib), .val (.int ic), .val (.int ie), .val (.ref pp), .val (.ref qq), .val (.int kd), .val .null, .val (.int (0 : Int32))] [.null, (.ref pp)])) _
        exact κ)
      obtain ⟨cq91, kq91, q91a, q91b, q91c⟩ := isOf hZ rfl A54_71
      obtain ⟨_, _, ⟨T91, L91, k91, n91⟩, -, X91, ⟨Lc91, hQ91, l91, y91, z91⟩, st91⟩ := X71.virtualBack hx (y := (⟨"com/example/fettle/fettle/tree/IdentityPair", "equals", "(Ljava/lang/Object;)Z"⟩ : MethodName)) (z := (⟨"com/example/fettle/fettle/tree/IdentityPair", "equals", "(Ljava/lang/Object;)Z"⟩ : MethodName)) hown (mvT hZ (hw _ (List.mem_of_getElem? (i := 44) rfl))) (mvT hZ (hw _ (List.mem_of_getElem? (i := 45) rfl))) (notFace_of_selects (args := #[]) (mvT hZ (hw _ (List.mem_of_getElem? (i := 47) rfl)))) (mvT hZ (hw _ (List.mem_of_getElem? (i := 47) rfl))) (mvT hZ (hw _ (List.mem_of_getElem? (i := 46) rfl))) (by decide) (backOf (W := 0) (rm8n l Z a0 hw [] pp T71.heap n0 Z71) hZ (hw _ (List.mem_of_getElem? (i := 48) rfl)) (hw _ (List.mem_of_getElem? (i := 35) rfl)) (by decide) (by decide)) q91a q91c (g := (mkF m 221 #[.val (.int p0), .val (.int p1), .val (.int p2), .val (.int p3), .val (.int p4), .val (.int p5), .val (.ref r1), .val (.ref r2), .val (.ref pl), .val (.int ia), .val (.int ib), .val (.int ic), .val (.int ie), .val (.ref pp), .val (.ref qq), .val (.int kd), .val .null, .val (.int (0 : Int32))] [.null, (.ref pp)])) rfl (by rw [hml]; rfl) (Steps.refl _) (argsL := [.null]) (rest := []) (lenOf pd_2 rfl) rfl (by show 2 * 0 + _ ≤ _; exact Nat.le_of_eq rfl) (hb hby at_221) (fun _ _ => ⟨rfl, rfl, (by decide : 11 + 0 ≤ _), (by decide : 25 + 0 ≤ _)⟩)
      dsimp only [Pt.U, Pt.locs, Pt.cells, Pt.slots] at X91 l91 y91 z91 st91 hQ91
      subst l91 y91 z91
      obtain ⟨rfl, Nq91, hh91⟩ := hQ91
      have X00_91 : Old Z n0 T91.heap := by rw [hh91]; exact X00_71
      have V_r1_91 : Arv Z T91.heap r1 k2 .char (1 : Int32) [(.int (nar .char ((p5 &&& (255 : Int32)).toUInt32.toUInt16.toUInt32.toInt32)))] (.int (0 : Int32)) := by rw [hh91]; exact V_r1_71
      have V_r2_91 : Arv Z T91.heap r2 k9 .char (1 : Int32) [(.int (nar .char ((((p5.toUInt32 >>> ((8 : Int32) &&& 31).toUInt32).toInt32) &&& (255 : Int32)).toUInt32.toUInt16.toUInt32.toInt32)))] (.int (0 : Int32)) := by rw [hh91]; exact V_r2_71
      have Es22_91 : Exa Z T91.heap s1 "java/lang/String" := by rw [hh91]; exact Es22_71
      have Es31_91 : Exa Z T91.heap s2 "java/lang/String" := by rw [hh91]; exact Es31_71
      have Es40_91 : Exa Z T91.heap s3 "java/lang/String" := by rw [hh91]; exact Es40_71
      have V_pl_91 : Arv Z T91.heap pl k16 (.object "java/lang/Object") (4 : Int32) [(.ref s1), (.ref s2), (.ref s3), .null] .null := by rw [hh91]; exact V_pl_71
      have A54_91 : Exa Z T91.heap pp "com/example/fettle/fettle/tree/IdentityPair" := by rw [hh91]; exact A54_71
      have Ff61_91 : Fld Z T91.heap pp "com/example/fettle/fettle/tree/IdentityPair" "first" "Ljava/lang/Object;" via := by rw [hh91]; exact Ff61_71
      have Fs61_91 : Fld Z T91.heap pp "com/example/fettle/fettle/tree/IdentityPair" "second" "Ljava/lang/Object;" vib := by rw [hh91]; exact Fs61_71
      have A64_91 : Exa Z T91.heap qq "com/example/fettle/fettle/tree/IdentityPair" := by rw [hh91]; exact A64_71
      have Ff71_91 : Fld Z T91.heap qq "com/example/fettle/fettle/tree/IdentityPair" "first" "Ljava/lang/Object;" vic := by rw [hh91]; exact Ff71
      have Fs71_91 : Fld Z T91.heap qq "com/example/fettle/fettle/tree/IdentityPair" "second" "Ljava/lang/Object;" vie := by rw [hh91]; exact Fs71
      have Z91 : n0 ≤ T91.heap.size := by rw [hh91]; exact Z71
      have N91 := Fr.app N71 Nq91
      have pre92 := fun τ (κ : Steps p.tables e below (T91.setTop (mkF m 224 #[.val (.int p0), .val (.int p1), .val (.int p2), .val (.int p3), .val (.int p4), .val (.int p5), .val (.ref r1), .val (.ref r2), .val (.ref pl), .val (.int ia), .val (.int ib), .val (.int ic), .val (.int ie), .val (.ref pp), .val (.ref qq), .val (.int kd), .val .null, .val (.int (0 : Int32))] [(.int (0 : Int32))])) τ) => pre90 τ (st91.trans κ)
      have pre93 := fun τ (κ : Steps p.tables e below (T91.setTop (mkF m 234 #[.val (.int p0), .val (.int p1), .val (.int p2), .val (.int p3), .val (.int p4), .val (.int p5), .val (.ref r1), .val (.ref r2), .val (.ref pl), .val (.int ia), .val (.int ib), .val (.int ic), .val (.int ie), .val (.ref pp), .val (.ref qq), .val (.int kd), .val .null, .val (.int (0 : Int32))] [(.int (1 : Int32))])) τ) => pre92 τ (by
        refine XS.iload X91.here hx rfl (hb hby at_224) rfl ?_
        show Steps p.tables e below (T91.setTop (mkF m 226 #[.val (.int p0), .val (.int p1), .val (.int p2), .val (.int p3), .val (.int p4), .val (.int p5), .val (.ref r1), .val (.ref r2), .val (.ref pl), .val (.int ia), .val (.int ib), .val (.int ic), .val (.int ie), .val (.ref pp), .val (.ref qq), .val (.int kd), .val .null, .val (.int (0 : Int32))] [(.int (0 : Int32)), (.int (0 : Int32))])) _
        refine XS.icmpNo X91.here hx rfl (hb hby at_226) rfl (teq rfl).2 ?_
        show Steps p.tables e below (T91.setTop (mkF m 229 #[.val (.int p0), .val (.int p1), .val (.int p2), .val (.int p3), .val (.int p4), .val (.int p5), .val (.ref r1), .val (.ref r2), .val (.ref pl), .val (.int ia), .val (.int ib), .val (.int ic), .val (.int ie), .val (.ref pp), .val (.ref qq), .val (.int kd), .val .null, .val (.int (0 : Int32))] [])) _
        refine XS.iconst X91.here hx rfl (hb hby at_229) ?_
        show Steps p.tables e below (T91.setTop (mkF m 230 #[.val (.int p0), .val (.int p1), .val (.int p2), .val (.int p3), .val (.int p4), .val (.int p5), .val (.ref r1), .val (.ref r2), .val (.ref pl), .val (.int ia), .val (.int ib), .val (.int ic), .val (.int ie), .val (.ref pp), .val (.ref qq), .val (.int kd), .val .null, .val (.int (0 : Int32))] [(.int (1 : Int32))])) _
        refine XS.goto X91.here hx rfl (pc0 := 230) (pc' := 234) rfl (hb hby at_230) (by decide) (by decide) ?_
        show Steps p.tables e below (T91.setTop (mkF m 234 #[.val (.int p0), .val (.int p1), .val (.int p2), .val (.int p3), .val (.int p4), .val (.int p5), .val (.ref r1), .val (.ref r2), .val (.ref pl), .val (.int ia), .val (.int ib), .val (.int ic), .val (.int ie), .val (.ref pp), .val (.ref qq), .val (.int kd), .val .null, .val (.int (0 : Int32))] [(.int (1 : Int32))])) _
        exact κ)
      obtain ⟨fs, hr, hrun, hended, hW, hsame⟩ := X91.leave (v := some (.int (1 : Int32))) (fun h => by rw [Bd.returns] at h; cases h)
      refine ⟨_, _, pre93 _ ?_, hrun, hended, _, _, rfl, ?_, ⟨_, rfl⟩, hW, hsame.mono (by decide) (by decide)⟩
      · exact retN X91 hx (t := .boolean) Bd.returns (by simp) (hb hby at_234) hr
      · show Q0 Z p0 p1 p2 p3 p4 p5 zc h0 n0 _ T91.heap _
        exact ⟨rfl, N91⟩
    · have pre94 := fun τ (κ : Steps p.tables e below (T71.setTop (mkF m 194 #[.val (.int p0), .val (.int p1), .val (.int p2), .val (.int p3), .val (.int p4), .val (.int p5), .val (.ref r1), .val (.ref r2), .val (.ref pl), .val (.int ia), .val (.int ib), .val (.int ic), .val (.int ie), .val (.ref pp), .val (.ref qq), .val (.int kd), .unset, .unset] [(.int (2 : Int32)), (.int kd)])) τ) => pre89 τ (by
        refine XS.icmpYes X71.here hx rfl (pc0 := 179) (pc' := 191) rfl (hb hby at_179) rfl (feq kq1).2 (by decide) (by decide) ?_
        show Steps p.tables e below (T71.setTop (mkF m 191 #[.val (.int p0), .val (.int p1), .val (.int p2), .val (.int p3), .val (.int p4), .val (.int p5), .val (.ref r1), .val (.ref r2), .val (.ref pl), .val (.int ia), .val (.int ib), .val (.int ic), .val (.int ie), .val (.ref pp), .val (.ref qq), .val (.int kd), .unset, .unset] [])) _
        refine XS.iload X71.here hx rfl (hb hby at_191) rfl ?_
        show Steps p.tables e below (T71.setTop (mkF m 193 #[.val (.int p0), .val (.int p1), .val (.int p2), .val (.int p3), .val (.int p4), .val (.int p5), .val (.ref r1), .val (.ref r2), .val (.ref pl), .val (.int ia), .val (.int ib), .val (.int ic), .val (.int ie), .val (.ref pp), .val (.ref qq), .val (.int kd), .unset, .unset] [(.int kd)])) _
        refine XS.iconst X71.here hx rfl (hb hby at_193) ?_
        show Steps p.tables e below (T71.setTop (mkF m 194 #[.val (.int p0), .val (.int p1), .val (.int p2), .val (.int p3), .val (.int p4), .val (.int p5), .val (.ref r1), .val (.ref r2), .val (.ref pl), .val (.int ia), .val (.int ib), .val (.int ic), .val (.int ie), .val (.ref pp), .val (.ref qq), .val (.int kd), .unset, .unset] [(.int (2 : Int32)), (.int kd)])) _
        exact κ)
      by_cases kq2 : kd = (2 : Int32)
      · have pre95 := fun τ (κ : Steps p.tables e below (T71.setTop (mkF m 201 #[.val (.int p0), .val (.int p1), .val (.int p2), .val (.int p3), .val (.int p4), .val (.int p5), .val (.ref r1), .val (.ref r2), .val (.ref pl), .val (.int ia), .val (.int ib), .val (.int ic), .val (.int ie), .val (.ref pp), .val (.ref qq), .val (.int kd), .unset, .unset] [(.int ic), (.ref pl)])) τ) => pre94 τ (by
          refine XS.icmpNo X71.here hx rfl (hb hby at_194) rfl (teq kq2).2 ?_
          show Steps p.tables e below (T71.setTop (mkF m 197 #[.val (.int p0), .val (.int p1), .val (.int p2), .val (.int p3), .val (.int p4), .val (.int p5), .val (.ref r1), .val (.ref r2), .val (.ref pl), .val (.int ia), .val (.int ib), .val (.int ic), .val (.int ie), .val (.ref pp), .val (.ref qq), .val (.int kd), .unset, .unset] [])) _
          refine XS.aload X71.here hx rfl (hb hby at_197) rfl rfl ?_
          show Steps p.tables e below (T71.setTop (mkF m 199 #[.val (.int p0), .val (.int p1), .val (.int p2), .val (.int p3), .val (.int p4), .val (.int p5), .val (.ref r1), .val (.ref r2), .val (.ref pl), .val (.int ia), .val (.int ib), .val (.int ic), .val (.int ie), .val (.ref pp), .val (.ref qq), .val (.int kd), .unset, .unset] [(.ref pl)])) _
          refine XS.iload X71.here hx rfl (hb hby at_199) rfl ?_
          show Steps p.tables e below (T71.setTop (mkF m 201 #[.val (.int p0), .val (.int p1), .val (.int p2), .val (.int p3), .val (.int p4), .val (.int p5), .val (.ref r1), .val (.ref r2), .val (.ref pl), .val (.int ia), .val (.int ib), .val (.int ic), .val (.int ie), .val (.ref pp), .val (.ref qq), .val (.int kd), .unset, .unset] [(.int ic), (.ref pl)])) _
          exact κ)
        rcases hic with eq9 | eq9 | eq9 | eq9
        · have e9' : own_pool s1 s2 s3 ic = .ref s1 := by rw [eq9]; rfl
          obtain ⟨cl96, Ar96, -, S96, M96, H96, -⟩ := id V_pl_71
          have in96 : ¬ (ic < 0 ∨ cl96.slots.size ≤ (ic).toNatClampNeg) := inb_of S96 (by rw [eq9]; exact ⟨by decide, by decide⟩)
          have at96 : cl96.slots[(ic).toNatClampNeg]? = some (.ref s1) := H96.at in96 (by rw [eq9]; rfl)
          have pre97 := fun τ (κ : Steps p.tables e below (T71.setTop (mkF m 221 #[.val (.int p0), .val (.int p1), .val (.int p2), .val (.int p3), .val (.int p4), .val (.int p5), .val (.ref r1), .val (.ref r2), .val (.ref pl), .val (.int ia), .val (.int ib), .val (.int ic), .val (.int ie), .val (.ref pp), .val (.ref qq), .val (.int kd), .val (.ref s1), .val (.int (0 : Int32))] [(.ref s1), (.ref pp)])) τ) => pre95 τ (by
            refine X71.aaload hx (j := ic) (v := (.ref s1)) Ar96.1 (State.isArrayOf_alike hZ.alike Ar96.2.1) rfl Ar96.2.2 in96 at96 (g := (mkF m 201 #[.val (.int p0), .val (.int p1), .val (.int p2), .val (.int p3), .val (.int p4), .val (.int p5), .val (.ref r1), .val (.ref r2), .val (.ref pl), .val (.int ia), .val (.int ib), .val (.int ic), .val (.int ie), .val (.ref pp), .val (.ref qq), .val (.int kd), .unset, .unset] [(.int ic), (.ref pl)])) rfl rfl (hb hby at_201) _ ?_
            show Steps p.tables e below (T71.setTop (mkF m 202 #[.val (.int p0), .val (.int p1), .val (.int p2), .val (.int p3), .val (.int p4), .val (.int p5), .val (.ref r1), .val (.ref r2), .val (.ref pl), .val (.int ia), .val (.int ib), .val (.int ic), .val (.int ie), .val (.ref pp), .val (.ref qq), .val (.int kd), .unset, .unset] [(.ref s1)])) _
            refine XS.astore X71.here hx rfl (hb hby at_202) rfl rfl (l' := #[.val (.int p0), .val (.int p1), .val (.int p2), .val (.int p3), .val (.int p4), .val (.int p5), .val (.ref r1), .val (.ref r2), .val (.ref pl), .val (.int ia), .val (.int ib), .val (.int ic), .val (.int ie), .val (.ref pp), .val (.ref qq), .val (.int kd), .val (.ref s1), .unset]) rfl ?_
            show Steps p.tables e below (T71.setTop (mkF m 204 #[.val (.int p0), .val (.int p1), .val (.int p2), .val (.int p3), .val (.int p4), .val (.int p5), .val (.ref r1), .val (.ref r2), .val (.ref pl), .val (.int ia), .val (.int ib), .val (.int ic), .val (.int ie), .val (.ref pp), .val (.ref qq), .val (.int kd), .val (.ref s1), .unset] [])) _
            refine XS.iconst X71.here hx rfl (hb hby at_204) ?_
            show Steps p.tables e below (T71.setTop (mkF m 205 #[.val (.int p0), .val (.int p1), .val (.int p2), .val (.int p3), .val (.int p4), .val (.int p5), .val (.ref r1), .val (.ref r2), .val (.ref pl), .val (.int ia), .val (.int ib), .val (.int ic), .val (.int ie), .val (.ref pp), .val (.ref qq), .val (.int kd), .val (.ref s1), .unset] [(.int (0 : Int32))])) _
            refine XS.istore X71.here hx rfl (hb hby at_205) rfl (l' := #[.val (.int p0), .val (.int p1), .val (.int p2), .val (.int p3), .val (.int p4), .val (.int p5), .val (.ref r1), .val (.ref r2), .val (.ref pl), .val (.int ia), .val (.int ib), .val (.int ic), .val (.int ie), .val (.ref pp), .val (.ref qq), .val (.int kd), .val (.ref s1), .val (.int (0 : Int32))]) rfl ?_
            show Steps p.tables e below (T71.setTop (mkF m 207 #[.val (.int p0), .val (.int p1), .val (.int p2), .val (.int p3), .val (.int p4), .val (.int p5), .val (.ref r1), .val (.ref r2), .val (.ref pl), .val (.int ia), .val (.int ib), .val (.int ic), .val (.int ie), .val (.ref pp), .val (.ref qq), .val (.int kd), .val (.ref s1), .val (.int (0 : Int32))] [])) _
            refine XS.goto X71.here hx rfl (pc0 := 207) (pc' := 217) rfl (hb hby at_207) (by decide) (by decide) ?_
            show Steps p.tables e below (T71.setTop (mkF m 217 #[.val (.int p0), .val (.int p1), .val (.int p2), .val (.int p3), .val (.int p4), .val (.int p5), .val (.ref r1), .val (.ref r2), .val (.ref pl), .val (.int ia), .val (.int ib), .val (.int ic), .val (.int ie), .val (.ref pp), .val (.ref qq), .val (.int kd), .val (.ref s1), .val (.int (0 : Int32))] [])) _
            refine XS.aload X71.here hx rfl (hb hby at_217) rfl rfl ?_
            show Steps p.tables e below (T71.setTop (mkF m 219 #[.val (.int p0), .val (.int p1), .val (.int p2), .val (.int p3), .val (.int p4), .val (.int p5), .val (.ref r1), .val (.ref r2), .val (.ref pl), .val (.int ia), .val (.int ib), .val (.int ic), .val (.int ie), .val (.ref pp), .val (.ref qq), .val (.int kd), .val (.ref s1), .val (.int (0 : Int32))] [(.ref pp)])) _
            refine XS.aload X71.here hx rfl (hb hby at_219) rfl rfl ?_
            show Steps p.tables e below (T71.setTop (mkF m 221 #[.val (.int p0), .val (.int p1), .val (.int p2), .val (.int p3), .val (.int p4), .val (.int p5), .val (.ref r1), .val (.ref r2), .val (.ref pl), .val (.int ia), .val (.int ib), .val (.int ic), .val (.int ie), .val (.ref pp), .val (.ref qq), .val (.int kd), .val (.ref s1), .val (.int (0 : Int32))] [(.ref s1), (.ref pp)])) _
            exact κ)
          obtain ⟨cq98, kq98, q98a, q98b, q98c⟩ := isOf hZ rfl A54_71
          obtain ⟨_, _, ⟨T98, L98, k98, n98⟩, -, X98, ⟨Lc98, hQ98, l98, y98, z98⟩, st98⟩ := X71.virtualBack hx (y := (⟨"com/example/fettle/fettle/tree/IdentityPair", "equals", "(Ljava/lang/Object;)Z"⟩ : MethodName)) (z := (⟨"com/example/fettle/fettle/tree/IdentityPair", "equals", "(Ljava/lang/Object;)Z"⟩ : MethodName)) hown (mvT hZ (hw _ (List.mem_of_getElem? (i := 44) rfl))) (mvT hZ (hw _ (List.mem_of_getElem? (i := 45) rfl))) (notFace_of_selects (args := #[]) (mvT hZ (hw _ (List.mem_of_getElem? (i := 47) rfl)))) (mvT hZ (hw _ (List.mem_of_getElem? (i := 47) rfl))) (mvT hZ (hw _ (List.mem_of_getElem? (i := 46) rfl))) (by decide) (backOf (W := 0) (rm8s l Z a0 hw [] pp s1 T71.heap n0 Z71 Es22_71 noS) hZ (hw _ (List.mem_of_getElem? (i := 48) rfl)) (hw _ (List.mem_of_getElem? (i := 35) rfl)) (by decide) (by decide)) q98a q98c (g := (mkF m 221 #[.val (.int p0), .val (.int p1), .val (.int p2), .val (.int p3), .val (.int p4), .val (.int p5), .val (.ref r1), .val (.ref r2), .val (.ref pl), .val (.int ia), .val (.int ib), .val (.int ic), .val (.int ie), .val (.ref pp), .val (.ref qq), .val (.int kd), .val (.ref s1), .val (.int (0 : Int32))] [(.ref s1), (.ref pp)])) rfl (by rw [hml]; rfl) (Steps.refl _) (argsL := [(.ref s1)]) (rest := []) (lenOf pd_2 rfl) rfl (by show 2 * 0 + _ ≤ _; exact Nat.le_of_eq rfl) (hb hby at_221) (fun _ _ => ⟨rfl, rfl, (by decide : 11 + 0 ≤ _), (by decide : 25 + 0 ≤ _)⟩)
          dsimp only [Pt.U, Pt.locs, Pt.cells, Pt.slots] at X98 l98 y98 z98 st98 hQ98
          subst l98 y98 z98
          obtain ⟨rfl, Nq98, hh98⟩ := hQ98
          have X00_98 : Old Z n0 T98.heap := by rw [hh98]; exact X00_71
          have V_r1_98 : Arv Z T98.heap r1 k2 .char (1 : Int32) [(.int (nar .char ((p5 &&& (255 : Int32)).toUInt32.toUInt16.toUInt32.toInt32)))] (.int (0 : Int32)) := by rw [hh98]; exact V_r1_71
          have V_r2_98 : Arv Z T98.heap r2 k9 .char (1 : Int32) [(.int (nar .char ((((p5.toUInt32 >>> ((8 : Int32) &&& 31).toUInt32).toInt32) &&& (255 : Int32)).toUInt32.toUInt16.toUInt32.toInt32)))] (.int (0 : Int32)) := by rw [hh98]; exact V_r2_71
          have Es22_98 : Exa Z T98.heap s1 "java/lang/String" := by rw [hh98]; exact Es22_71
          have Es31_98 : Exa Z T98.heap s2 "java/lang/String" := by rw [hh98]; exact Es31_71
          have Es40_98 : Exa Z T98.heap s3 "java/lang/String" := by rw [hh98]; exact Es40_71
          have V_pl_98 : Arv Z T98.heap pl k16 (.object "java/lang/Object") (4 : Int32) [(.ref s1), (.ref s2), (.ref s3), .null] .null := by rw [hh98]; exact V_pl_71
          have A54_98 : Exa Z T98.heap pp "com/example/fettle/fettle/tree/IdentityPair" := by rw [hh98]; exact A54_71
          have Ff61_98 : Fld Z T98.heap pp "com/example/fettle/fettle/tree/IdentityPair" "first" "Ljava/lang/Object;" via := by rw [hh98]; exact Ff61_71
          have Fs61_98 : Fld Z T98.heap pp "com/example/fettle/fettle/tree/IdentityPair" "second" "Ljava/lang/Object;" vib := by rw [hh98]; exact Fs61_71
          have A64_98 : Exa Z T98.heap qq "com/example/fettle/fettle/tree/IdentityPair" := by rw [hh98]; exact A64_71
          have Ff71_98 : Fld Z T98.heap qq "com/example/fettle/fettle/tree/IdentityPair" "first" "Ljava/lang/Object;" vic := by rw [hh98]; exact Ff71
          have Fs71_98 : Fld Z T98.heap qq "com/example/fettle/fettle/tree/IdentityPair" "second" "Ljava/lang/Object;" vie := by rw [hh98]; exact Fs71
          have Z98 : n0 ≤ T98.heap.size := by rw [hh98]; exact Z71
          have N98 := Fr.app N71 Nq98
          have pre99 := fun τ (κ : Steps p.tables e below (T98.setTop (mkF m 224 #[.val (.int p0), .val (.int p1), .val (.int p2), .val (.int p3), .val (.int p4), .val (.int p5), .val (.ref r1), .val (.ref r2), .val (.ref pl), .val (.int ia), .val (.int ib), .val (.int ic), .val (.int ie), .val (.ref pp), .val (.ref qq), .val (.int kd), .val (.ref s1), .val (.int (0 : Int32))] [(.int (0 : Int32))])) τ) => pre97 τ (st98.trans κ)
          have pre100 := fun τ (κ : Steps p.tables e below (T98.setTop (mkF m 234 #[.val (.int p0), .val (.int p1), .val (.int p2), .val (.int p3), .val (.int p4), .val (.int p5), .val (.ref r1), .val (.ref r2), .val (.ref pl), .val (.int ia), .val (.int ib), .val (.int ic), .val (.int ie), .val (.ref pp), .val (.ref qq), .val (.int kd), .val (.ref s1), .val (.int (0 : Int32))] [(.int (1 : Int32))])) τ) => pre99 τ (by
            refine XS.iload X98.here hx rfl (hb hby at_224) rfl ?_
            show Steps p.tables e below (T98.setTop (mkF m 226 #[.val (.int p0), .val (.int p1), .val (.int p2), .val (.int p3), .val (.int p4), .val (.int p5), .val (.ref r1), .val (.ref r2), .val (.ref pl), .val (.int ia), .val (.int ib), .val (.int ic), .val (.int ie), .val (.ref pp), .val (.ref qq), .val (.int kd), .val (.ref s1), .val (.int (0 : Int32))] [(.int (0 : Int32)), (.int (0 : Int32))])) _
            refine XS.icmpNo X98.here hx rfl (hb hby at_226) rfl (teq rfl).2 ?_
            show Steps p.tables e below (T98.setTop (mkF m 229 #[.val (.int p0), .val (.int p1), .val (.int p2), .val (.int p3), .val (.int p4), .val (.int p5), .val (.ref r1), .val (.ref r2), .val (.ref pl), .val (.int ia), .val (.int ib), .val (.int ic), .val (.int ie), .val (.ref pp), .val (.ref qq), .val (.int kd), .val (.ref s1), .val (.int (0 : Int32))] [])) _
            refine XS.iconst X98.here hx rfl (hb hby at_229) ?_
            show Steps p.tables e below (T98.setTop (mkF m 230 #[.val (.int p0), .val (.int p1), .val (.int p2), .val (.int p3), .val (.int p4), .val (.int p5), .val (.ref r1), .val (.ref r2), .val (.ref pl), .val (.int ia), .val (.int ib), .val (.int ic), .val (.int ie), .val (.ref pp), .val (.ref qq), .val (.int kd), .val (.ref s1), .val (.int (0 : Int32))] [(.int (1 : Int32))])) _
            refine XS.goto X98.here hx rfl (pc0 := 230) (pc' := 234) rfl (hb hby at_230) (by decide) (by decide) ?_
            show Steps p.tables e below (T98.setTop (mkF m 234 #[.val (.int p0), .val (.int p1), .val (.int p2), .val (.int p3), .val (.int p4), .val (.int p5), .val (.ref r1), .val (.ref r2), .val (.ref pl), .val (.int ia), .val (.int ib), .val (.int ic), .val (.int ie), .val (.ref pp), .val (.ref qq), .val (.int kd), .val (.ref s1), .val (.int (0 : Int32))] [(.int (1 : Int32))])) _
            exact κ)
          obtain ⟨fs, hr, hrun, hended, hW, hsame⟩ := X98.leave (v := some (.int (1 : Int32))) (fun h => by rw [Bd.returns] at h; cases h)
          refine ⟨_, _, pre100 _ ?_, hrun, hended, _, _, rfl, ?_, ⟨_, rfl⟩, hW, hsame.mono (by decide) (by decide)⟩
          · exact retN X98 hx (t := .boolean) Bd.returns (by simp) (hb hby at_234) hr
          · show Q0 Z p0 p1 p2 p3 p4 p5 zc h0 n0 _ T98.heap _
            exact ⟨rfl, N98⟩
        · have e9' : own_pool s1 s2 s3 ic = .ref s2 := by rw [eq9]; rfl
          obtain ⟨cl101, Ar101, -, S101, M101, H101, -⟩ := id V_pl_71
          have in101 : ¬ (ic < 0 ∨ cl101.slots.size ≤ (ic).toNatClampNeg) := inb_of S101 (by rw [eq9]; exact ⟨by decide, by decide⟩)
          have at101 : cl101.slots[(ic).toNatClampNeg]? = some (.ref s2) := H101.at in101 (by rw [eq9]; rfl)
          have pre102 := fun τ (κ : Steps p.tables e below (T71.setTop (mkF m 221 #[.val (.int p0), .val (.int p1), .val (.int p2), .val (.int p3), .val (.int p4), .val (.int p5), .val (.ref r1), .val (.ref r2), .val (.ref pl), .val (.int ia), .val (.int ib), .val (.int ic), .val (.int ie), .val (.ref pp), .val (.ref qq), .val (.int kd), .val (.ref s2), .val (.int (0 : Int32))] [(.ref s2), (.ref pp)])) τ) => pre95 τ (by
            refine X71.aaload hx (j := ic) (v := (.ref s2)) Ar101.1 (State.isArrayOf_alike hZ.alike Ar101.2.1) rfl Ar101.2.2 in101 at101 (g := (mkF m 201 #[.val (.int p0), .val (.int p1), .val (.int p2), .val (.int p3), .val (.int p4), .val (.int p5), .val (.ref r1), .val (.ref r2), .val (.ref pl), .val (.int ia), .val (.int ib), .val (.int ic), .val (.int ie), .val (.ref pp), .val (.ref qq), .val (.int kd), .unset, .unset] [(.int ic), (.ref pl)])) rfl rfl (hb hby at_201) _ ?_
            show Steps p.tables e below (T71.setTop (mkF m 202 #[.val (.int p0), .val (.int p1), .val (.int p2), .val (.int p3), .val (.int p4), .val (.int p5), .val (.ref r1), .val (.ref r2), .val (.ref pl), .val (.int ia), .val (.int ib), .val (.int ic), .val (.int ie), .val (.ref pp), .val (.ref qq), .val (.int kd), .unset, .unset] [(.ref s2)])) _
            refine XS.astore X71.here hx rfl (hb hby at_202) rfl rfl (l' := #[.val (.int p0), .val (.int p1), .val (.int p2), .val (.int p3), .val (.int p4), .val (.int p5), .val (.ref r1), .val (.ref r2), .val (.ref pl), .val (.int ia), .val (.int ib), .val (.int ic), .val (.int ie), .val (.ref pp), .val (.ref qq), .val (.int kd), .val (.ref s2), .unset]) rfl ?_
            show Steps p.tables e below (T71.setTop (mkF m 204 #[.val (.int p0), .val (.int p1), .val (.int p2), .val (.int p3), .val (.int p4), .val (.int p5), .val (.ref r1), .val (.ref r2), .val (.ref pl), .val (.int ia), .val (.int ib), .val (.int ic), .val (.int ie), .val (.ref pp), .val (.ref qq), .val (.int kd), .val (.ref s2), .unset] [])) _
            refine XS.iconst X71.here hx rfl (hb hby at_204) ?_
            show Steps p.tables e below (T71.setTop (mkF m 205 #[.val (.int p0), .val (.int p1), .val (.int p2), .val (.int p3), .val (.int p4), .val (.int p5), .val (.ref r1), .val (.ref r2), .val (.ref pl), .val (.int ia), .val (.int ib), .val (.int ic), .val (.int ie), .val (.ref pp), .val (.ref qq), .val (.int kd), .val (.ref s2), .unset] [(.int (0 : Int32))])) _
            refine XS.istore X71.here hx rfl (hb hby at_205) rfl (l' := #[.val (.int p0), .val (.int p1), .val (.int p2), .val (.int p3), .val (.int p4), .val (.int p5), .val (.ref r1), .val (.ref r2), .val (.ref pl), .val (.int ia), .val (.int ib), .val (.int ic), .val (.int ie), .val (.ref pp), .val (.ref qq), .val (.int kd), .val (.ref s2), .val (.int (0 : Int32))]) rfl ?_
            show Steps p.tables e below (T71.setTop (mkF m 207 #[.val (.int p0), .val (.int p1), .val (.int p2), .val (.int p3), .val (.int p4), .val (.int p5), .val (.ref r1), .val (.ref r2), .val (.ref pl), .val (.int ia), .val (.int ib), .val (.int ic), .val (.int ie), .val (.ref pp), .val (.ref qq), .val (.int kd), .val (.ref s2), .val (.int (0 : Int32))] [])) _
            refine XS.goto X71.here hx rfl (pc0 := 207) (pc' := 217) rfl (hb hby at_207) (by decide) (by decide) ?_
            show Steps p.tables e below (T71.setTop (mkF m 217 #[.val (.int p0), .val (.int p1), .val (.int p2), .val (.int p3), .val (.int p4), .val (.int p5), .val (.ref r1), .val (.ref r2), .val (.ref pl), .val (.int ia), .val (.int ib), .val (.int ic), .val (.int ie), .val (.ref pp), .val (.ref qq), .val (.int kd), .val (.ref s2), .val (.int (0 : Int32))] [])) _
            refine XS.aload X71.here hx rfl (hb hby at_217) rfl rfl ?_
            show Steps p.tables e below (T71.setTop (mkF m 219 #[.val (.int p0), .val (.int p1), .val (.int p2), .val (.int p3), .val (.int p4), .val (.int p5), .val (.ref r1), .val (.ref r2), .val (.ref pl), .val (.int ia), .val (.int ib), .val (.int ic), .val (.int ie), .val (.ref pp), .val (.ref qq), .val (.int kd), .val (.ref s2), .val (.int (0 : Int32))] [(.ref pp)])) _
            refine XS.aload X71.here hx rfl (hb hby at_219) rfl rfl ?_
            show Steps p.tables e below (T71.setTop (mkF m 221 #[.val (.int p0), .val (.int p1), .val (.int p2), .val (.int p3), .val (.int p4), .val (.int p5), .val (.ref r1), .val (.ref r2), .val (.ref pl), .val (.int ia), .val (.int ib), .val (.int ic), .val (.int ie), .val (.ref pp), .val (.ref qq), .val (.int kd), .val (.ref s2), .val (.int (0 : Int32))] [(.ref s2), (.ref pp)])) _
            exact κ)
          obtain ⟨cq103, kq103, q103a, q103b, q103c⟩ := isOf hZ rfl A54_71
          obtain ⟨_, _, ⟨T103, L103, k103, n103⟩, -, X103, ⟨Lc103, hQ103, l103, y103, z103⟩, st103⟩ := X71.virtualBack hx (y := (⟨"com/example/fettle/fettle/tree/IdentityPair", "equals", "(Ljava/lang/Object;)Z"⟩ : MethodName)) (z := (⟨"com/example/fettle/fettle/tree/IdentityPair", "equals", "(Ljava/lang/Object;)Z"⟩ : MethodName)) hown (mvT hZ (hw _ (List.mem_of_getElem? (i := 44) rfl))) (mvT hZ (hw _ (List.mem_of_getElem? (i := 45) rfl))) (notFace_of_selects (args := #[]) (mvT hZ (hw _ (List.mem_of_getElem? (i := 47) rfl)))) (mvT hZ (hw _ (List.mem_of_getElem? (i := 47) rfl))) (mvT hZ (hw _ (List.mem_of_getElem? (i := 46) rfl))) (by decide) (backOf (W := 0) (rm8s l Z a0 hw [] pp s2 T71.heap n0 Z71 Es31_71 noS) hZ (hw _ (List.mem_of_getElem? (i := 48) rfl)) (hw _ (List.mem_of_getElem? (i := 35) rfl)) (by decide) (by decide)) q103a q103c (g := (mkF m 221 #[.val (.int p0), .val (.int p1), .val (.int p2), .val (.int p3), .val (.int p4), .val (.int p5), .val (.ref r1), .val (.ref r2), .val (.ref pl), .val (.int ia), .val (.int ib), .val (.int ic), .val (.int ie), .val (.ref pp), .val (.ref qq), .val (.int kd), .val (.ref s2), .val (.int (0 : Int32))] [(.ref s2), (.ref pp)])) rfl (by rw [hml]; rfl) (Steps.refl _) (argsL := [(.ref s2)]) (rest := []) (lenOf pd_2 rfl) rfl (by show 2 * 0 + _ ≤ _; exact Nat.le_of_eq rfl) (hb hby at_221) (fun _ _ => ⟨rfl, rfl, (by decide : 11 + 0 ≤ _), (by decide : 25 + 0 ≤ _)⟩)
          dsimp only [Pt.U, Pt.locs, Pt.cells, Pt.slots] at X103 l103 y103 z103 st103 hQ103
          subst l103 y103 z103
          obtain ⟨rfl, Nq103, hh103⟩ := hQ103
          have X00_103 : Old Z n0 T103.heap := by rw [hh103]; exact X00_71
          have V_r1_103 : Arv Z T103.heap r1 k2 .char (1 : Int32) [(.int (nar .char ((p5 &&& (255 : Int32)).toUInt32.toUInt16.toUInt32.toInt32)))] (.int (0 : Int32)) := by rw [hh103]; exact V_r1_71
          have V_r2_103 : Arv Z T103.heap r2 k9 .char (1 : Int32) [(.int (nar .char ((((p5.toUInt32 >>> ((8 : Int32) &&& 31).toUInt32).toInt32) &&& (255 : Int32)).toUInt32.toUInt16.toUInt32.toInt32)))] (.int (0 : Int32)) := by rw [hh103]; exact V_r2_71
          have Es22_103 : Exa Z T103.heap s1 "java/lang/String" := by rw [hh103]; exact Es22_71
          have Es31_103 : Exa Z T103.heap s2 "java/lang/String" := by rw [hh103]; exact Es31_71
          have Es40_103 : Exa Z T103.heap s3 "java/lang/String" := by rw [hh103]; exact Es40_71
          have V_pl_103 : Arv Z T103.heap pl k16 (.object "java/lang/Object") (4 : Int32) [(.ref s1), (.ref s2), (.ref s3), .null] .null := by rw [hh103]; exact V_pl_71
          have A54_103 : Exa Z T103.heap pp "com/example/fettle/fettle/tree/IdentityPair" := by rw [hh103]; exact A54_71
          have Ff61_103 : Fld Z T103.heap pp "com/example/fettle/fettle/tree/IdentityPair" "first" "Ljava/lang/Object;" via := by rw [hh103]; exact Ff61_71
          have Fs61_103 : Fld Z T103.heap pp "com/example/fettle/fettle/tree/IdentityPair" "second" "Ljava/lang/Object;" vib := by rw [hh103]; exact Fs61_71
          have A64_103 : Exa Z T103.heap qq "com/example/fettle/fettle/tree/IdentityPair" := by rw [hh103]; exact A64_71
          have Ff71_103 : Fld Z T103.heap qq "com/example/fettle/fettle/tree/IdentityPair" "first" "Ljava/lang/Object;" vic := by rw [hh103]; exact Ff71
          have Fs71_103 : Fld Z T103.heap qq "com/example/fettle/fettle/tree/IdentityPair" "second" "Ljava/lang/Object;" vie := by rw [hh103]; exact Fs71
          have Z103 : n0 ≤ T103.heap.size := by rw [hh103]; exact Z71
          have N103 := Fr.app N71 Nq103
          have pre104 := fun τ (κ : Steps p.tables e below (T103.setTop (mkF m 224 #[.val (.int p0), .val (.int p1), .val (.int p2), .val (.int p3), .val (.int p4), .val (.int p5), .val (.ref r1), .val (.ref r2), .val (.ref pl), .val (.int ia), .val (.int ib), .val (.int ic), .val (.int ie), .val (.ref pp), .val (.ref qq), .val (.int kd), .val (.ref s2), .val (.int (0 : Int32))] [(.int (0 : Int32))])) τ) => pre102 τ (st103.trans κ)
          have pre105 := fun τ (κ : Steps p.tables e below (T103.setTop (mkF m 234 #[.val (.int p0), .val (.int p1), .val (.int p2), .val (.int p3), .val (.int p4), .val (.int p5), .val (.ref r1), .val (.ref r2), .val (.ref pl), .val (.int ia), .val (.int ib), .val (.int ic), .val (.int ie), .val (.ref pp), .val (.ref qq), .val (.int kd), .val (.ref s2), .val (.int (0 : Int32))] [(.int (1 : Int32))])) τ) => pre104 τ (by
            refine XS.iload X103.here hx rfl (hb hby at_224) rfl ?_
            show Steps p.tables e below (T103.setTop (mkF m 226 #[.val (.int p0), .val (.int p1), .val (.int p2), .val (.int p3), .val (.int p4), .val (.int p5), .val (.ref r1), .val (.ref r2), .val (.ref pl), .val (.int ia), .val (.int ib), .val (.int ic), .val (.int ie), .val (.ref pp), .val (.ref qq), .val (.int kd), .val (.ref s2), .val (.int (0 : Int32))] [(.int (0 : Int32)), (.int (0 : Int32))])) _
            refine XS.icmpNo X103.here hx rfl (hb hby at_226) rfl (teq rfl).2 ?_
            show Steps p.tables e below (T103.setTop (mkF m 229 #[.val (.int p0), .val (.int p1), .val (.int p2), .val (.int p3), .val (.int p4), .val (.int p5), .val (.ref r1), .val (.ref r2), .val (.ref pl), .val (.int ia), .val (.int ib), .val (.int ic), .val (.int ie), .val (.ref pp), .val (.ref qq), .val (.int kd), .val (.ref s2), .val (.int (0 : Int32))] [])) _
            refine XS.iconst X103.here hx rfl (hb hby at_229) ?_
            show Steps p.tables e below (T103.setTop (mkF m 230 #[.val (.int p0), .val (.int p1), .val (.int p2), .val (.int p3), .val (.int p4), .val (.int p5), .val (.ref r1), .val (.ref r2), .val (.ref pl), .val (.int ia), .val (.int ib), .val (.int ic), .val (.int ie), .val (.ref pp), .val (.ref qq), .val (.int kd), .val (.ref s2), .val (.int (0 : Int32))] [(.int (1 : Int32))])) _
            refine XS.goto X103.here hx rfl (pc0 := 230) (pc' := 234) rfl (hb hby at_230) (by decide) (by decide) ?_
            show Steps p.tables e below (T103.setTop (mkF m 234 #[.val (.int p0), .val (.int p1), .val (.int p2), .val (.int p3), .val (.int p4), .val (.int p5), .val (.ref r1), .val (.ref r2), .val (.ref pl), .val (.int ia), .val (.int ib), .val (.int ic), .val (.int ie), .val (.ref pp), .val (.ref qq), .val (.int kd), .val (.ref s2), .val (.int (0 : Int32))] [(.int (1 : Int32))])) _
            exact κ)
          obtain ⟨fs, hr, hrun, hended, hW, hsame⟩ := X103.leave (v := some (.int (1 : Int32))) (fun h => by rw [Bd.returns] at h; cases h)
          refine ⟨_, _, pre105 _ ?_, hrun, hended, _, _, rfl, ?_, ⟨_, rfl⟩, hW, hsame.mono (by decide) (by decide)⟩
          · exact retN X103 hx (t := .boolean) Bd.returns (by simp) (hb hby at_234) hr
          · show Q0 Z p0 p1 p2 p3 p4 p5 zc h0 n0 _ T103.heap _
            exact ⟨rfl, N103⟩
        · have e9' : own_pool s1 s2 s3 ic = .ref s3 := by rw [eq9]; rfl
          obtain ⟨cl106, Ar106, -, S106, M106, H106, -⟩ := id V_pl_71
          have in106 : ¬ (ic < 0 ∨ cl106.slots.size ≤ (ic).toNatClampNeg) := inb_of S106 (by rw [eq9]; exact ⟨by decide, by decide⟩)
          have at106 : cl106.slots[(ic).toNatClampNeg]? = some (.ref s3) := H106.at in106 (by rw [eq9]; rfl)
          have pre107 := fun τ (κ : Steps p.tables e below (T71.setTop (mkF m 221 #[.val (.int p0), .val (.int p1), .val (.int p2), .val (.int p3), .val (.int p4), .val (.int p5), .val (.ref r1), .val (.ref r2), .val (.ref pl), .val (.int ia), .val (.int ib), .val (.int ic), .val (.int ie), .val (.ref pp), .val (.ref qq), .val (.int kd), .val (.ref s3), .val (.int (0 : Int32))] [(.ref s3), (.ref pp)])) τ) => pre95 τ (by
            refine X71.aaload hx (j := ic) (v := (.ref s3)) Ar106.1 (State.isArrayOf_alike hZ.alike Ar106.2.1) rfl Ar106.2.2 in106 at106 (g := (mkF m 201 #[.val (.int p0), .val (.int p1), .val (.int p2), .val (.int p3), .val (.int p4), .val (.int p5), .val (.ref r1), .val (.ref r2), .val (.ref pl), .val (.int ia), .val (.int ib), .val (.int ic), .val (.int ie), .val (.ref pp), .val (.ref qq), .val (.int kd), .unset, .unset] [(.int ic), (.ref pl)])) rfl rfl (hb hby at_201) _ ?_
            show Steps p.tables e below (T71.setTop (mkF m 202 #[.val (.int p0), .val (.int p1), .val (.int p2), .val (.int p3), .val (.int p4), .val (.int p5), .val (.ref r1), .val (.ref r2), .val (.ref pl), .val (.int ia), .val (.int ib), .val (.int ic), .val (.int ie), .val (.ref pp), .val (.ref qq), .val (.int kd), .unset, .unset] [(.ref s3)])) _
            refine XS.astore X71.here hx rfl (hb hby at_202) rfl rfl (l' := #[.val (.int p0), .val (.int p1), .val (.int p2), .val (.int p3), .val (.int p4), .val (.int p5), .val (.ref r1), .val (.ref r2), .val (.ref pl), .val (.int ia), .val (.int ib), .val (.int ic), .val (.int ie), .val (.ref pp), .val (.ref qq), .val (.int kd), .val (.ref s3), .unset]) rfl ?_
            show Steps p.tables e below (T71.setTop (mkF m 204 #[.val (.int p0), .val (.int p1), .val (.int p2), .val (.int p3), .val (.int p4), .val (.int p5), .val (.ref r1), .val (.ref r2), .val (.ref pl), .val (.int ia), .val (.int ib), .val (.int ic), .val (.int ie), .val (.ref pp), .val (.ref qq), .val (.int kd), .val (.ref s3), .unset] [])) _
            refine XS.iconst X71.here hx rfl (hb hby at_204) ?_
            show Steps p.tables e below (T71.setTop (mkF m 205 #[.val (.int p0), .val (.int p1), .val (.int p2), .val (.int p3), .val (.int p4), .val (.int p5), .val (.ref r1), .val (.ref r2), .val (.ref pl), .val (.int ia), .val (.int ib), .val (.int ic), .val (.int ie), .val (.ref pp), .val (.ref qq), .val (.int kd), .val (.ref s3), .unset] [(.int (0 : Int32))])) _
            refine XS.istore X71.here hx rfl (hb hby at_205) rfl (l' := #[.val (.int p0), .val (.int p1), .val (.int p2), .val (.int p3), .val (.int p4), .val (.int p5), .val (.ref r1), .val (.ref r2), .val (.ref pl), .val (.int ia), .val (.int ib), .val (.int ic), .val (.int ie), .val (.ref pp), .val (.ref qq), .val (.int kd), .val (.ref s3), .val (.int (0 : Int32))]) rfl ?_
            show Steps p.tables e below (T71.setTop (mkF m 207 #[.val (.int p0), .val (.int p1), .val (.int p2), .val (.int p3), .val (.int p4), .val (.int p5), .val (.ref r1), .val (.ref r2), .val (.ref pl), .val (.int ia), .val (.int ib), .val (.int ic), .val (.int ie), .val (.ref pp), .val (.ref qq), .val (.int kd), .val (.ref s3), .val (.int (0 : Int32))] [])) _
            refine XS.goto X71.here hx rfl (pc0 := 207) (pc' := 217) rfl (hb hby at_207) (by decide) (by decide) ?_
            show Steps p.tables e below (T71.setTop (mkF m 217 #[.val (.int p0), .val (.int p1), .val (.int p2), .val (.int p3), .val (.int p4), .val (.int p5), .val (.ref r1), .val (.ref r2), .val (.ref pl), .val (.int ia), .val (.int ib), .val (.int ic), .val (.int ie), .val (.ref pp), .val (.ref qq), .val (.int kd), .val (.ref s3), .val (.int (0 : Int32))] [])) _
            refine XS.aload X71.here hx rfl (hb hby at_217) rfl rfl ?_
            show Steps p.tables e below (T71.setTop (mkF m 219 #[.val (.int p0), .val (.int p1), .val (.int p2), .val (.int p3), .val (.int p4), .val (.int p5), .val (.ref r1), .val (.ref r2), .val (.ref pl), .val (.int ia), .val (.int ib), .val (.int ic), .val (.int ie), .val (.ref pp), .val (.ref qq), .val (.int kd), .val (.ref s3), .val (.int (0 : Int32))] [(.ref pp)])) _
            refine XS.aload X71.here hx rfl (hb hby at_219) rfl rfl ?_
            show Steps p.tables e below (T71.setTop (mkF m 221 #[.val (.int p0), .val (.int p1), .val (.int p2), .val (.int p3), .val (.int p4), .val (.int p5), .val (.ref r1), .val (.ref r2), .val (.ref pl), .val (.int ia), .val (.int ib), .val (.int ic), .val (.int ie), .val (.ref pp), .val (.ref qq), .val (.int kd), .val (.ref s3), .val (.int (0 : Int32))] [(.ref s3), (.ref pp)])) _
            exact κ)
          obtain ⟨cq108, kq108, q108a, q108b, q108c⟩ := isOf hZ rfl A54_71
          obtain ⟨_, _, ⟨T108, L108, k108, n108⟩, -, X108, ⟨Lc108, hQ108, l108, y108, z108⟩, st108⟩ := X71.virtualBack hx (y := (⟨"com/example/fettle/fettle/tree/IdentityPair", "equals", "(Ljava/lang/Object;)Z"⟩ : MethodName)) (z := (⟨"com/example/fettle/fettle/tree/IdentityPair", "equals", "(Ljava/lang/Object;)Z"⟩ : MethodName)) hown (mvT hZ (hw _ (List.mem_of_getElem? (i := 44) rfl))) (mvT hZ (hw _ (List.mem_of_getElem? (i := 45) rfl))) (notFace_of_selects (args := #[]) (mvT hZ (hw _ (List.mem_of_getElem? (i := 47) rfl)))) (mvT hZ (hw _ (List.mem_of_getElem? (i := 47) rfl))) (mvT hZ (hw _ (List.mem_of_getElem? (i := 46) rfl))) (by decide) (backOf (W := 0) (rm8s l Z a0 hw [] pp s3 T71.heap n0 Z71 Es40_71 noS) hZ (hw _ (List.mem_of_getElem? (i := 48) rfl)) (hw _ (List.mem_of_getElem? (i := 35) rfl)) (by decide) (by decide)) q108a q108c (g := (mkF m 221 #[.val (.int p0), .val (.int p1), .val (.int p2), .val (.int p3), .val (.int p4), .val (.int p5), .val (.ref r1), .val (.ref r2), .val (.ref pl), .val (.int ia), .val (.int ib), .val (.int ic), .val (.int ie), .val (.ref pp), .val (.ref qq), .val (.int kd), .val (.ref s3), .val (.int (0 : Int32))] [(.ref s3), (.ref pp)])) rfl (by rw [hml]; rfl) (Steps.refl _) (argsL := [(.ref s3)]) (rest := []) (lenOf pd_2 rfl) rfl (by show 2 * 0 + _ ≤ _; exact Nat.le_of_eq rfl) (hb hby at_221) (fun _ _ => ⟨rfl, rfl, (by decide : 11 + 0 ≤ _), (by decide : 25 + 0 ≤ _)⟩)
          dsimp only [Pt.U, Pt.locs, Pt.cells, Pt.slots] at X108 l108 y108 z108 st108 hQ108
          subst l108 y108 z108
          obtain ⟨rfl, Nq108, hh108⟩ := hQ108
          have X00_108 : Old Z n0 T108.heap := by rw [hh108]; exact X00_71
          have V_r1_108 : Arv Z T108.heap r1 k2 .char (1 : Int32) [(.int (nar .char ((p5 &&& (255 : Int32)).toUInt32.toUInt16.toUInt32.toInt32)))] (.int (0 : Int32)) := by rw [hh108]; exact V_r1_71
          have V_r2_108 : Arv Z T108.heap r2 k9 .char (1 : Int32) [(.int (nar .char ((((p5.toUInt32 >>> ((8 : Int32) &&& 31).toUInt32).toInt32) &&& (255 : Int32)).toUInt32.toUInt16.toUInt32.toInt32)))] (.int (0 : Int32)) := by rw [hh108]; exact V_r2_71
          have Es22_108 : Exa Z T108.heap s1 "java/lang/String" := by rw [hh108]; exact Es22_71
          have Es31_108 : Exa Z T108.heap s2 "java/lang/String" := by rw [hh108]; exact Es31_71
          have Es40_108 : Exa Z T108.heap s3 "java/lang/String" := by rw [hh108]; exact Es40_71
          have V_pl_108 : Arv Z T108.heap pl k16 (.object "java/lang/Object") (4 : Int32) [(.ref s1), (.ref s2), (.ref s3), .null] .null := by rw [hh108]; exact V_pl_71
          have A54_108 : Exa Z T108.heap pp "com/example/fettle/fettle/tree/IdentityPair" := by rw [hh108]; exact A54_71
          have Ff61_108 : Fld Z T108.heap pp "com/example/fettle/fettle/tree/IdentityPair" "first" "Ljava/lang/Object;" via := by rw [hh108]; exact Ff61_71
          have Fs61_108 : Fld Z T108.heap pp "com/example/fettle/fettle/tree/IdentityPair" "second" "Ljava/lang/Object;" vib := by rw [hh108]; exact Fs61_71
          have A64_108 : Exa Z T108.heap qq "com/example/fettle/fettle/tree/IdentityPair" := by rw [hh108]; exact A64_71
          have Ff71_108 : Fld Z T108.heap qq "com/example/fettle/fettle/tree/IdentityPair" "first" "Ljava/lang/Object;" vic := by rw [hh108]; exact Ff71
          have Fs71_108 : Fld Z T108.heap qq "com/example/fettle/fettle/tree/IdentityPair" "second" "Ljava/lang/Object;" vie := by rw [hh108]; exact Fs71
          have Z108 : n0 ≤ T108.heap.size := by rw [hh108]; exact Z71
          have N108 := Fr.app N71 Nq108
          have pre109 := fun τ (κ : Steps p.tables e below (T108.setTop (mkF m 224 #[.val (.int p0), .val (.int p1), .val (.int p2), .val (.int p3), .val (.int p4), .val (.int p5), .val (.ref r1), .val (.ref r2), .val (.ref pl), .val (.int ia), .val (.int ib), .val (.int ic), .val (.int ie), .val (.ref pp), .val (.ref qq), .val (.int kd), .val (.ref s3), .val (.int (0 : Int32))] [(.int (0 : Int32))])) τ) => pre107 τ (st108.trans κ)
          have pre110 := fun τ (κ : Steps p.tables e below (T108.setTop (mkF m 234 #[.val (.int p0), .val (.int p1), .val (.int p2), .val (.int p3), .val (.int p4), .val (.int p5), .val (.ref r1), .val (.ref r2), .val (.ref pl), .val (.int ia), .val (.int ib), .val (.int ic), .val (.int ie), .val (.ref pp), .val (.ref qq), .val (.int kd), .val (.ref s3), .val (.int (0 : Int32))] [(.int (1 : Int32))])) τ) => pre109 τ (by
            refine XS.iload X108.here hx rfl (hb hby at_224) rfl ?_
            show Steps p.tables e below (T108.setTop (mkF m 226 #[.val (.int p0), .val (.int p1), .val (.int p2), .val (.int p3), .val (.int p4), .val (.int p5), .val (.ref r1), .val (.ref r2), .val (.ref pl), .val (.int ia), .val (.int ib), .val (.int ic), .val (.int ie), .val (.ref pp), .val (.ref qq), .val (.int kd), .val (.ref s3), .val (.int (0 : Int32))] [(.int (0 : Int32)), (.int (0 : Int32))])) _
            refine XS.icmpNo X108.here hx rfl (hb hby at_226) rfl (teq rfl).2 ?_
            show Steps p.tables e below (T108.setTop (mkF m 229 #[.val (.int p0), .val (.int p1), .val (.int p2), .val (.int p3), .val (.int p4), .val (.int p5), .val (.ref r1), .val (.ref r2), .val (.ref pl), .val (.int ia), .val (.int ib), .val (.int ic), .val (.int ie), .val (.ref pp), .val (.ref qq), .val (.int kd), .val (.ref s3), .val (.int (0 : Int32))] [])) _
            refine XS.iconst X108.here hx rfl (hb hby at_229) ?_
            show Steps p.tables e below (T108.setTop (mkF m 230 #[.val (.int p0), .val (.int p1), .val (.int p2), .val (.int p3), .val (.int p4), .val (.int p5), .val (.ref r1), .val (.ref r2), .val (.ref pl), .val (.int ia), .val (.int ib), .val (.int ic), .val (.int ie), .val (.ref pp), .val (.ref qq), .val (.int kd), .val (.ref s3), .val (.int (0 : Int32))] [(.int (1 : Int32))])) _
            refine XS.goto X108.here hx rfl (pc0 := 230) (pc' := 234) rfl (hb hby at_230) (by decide) (by decide) ?_
            show Steps p.tables e below (T108.setTop (mkF m 234 #[.val (.int p0), .val (.int p1), .val (.int p2), .val (.int p3), .val (.int p4), .val (.int p5), .val (.ref r1), .val (.ref r2), .val (.ref pl), .val (.int ia), .val (.int ib), .val (.int ic), .val (.int ie), .val (.ref pp), .val (.ref qq), .val (.int kd), .val (.ref s3), .val (.int (0 : Int32))] [(.int (1 : Int32))])) _
            exact κ)
          obtain ⟨fs, hr, hrun, hended, hW, hsame⟩ := X108.leave (v := some (.int (1 : Int32))) (fun h => by rw [Bd.returns] at h; cases h)
          refine ⟨_, _, pre110 _ ?_, hrun, hended, _, _, rfl, ?_, ⟨_, rfl⟩, hW, hsame.mono (by decide) (by decide)⟩
          · exact retN X108 hx (t := .boolean) Bd.returns (by simp) (hb hby at_234) hr
          · show Q0 Z p0 p1 p2 p3 p4 p5 zc h0 n0 _ T108.heap _
            exact ⟨rfl, N108⟩
        · have e9' : own_pool s1 s2 s3 ic = .null := by rw [eq9]; rfl
          obtain ⟨cl111, Ar111, -, S111, M111, H111, -⟩ := id V_pl_71
          have in111 : ¬ (ic < 0 ∨ cl111.slots.size ≤ (ic).toNatClampNeg) := inb_of S111 (by rw [eq9]; exact ⟨by decide, by decide⟩)
          have at111 : cl111.slots[(ic).toNatClampNeg]? = some .null := H111.at in111 (by rw [eq9]; rfl)
          have pre112 := fun τ (κ : Steps p.tables e below (T71.setTop (mkF m 221 #[.val (.int p0), .val (.int p1), .val (.int p2), .val (.int p3), .val (.int p4), .val (.int p5), .val (.ref r1), .val (.ref r2), .val (.ref pl), .val (.int ia), .val (.int ib), .val (.int ic), .val (.int ie), .val (.ref pp), .val (.ref qq), .val (.int kd), .val .null, .val (.int (0 : Int32))] [.null, (.ref pp)])) τ) => pre95 τ (by
            refine X71.aaload hx (j := ic) (v := .null) Ar111.1 (State.isArrayOf_alike hZ.alike Ar111.2.1) rfl Ar111.2.2 in111 at111 (g := (mkF m 201 #[.val (.int p0), .val (.int p1), .val (.int p2), .val (.int p3), .val (.int p4), .val (.int p5), .val (.ref r1), .val (.ref r2), .val (.ref pl), .val (.int ia), .val (.int ib), .val (.int ic), .val (.int ie), .val (.ref pp), .val (.ref qq), .val (.int kd), .unset, .unset] [(.int ic), (.ref pl)])) rfl rfl (hb hby at_201) _ ?_
            show Steps p.tables e below (T71.setTop (mkF m 202 #[.val (.int p0), .val (.int p1), .val (.int p2), .val (.int p3), .val (.int p4), .val (.int p5), .val (.ref r1), .val (.ref r2), .val (.ref pl), .val (.int ia), .val (.int ib), .val (.int ic), .val (.int ie), .val (.ref pp), .val (.ref qq), .val (.int kd), .unset, .unset] [.null])) _
            refine XS.astore X71.here hx rfl (hb hby at_202) rfl rfl (l' := #[.val (.int p0), .val (.int p1), .val (.int p2), .val (.int p3), .val (.int p4), .val (.int p5), .val (.ref r1), .val (.ref r2), .val (.ref pl), .val (.int ia), .val (.int ib), .val (.int ic), .val (.int ie), .val (.ref pp), .val (.ref qq), .val (.int kd), .val .null, .unset]) rfl ?_
            show Steps p.tables e below (T71.setTop (mkF m 204 #[.val (.int p0), .val (.int p1), .val (.int p2), .val (.int p3), .val (.int p4), .val (.int p5), .val (.ref r1), .val (.ref r2), .val (.ref pl), .val (.int ia), .val (.int ib), .val (.int ic), .val (.int ie), .val (.ref pp), .val (.ref qq), .val (.int kd), .val .null, .unset] [])) _
            refine XS.iconst X71.here hx rfl (hb hby at_204) ?_
            show Steps p.tables e below (T71.setTop (mkF m 205 #[.val (.int p0), .val (.int p1), .val (.int p2), .val (.int p3), .val (.int p4), .val (.int p5), .val (.ref r1), .val (.ref r2), .val (.ref pl), .val (.int ia), .val (.int ib), .val (.int ic), .val (.int ie), .val (.ref pp), .val (.ref qq), .val (.int kd), .val .null, .unset] [(.int (0 : Int32))])) _
            refine XS.istore X71.here hx rfl (hb hby at_205) rfl (l' := #[.val (.int p0), .val (.int p1), .val (.int p2), .val (.int p3), .val (.int p4), .val (.int p5), .val (.ref r1), .val (.ref r2), .val (.ref pl), .val (.int ia), .val (.int ib), .val (.int ic), .val (.int ie), .val (.ref pp), .val (.ref qq), .val (.int kd), .val .null, .val (.int (0 : Int32))]) rfl ?_
            show Steps p.tables e below (T71.setTop (mkF m 207 #[.val (.int p0), .val (.int p1), .val (.int p2), .val (.int p3), .val (.int p4), .val (.int p5), .val (.ref r1), .val (.ref r2), .val (.ref pl), .val (.int ia), .val (.int ib), .val (.int ic), .val (.int ie), .val (.ref pp), .val (.ref qq), .val (.int kd), .val .null, .val (.int (0 : Int32))] [])) _
            refine XS.goto X71.here hx rfl (pc0 := 207) (pc' := 217) rfl (hb hby at_207) (by decide) (by decide) ?_
            show Steps p.tables e below (T71.setTop (mkF m 217 #[.val (.int p0), .val (.int p1), .val (.int p2), .val (.int p3), .val (.int p4), .val (.int p5), .val (.ref r1), .val (.ref r2), .val (.ref pl), .val (.int ia), .val (.int ib), .val (.int ic), .val (.int ie), .val (.ref pp), .val (.ref qq), .val (.int kd), .val .null, .val (.int (0 : Int32))] [])) _
            refine XS.aload X71.here hx rfl (hb hby at_217) rfl rfl ?_
            show Steps p.tables e below (T71.setTop (mkF m 219 #[.val (.int p0), .val (.int p1), .val (.int p2), .val (.int p3), .val (.int p4), .val (.int p5), .val (.ref r1), .val (.ref r2), .val (.ref pl), .val (.int ia), .val (.int ib), .val (.int ic), .val (.int ie), .val (.ref pp), .val (.ref qq), .val (.int kd), .val .null, .val (.int (0 : Int32))] [(.ref pp)])) _
            refine XS.aload X71.here hx rfl (hb hby at_219) rfl rfl ?_
            show Steps p.tables e below (T71.setTop (mkF m 221 #[.val (.int p0), .val (.int p1), .val (.int p2), .val (.int p3), .val (.int p4), .val (.int p5), .val (.ref r1), .val (.ref r2), .val (.ref pl), .val (.int ia), .val (.int ib), .val (.int ic), .val (.int ie), .val (.ref pp), .val (.ref qq), .val (.int kd), .val .null, .val (.int (0 : Int32))] [.null, (.ref pp)])) _
            exact κ)
          obtain ⟨cq113, kq113, q113a, q113b, q113c⟩ := isOf hZ rfl A54_71
          obtain ⟨_, _, ⟨T113, L113, k113, n113⟩, -, X113, ⟨Lc113, hQ113, l113, y113, z113⟩, st113⟩ := X71.virtualBack hx (y := (⟨"com/example/fettle/fettle/tree/IdentityPair", "equals", "(Ljava/lang/Object;)Z"⟩ : MethodName)) (z := (⟨"com/example/fettle/fettle/tree/IdentityPair", "equals", "(Ljava/lang/Object;)Z"⟩ : MethodName)) hown (mvT hZ (hw _ (List.mem_of_getElem? (i := 44) rfl))) (mvT hZ (hw _ (List.mem_of_getElem? (i := 45) rfl))) (notFace_of_selects (args := #[]) (mvT hZ (hw _ (List.mem_of_getElem? (i := 47) rfl)))) (mvT hZ (hw _ (List.mem_of_getElem? (i := 47) rfl))) (mvT hZ (hw _ (List.mem_of_getElem? (i := 46) rfl))) (by decide) (backOf (W := 0) (rm8n l Z a0 hw [] pp T71.heap n0 Z71) hZ (hw _ (List.mem_of_getElem? (i := 48) rfl)) (hw _ (List.mem_of_getElem? (i := 35) rfl)) (by decide) (by decide)) q113a q113c (g := (mkF m 221 #[.val (.int p0), .val (.int p1), .val (.int p2), .val (.int p3), .val (.int p4), .val (.int p5), .val (.ref r1), .val (.ref r2), .val (.ref pl), .val (.int ia), .val (.int ib), .val (.int ic), .val (.int ie), .val (.ref pp), .val (.ref qq), .val (.int kd), .val .null, .val (.int (0 : Int32))] [.null, (.ref pp)])) rfl (by rw [hml]; rfl) (Steps.refl _) (argsL := [.null]) (rest := []) (lenOf pd_2 rfl) rfl (by show 2 * 0 + _ ≤ _; exact Nat.le_of_eq rfl) (hb hby at_221) (fun _ _ => ⟨rfl, rfl, (by decide : 11 + 0 ≤ _), (by decide : 25 + 0 ≤ _)⟩)
          dsimp only [Pt.U, Pt.locs, Pt.cells, Pt.slots] at X113 l113 y113 z113 st113 hQ113
          subst l113 y113 z113
          obtain ⟨rfl, Nq113, hh113⟩ := hQ113
          have X00_113 : Old Z n0 T113.heap := by rw [hh113]; exact X00_71
          have V_r1_113 : Arv Z T113.heap r1 k2 .char (1 : Int32) [(.int (nar .char ((p5 &&& (255 : Int32)).toUInt32.toUInt16.toUInt32.toInt32)))] (.int (0 : Int32)) := by rw [hh113]; exact V_r1_71
          have V_r2_113 : Arv Z T113.heap r2 k9 .char (1 : Int32) [(.int (nar .char ((((p5.toUInt32 >>> ((8 : Int32) &&& 31).toUInt32).toInt32) &&& (255 : Int32)).toUInt32.toUInt16.toUInt32.toInt32)))] (.int (0 : Int32)) := by rw [hh113]; exact V_r2_71
          have Es22_113 : Exa Z T113.heap s1 "java/lang/String" := by rw [hh113]; exact Es22_71
          have Es31_113 : Exa Z T113.heap s2 "java/lang/String" := by rw [hh113]; exact Es31_71
          have Es40_113 : Exa Z T113.heap s3 "java/lang/String" := by rw [hh113]; exact Es40_71
          have V_pl_113 : Arv Z T113.heap pl k16 (.object "java/lang/Object") (4 : Int32) [(.ref s1), (.ref s2), (.ref s3), .null] .null := by rw [hh113]; exact V_pl_71
          have A54_113 : Exa Z T113.heap pp "com/example/fettle/fettle/tree/IdentityPair" := by rw [hh113]; exact A54_71
          have Ff61_113 : Fld Z T113.heap pp "com/example/fettle/fettle/tree/IdentityPair" "first" "Ljava/lang/Object;" via := by rw [hh113]; exact Ff61_71
          have Fs61_113 : Fld Z T113.heap pp "com/example/fettle/fettle/tree/IdentityPair" "second" "Ljava/lang/Object;" vib := by rw [hh113]; exact Fs61_71
          have A64_113 : Exa Z T113.heap qq "com/example/fettle/fettle/tree/IdentityPair" := by rw [hh113]; exact A64_71
          have Ff71_113 : Fld Z T113.heap qq "com/example/fettle/fettle/tree/IdentityPair" "first" "Ljava/lang/Object;" vic := by rw [hh113]; exact Ff71
          have Fs71_113 : Fld Z T113.heap qq "com/example/fettle/fettle/tree/IdentityPair" "second" "Ljava/lang/Object;" vie := by rw [hh113]; exact Fs71
          have Z113 : n0 ≤ T113.heap.size := by rw [hh113]; exact Z71
          have N113 := Fr.app N71 Nq113
          have pre114 := fun τ (κ : Steps p.tables e below (T113.setTop (mkF m 224 #[.val (.int p0), .val (.int p1), .val (.int p2), .val (.int p3), .val (.int p4), .val (.int p5), .val (.ref r1), .val (.ref r2), .val (.ref pl), .val (.int ia), .val (.int ib), .val (.int ic), .val (.int ie), .val (.ref pp), .val (.ref qq), .val (.int kd), .val .null, .val (.int (0 : Int32))] [(.int (0 : Int32))])) τ) => pre112 τ (st113.trans κ)
          have pre115 := fun τ (κ : Steps p.tables e below (T113.setTop (mkF m 234 #[.val (.int p0), .val (.int p1), .val (.int p2), .val (.int p3), .val (.int p4), .val (.int p5), .val (.ref r1), .val (.ref r2), .val (.ref pl), .val (.int ia), .val (.int ib), .val (.int ic), .val (.int ie), .val (.ref pp), .val (.ref qq), .val (.int kd), .val .null, .val (.int (0 : Int32))] [(.int (1 : Int32))])) τ) => pre114 τ (by
            refine XS.iload X113.here hx rfl (hb hby at_224) rfl ?_
            show Steps p.tables e below (T113.setTop (mkF m 226 #[.val (.int p0), .val (.int p1), .val (.int p2), .val (.int p3), .val (.int p4), .val (.int p5), .val (.ref r1), .val (.ref r2), .val (.ref pl), .val (.int ia), .val (.int ib), .val (.int ic), .val (.int ie), .val (.ref pp), .val (.ref qq), .val (.int kd), .val .null, .val (.int (0 : Int32))] [(.int (0 : Int32)), (.int (0 : Int32))])) _
            refine XS.icmpNo X113.here hx rfl (hb hby at_226) rfl (teq rfl).2 ?_
            show Steps p.tables e below (T113.setTop (mkF m 229 #[.val (.int p0), .val (.int p1), .val (.int p2), .val (.int p3), .val (.int p4), .val (.int p5), .val (.ref r1), .val (.ref r2), .val (.ref pl), .val (.int ia), .val (.int ib), .val (.int ic), .val (.int ie), .val (.ref pp), .val (.ref qq), .val (.int kd), .val .null, .val (.int (0 : Int32))] [])) _
            refine XS.iconst X113.here hx rfl (hb hby at_229) ?_
            show Steps p.tables e below (T113.setTop (mkF m 230 #[.val (.int p0), .val (.int p1), .val (.int p2), .val (.int p3), .val (.int p4), .val (.int p5), .val (.ref r1), .val (.ref r2), .val (.ref pl), .val (.int ia), .val (.int ib), .val (.int ic), .val (.int ie), .val (.ref pp), .val (.ref qq), .val (.int kd), .val .null, .val (.int (0 : Int32))] [(.int (1 : Int32))])) _
            refine XS.goto X113.here hx rfl (pc0 := 230) (pc' := 234) rfl (hb hby at_230) (by decide) (by decide) ?_
            show Steps p.tables e below (T113.setTop (mkF m 234 #[.val (.int p0), .val (.int p1), .val (.int p2), .val (.int p3), .val (.int p4), .val (.int p5), .val (.ref r1), .val (.ref r2), .val (.ref pl), .val (.int ia), .val (.int ib), .val (.int ic), .val (.int ie), .val (.ref pp), .val (.ref qq), .val (.int kd), .val .null, .val (.int (0 : Int32))] [(.int (1 : Int32))])) _
            exact κ)
          obtain ⟨fs, hr, hrun, hended, hW, hsame⟩ := X113.leave (v := some (.int (1 : Int32))) (fun h => by rw [Bd.returns] at h; cases h)
          refine ⟨_, _, pre115 _ ?_, hrun, hended, _, _, rfl, ?_, ⟨_, rfl⟩, hW, hsame.mono (by decide) (by decide)⟩
          · exact retN X113 hx (t := .boolean) Bd.returns (by simp) (hb hby at_234) hr
          · show Q0 Z p0 p1 p2 p3 p4 p5 zc h0 n0 _ T113.heap _
            exact ⟨rfl, N113⟩
      · have pre116 := fun τ (κ : Steps p.tables e below (T71.setTop (mkF m 221 #[.val (.int p0), .val (.int p1), .val (.int p2), .val (.int p3), .val (.int p4), .val (.int p5), .val (.ref r1), .val (.ref r2), .val (.ref pl), .val (.int ia), .val (.int ib), .val (.int ic), .val (.int ie), .val (.ref pp), .val (.ref qq), .val (.int kd), .val (.ref pp), .val (.int (1 : Int32))] [(.ref pp), (.ref pp)])) τ) => pre94 τ (by
          refine XS.icmpYes X71.here hx rfl (pc0 := 194) (pc' := 210) rfl (hb hby at_194) rfl (feq kq2).2 (by decide) (by decide) ?_
          show Steps p.tables e below (T71.setTop (mkF m 210 #[.val (.int p0), .val (.int p1), .val (.int p2), .val (.int p3), .val (.int p4), .val (.int p5), .val (.ref r1), .val (.ref r2), .val (.ref pl), .val (.int ia), .val (.int ib), .val (.int ic), .val (.int ie), .val (.ref pp), .val (.ref qq), .val (.int kd), .unset, .unset] [])) _
          refine XS.aload X71.here hx rfl (hb hby at_210) rfl rfl ?_
          show Steps p.tables e below (T71.setTop (mkF m 212 #[.val (.int p0), .val (.int p1), .val (.int p2), .val (.int p3), .val (.int p4), .val (.int p5), .val (.ref r1), .val (.ref r2), .val (.ref pl), .val (.int ia), .val (.int ib), .val (.int ic), .val (.int ie), .val (.ref pp), .val (.ref qq), .val (.int kd), .unset, .unset] [(.ref pp)])) _
          refine XS.astore X71.here hx rfl (hb hby at_212) rfl rfl (l' := #[.val (.int p0), .val (.int p1), .val (.int p2), .val (.int p3), .val (.int p4), .val (.int p5), .val (.ref r1), .val (.ref r2), .val (.ref pl), .val (.int ia), .val (.int ib), .val (.int ic), .val (.int ie), .val (.ref pp), .val (.ref qq), .val (.int kd), .val (.ref pp), .unset]) rfl ?_
          show Steps p.tables e below (T71.setTop (mkF m 214 #[.val (.int p0), .val (.int p1), .val (.int p2), .val (.int p3), .val (.int p4), .val (.int p5), .val (.ref r1), .val (.ref r2), .val (.ref pl), .val (.int ia), .val (.int ib), .val (.int ic), .val (.int ie), .val (.ref pp), .val (.ref qq), .val (.int kd), .val (.ref pp), .unset] [])) _
          refine XS.iconst X71.here hx rfl (hb hby at_214) ?_
          show Steps p.tables e below (T71.setTop (mkF m 215 #[.val (.int p0), .val (.int p1), .val (.int p2), .val (.int p3), .val (.int p4), .val (.int p5), .val (.ref r1), .val (.ref r2), .val (.ref pl), .val (.int ia), .val (.int ib), .val (.int ic), .val (.int ie), .val (.ref pp), .val (.ref qq), .val (.int kd), .val (.ref pp), .unset] [(.int (1 : Int32))])) _
          refine XS.istore X71.here hx rfl (hb hby at_215) rfl (l' := #[.val (.int p0), .val (.int p1), .val (.int p2), .val (.int p3), .val (.int p4), .val (.int p5), .val (.ref r1), .val (.ref r2), .val (.ref pl), .val (.int ia), .val (.int ib), .val (.int ic), .val (.int ie), .val (.ref pp), .val (.ref qq), .val (.int kd), .val (.ref pp), .val (.int (1 : Int32))]) rfl ?_
          show Steps p.tables e below (T71.setTop (mkF m 217 #[.val (.int p0), .val (.int p1), .val (.int p2), .val (.int p3), .val (.int p4), .val (.int p5), .val (.ref r1), .val (.ref r2), .val (.ref pl), .val (.int ia), .val (.int ib), .val (.int ic), .val (.int ie), .val (.ref pp), .val (.ref qq), .val (.int kd), .val (.ref pp), .val (.int (1 : Int32))] [])) _
          refine XS.aload X71.here hx rfl (hb hby at_217) rfl rfl ?_
          show Steps p.tables e below (T71.setTop (mkF m 219 #[.val (.int p0), .val (.int p1), .val (.int p2), .val (.int p3), .val (.int p4), .val (.int p5), .val (.ref r1), .val (.ref r2), .val (.ref pl), .val (.int ia), .val (.int ib), .val (.int ic), .val (.int ie), .val (.ref pp), .val (.ref qq), .val (.int kd), .val (.ref pp), .val (.int (1 : Int32))] [(.ref pp)])) _
          refine XS.aload X71.here hx rfl (hb hby at_219) rfl rfl ?_
          show Steps p.tables e below (T71.setTop (mkF m 221 #[.val (.int p0), .val (.int p1), .val (.int p2), .val (.int p3), .val (.int p4), .val (.int p5), .val (.ref r1), .val (.ref r2), .val (.ref pl), .val (.int ia), .val (.int ib), .val (.int ic), .val (.int ie), .val (.ref pp), .val (.ref qq), .val (.int kd), .val (.ref pp), .val (.int (1 : Int32))] [(.ref pp), (.ref pp)])) _
          exact κ)
        obtain ⟨cq117, kq117, q117a, q117b, q117c⟩ := isOf hZ rfl A54_71
        obtain ⟨_, _, ⟨T117, L117, k117, n117⟩, -, X117, ⟨Lc117, hQ117, l117, y117, z117⟩, st117⟩ := X71.virtualBack hx (y := (⟨"com/example/fettle/fettle/tree/IdentityPair", "equals", "(Ljava/lang/Object;)Z"⟩ : MethodName)) (z := (⟨"com/example/fettle/fettle/tree/IdentityPair", "equals", "(Ljava/lang/Object;)Z"⟩ : MethodName)) hown (mvT hZ (hw _ (List.mem_of_getElem? (i := 44) rfl))) (mvT hZ (hw _ (List.mem_of_getElem? (i := 45) rfl))) (notFace_of_selects (args := #[]) (mvT hZ (hw _ (List.mem_of_getElem? (i := 47) rfl)))) (mvT hZ (hw _ (List.mem_of_getElem? (i := 47) rfl))) (mvT hZ (hw _ (List.mem_of_getElem? (i := 46) rfl))) (by decide) (backOf (W := 0) (rm8p l Z a0 hw [] pp pp via vib via vib T71.heap n0 Z71 r_via r_vib r_via r_vib A54_71 Ff61_71 Fs61_71 Ff61_71 Fs61_71) hZ (hw _ (List.mem_of_getElem? (i := 48) rfl)) (hw _ (List.mem_of_getElem? (i := 35) rfl)) (by decide) (by decide)) q117a q117c (g := (mkF m 221 #[.val (.int p0), .val (.int p1), .val (.int p2), .val (.int p3), .val (.int p4), .val (.int p5), .val (.ref r1), .val (.ref r2), .val (.ref pl), .val (.int ia), .val (.int ib), .val (.int ic), .val (.int ie), .val (.ref pp), .val (.ref qq), .val (.int kd), .val (.ref pp), .val (.int (1 : Int32))] [(.ref pp), (.ref pp)])) rfl (by rw [hml]; rfl) (Steps.refl _) (argsL := [(.ref pp)]) (rest := []) (lenOf pd_2 rfl) rfl (by show 2 * 0 + _ ≤ _; exact Nat.le_of_eq rfl) (hb hby at_221) (fun _ _ => ⟨rfl, rfl, (by decide : 11 + 0 ≤ _), (by decide : 25 + 0 ≤ _)⟩)
        dsimp only [Pt.U, Pt.locs, Pt.cells, Pt.slots] at X117 l117 y117 z117 st117 hQ117
        subst l117 y117 z117
        obtain ⟨rfl, Nq117, hh117⟩ := hQ117
        have X00_117 : Old Z n0 T117.heap := by rw [hh117]; exact X00_71
        have V_r1_117 : Arv Z T117.heap r1 k2 .char (1 : Int32) [(.int (nar .char ((p5 &&& (255 : Int32)).toUInt32.toUInt16.toUInt32.toInt32)))] (.int (0 : Int32)) := by rw [hh117]; exact V_r1_71
        have V_r2_117 : Arv Z T117.heap r2 k9 .char (1 : Int32) [(.int (nar .char ((((p5.toUInt32 >>> ((8 : Int32) &&& 31).toUInt32).toInt32) &&& (255 : Int32)).toUInt32.toUInt16.toUInt32.toInt32)))] (.int (0 : Int32)) := by rw [hh117]; exact V_r2_71
        have Es22_117 : Exa Z T117.heap s1 "java/lang/String" := by rw [hh117]; exact Es22_71
        have Es31_117 : Exa Z T117.heap s2 "java/lang/String" := by rw [hh117]; exact Es31_71
        have Es40_117 : Exa Z T117.heap s3 "java/lang/String" := by rw [hh117]; exact Es40_71
        have V_pl_117 : Arv Z T117.heap pl k16 (.object "java/lang/Object") (4 : Int32) [(.ref s1), (.ref s2), (.ref s3), .null] .null := by rw [hh117]; exact V_pl_71
        have A54_117 : Exa Z T117.heap pp "com/example/fettle/fettle/tree/IdentityPair" := by rw [hh117]; exact A54_71
        have Ff61_117 : Fld Z T117.heap pp "com/example/fettle/fettle/tree/IdentityPair" "first" "Ljava/lang/Object;" via := by rw [hh117]; exact Ff61_71
        have Fs61_117 : Fld Z T117.heap pp "com/example/fettle/fettle/tree/IdentityPair" "second" "Ljava/lang/Object;" vib := by rw [hh117]; exact Fs61_71
        have A64_117 : Exa Z T117.heap qq "com/example/fettle/fettle/tree/IdentityPair" := by rw [hh117]; exact A64_71
        have Ff71_117 : Fld Z T117.heap qq "com/example/fettle/fettle/tree/IdentityPair" "first" "Ljava/lang/Object;" vic := by rw [hh117]; exact Ff71
        have Fs71_117 : Fld Z T117.heap qq "com/example/fettle/fettle/tree/IdentityPair" "second" "Ljava/lang/Object;" vie := by rw [hh117]; exact Fs71
        have Z117 : n0 ≤ T117.heap.size := by rw [hh117]; exact Z71
        have N117 := Fr.app N71 Nq117
        have pre118 := fun τ (κ : Steps p.tables e below (T117.setTop (mkF m 224 #[.val (.int p0), .val (.int p1), .val (.int p2), .val (.int p3), .val (.int p4), .val (.int p5), .val (.ref r1), .val (.ref r2), .val (.ref pl), .val (.int ia), .val (.int ib), .val (.int ic), .val (.int ie), .val (.ref pp), .val (.ref qq), .val (.int kd), .val (.ref pp), .val (.int (1 : Int32))] [(.int (if via = via ∧ vib = vib then 1 else 0))])) τ) => pre116 τ (st117.trans κ)
        have pre119 := fun τ (κ : Steps p.tables e below (T117.setTop (mkF m 234 #[.val (.int p0), .val (.int p1), .val (.int p2), .val (.int p3), .val (.int p4), .val (.int p5), .val (.ref r1), .val (.ref r2), .val (.ref pl), .val (.int ia), .val (.int ib), .val (.int ic), .val (.int ie), .val (.ref pp), .val (.ref qq), .val (.int kd), .val (.ref pp), .val (.int (1 : Int32))] [(.int (1 : Int32))])) τ) => pre118 τ (by
          refine XS.iload X117.here hx rfl (hb hby at_224) rfl ?_
          show Steps p.tables e below (T117.setTop (mkF m 226 #[.val (.int p0), .val (.int p1), .val (.int p2), .val (.int p3), .val (.int p4), .val (.int p5), .val (.ref r1), .val (.ref r2), .val (.ref pl), .val (.int ia), .val (.int ib), .val (.int ic), .val (.int ie), .val (.ref pp), .val (.ref qq), .val (.int kd), .val (.ref pp), .val (.int (1 : Int32))] [(.int (1 : Int32)), (.int (if via = via ∧ vib = vib then 1 else 0))])) _
          refine XS.icmpNo X117.here hx rfl (hb hby at_226) rfl (teq (if_pos ⟨rfl, rfl⟩)).2 ?_
          show Steps p.tables e below (T117.setTop (mkF m 229 #[.val (.int p0), .val (.int p1), .val (.int p2), .val (.int p3), .val (.int p4), .val (.int p5), .val (.ref r1), .val (.ref r2), .val (.ref pl), .val (.int ia), .val (.int ib), .val (.int ic), .val (.int ie), .val (.ref pp), .val (.ref qq), .val (.int kd), .val (.ref pp), .val (.int (1 : Int32))] [])) _
          refine XS.iconst X117.here hx rfl (hb hby at_229) ?_
          show Steps p.tables e below (T117.setTop (mkF m 230 #[.val (.int p0), .val (.int p1), .val (.int p2), .val (.int p3), .val (.int p4), .val (.int p5), .val (.ref r1), .val (.ref r2), .val (.ref pl), .val (.int ia), .val (.int ib), .val (.int ic), .val (.int ie), .val (.ref pp), .val (.ref qq), .val (.int kd), .val (.ref pp), .val (.int (1 : Int32))] [(.int (1 : Int32))])) _
          refine XS.goto X117.here hx rfl (pc0 := 230) (pc' := 234) rfl (hb hby at_230) (by decide) (by decide) ?_
          show Steps p.tables e below (T117.setTop (mkF m 234 #[.val (.int p0), .val (.int p1), .val (.int p2), .val (.int p3), .val (.int p4), .val (.int p5), .val (.ref r1), .val (.ref r2), .val (.ref pl), .val (.int ia), .val (.int ib), .val (.int ic), .val (.int ie), .val (.ref pp), .val (.ref qq), .val (.int kd), .val (.ref pp), .val (.int (1 : Int32))] [(.int (1 : Int32))])) _
          exact κ)
        obtain ⟨fs, hr, hrun, hended, hW, hsame⟩ := X117.leave (v := some (.int (1 : Int32))) (fun h => by rw [Bd.returns] at h; cases h)
        refine ⟨_, _, pre119 _ ?_, hrun, hended, _, _, rfl, ?_, ⟨_, rfl⟩, hW, hsame.mono (by decide) (by decide)⟩
        · exact retN X117 hx (t := .boolean) Bd.returns (by simp) (hb hby at_234) hr
        · show Q0 Z p0 p1 p2 p3 p4 p5 zc h0 n0 _ T117.heap _
          exact ⟨rfl, N117⟩
set_option maxRecDepth 65536 in
set_option maxHeartbeats 40000000 in
theorem comes_1 {Post : Tables → Env → Array Value → State → Outcome → State → Prop} (hpost : ∀ tb e args s v u, (limb_1_1.after args s (.returned v) u = true ∧ limb_1_2.after args s (.returned v) u = true ∧ True) → FrameEnd s (.returned v) u (Jvm.fieldLocs frame_1_writes args s ++ Jvm.arrayLocs frame_1_arrays args s ++ Jvm.staticLocs frame_1_statics s) 32 128 → Post tb e args s (.returned v) u) :
    ArmFor flags0 classFile x code maxLocals ret World_1 tables_1 room_1 Calls_1 rest_1 Pre_1 Post := by
  intro l hfl _ _ p e ha hc hk s m args below hf hA hF happ hP
  obtain ⟨hcalls, hrest, hpre⟩ := hP
  obtain ⟨-, -, -, hnamed, -, -, -, hat⟩ := (Spec.applies_iff hf).mp happ
  obtain ⟨hg, hn⟩ := and_e (Cond.before_iff.mp (show (Jvm.Cond.and given_1 narrow_1).before args s = true from hpre))
  obtain ⟨gc, ga⟩ := and_e hg
  obtain ⟨ga0, gr0⟩ := and_e ga
  obtain ⟨ga1, gr1⟩ := and_e gr0
  obtain ⟨ga2, gr2⟩ := and_e gr1
  obtain ⟨ga3, gr3⟩ := and_e gr2
  obtain ⟨ga4, gr4⟩ := and_e gr3
  obtain ⟨w0, w1, w2, w3, w4, w5, rfl⟩ : ∃ w0 w1 w2 w3 w4 w5 : Value, args = #[w0, w1, w2, w3, w4, w5] := by
    have hs : args.size = 6 := by simpa [Cond.value, given_1] using gc
    obtain ⟨L⟩ := args
    match L, hs with
    | [w0, w1, w2, w3, w4, w5], _ => exact ⟨w0, w1, w2, w3, w4, w5, rfl⟩
  have hw := fun d (hd : d ∈ tables_1) => atoms_spec (ws := Jvm.Cond.code x code maxLocals ret :: tables_1) hat d (List.mem_cons_of_mem _ hd)
  have hfit : Fit s := fun {y c} hc i hi => by
    obtain ⟨ha, rfl⟩ := Array.getElem?_eq_some_iff.mp hc
    have q := List.all_eq_true.mp ((Array.all_eq_true_iff_forall_mem.mp hF) _ (Array.getElem_mem ha)) i (List.mem_range.mpr hi)
    simpa [Array.getElem?_eq_getElem hi] using q
  obtain ⟨hsets, hown0⟩ := atoms_of _ (rest_1_c_eq ▸ (show rest_1_c.before _ s = true from hrest))
  have n3 := not_v (Cond.before_iff.mp (hsets _ (List.mem_of_getElem? (i := 2) rfl)))
  obtain ⟨zc, ezc⟩ := is_v (Cond.before_iff.mp (hsets _ (List.mem_of_getElem? (i := 1) rfl)))
  have S8 : Sta s s.heap "java/lang/String" "COMPACT_STRINGS" "Z" (.int zc) := Sta.start ezc (Or.inl (hsets _ (List.mem_of_getElem? (i := 0) rfl)))
  have c9 : ¬ (zc = (0 : Int32)) := gotF (Cond.eq_ints ezc (Term.int_eval (0))) n3
  obtain ⟨i0, ei0⟩ := is_v ga0
  obtain rfl : w0 = (.int i0) := Option.some.inj ei0
  obtain ⟨i1, ei1⟩ := is_v ga1
  obtain rfl : w1 = (.int i1) := Option.some.inj ei1
  obtain ⟨i2, ei2⟩ := is_v ga2
  obtain rfl : w2 = (.int i2) := Option.some.inj ei2
  obtain ⟨i3, ei3⟩ := is_v ga3
  obtain rfl : w3 = (.int i3) := Option.some.inj ei3
  obtain ⟨i4, ei4⟩ := is_v ga4
  obtain rfl : w4 = (.int i4) := Option.some.inj ei4
  obtain ⟨i5, ei5⟩ := is_v gr4
  obtain rfl : w5 = (.int i5) := Option.some.inj ei5
  obtain ⟨n, o, h1, h2, h3, _, L, rfl, ⟨rfl, N⟩, hq⟩ := rm0 l s _ hw tables_1 i0 i1 i2 i3 i4 i5 zc s.heap s.heap.size (Nat.le_refl _) S8 c9 (Old.start s) p e ha hc hk s m _ below hf ((Spec.applies_iff_loose hf).mp happ).1 ⟨rfl, State.Warmed39.refl s, rfl⟩ trivial
  refine ⟨n, _, h1, h2, h3, hpost _ _ _ _ _ _ ⟨Cond.after_iff.mpr rfl, Cond.after_iff.mpr (eq_i res_at (Term.int_eval (1)) rfl), trivial⟩ ⟨hq.1, hq.2.1, (hq.2.2.sift fun y hy => Or.inr (N y hy)).mono (by decide) (by decide)⟩⟩
theorem main_1_1 : Claimed_1_1 := comes_1 fun _ _ _ _ _ _ h hF => ⟨h.1, hF⟩
theorem main_1_2 : Claimed_1_2 := comes_1 fun _ _ _ _ _ _ h hF => ⟨h.2.1, hF⟩
end Jvm.Pilot.@@N@@
namespace Jvm.Pilot.@@N@@
open Jvm Jvm.ClassFile Sem Op Lib Jvm.Free Jvm.Stand Jvm.Pilot.@@N@@.Jvm.D
/-! MADE BY PROGRAM (witnessworld.py) out of the Statement's table words and the real class files: 21 classes; the members and pool entries that the words name. The judged class is class 1, her method 1. -/
namespace start1
open Jvm.ClassFile
def u (s : String) : CpInfo := .utf8 (stringToUtf16 s)
/-- a pool by its gaps: so many unusable entries, then the entry; so many at the end -/
def gap : Nat → List CpInfo → List CpInfo
  | 0, r => r
  | n + 1, r => .unusable :: gap n r
def poolList (es : List (Nat × CpInfo)) (last : Nat) : List CpInfo := es.foldr (fun e r => gap e.1 (e.2 :: r)) (gap last [])
def pool (es : List (Nat × CpInfo)) (last : Nat) : Array CpInfo := ⟨poolList es last⟩
def fileOf (pool : Array CpInfo) (this : Nat) (attrs : Array Attribute := #[]) (ms : Array MethodInfo := #[]) (fl : Nat := 33) (sup : Nat := 0) (ifs : Array Nat := #[]) (fds : Array FieldInfo := #[]) : ClassFile where
  minorVersion := 0
  majorVersion := 65
  constantPool := pool
  accessFlags := fl
  thisClass := this
  superClass := sup
  interfaces := ifs
  fields := fds
  methods := ms
  attributes := attrs
def plain (name : String) (sup : Option ClassId) : Class where
  name := name
  kind := .ordinary
  loader := none
  accessFlags := 33
  super := sup
  interfaces := #[]
  cf := none
  fields := #[]
  methods := #[]
  instanceTypes := #[]
  staticTypes := #[]
  resolved := #[]
  callSites := []
  init := .initialized
  statics := none
  mirror := none

def pool0 : Array CpInfo := pool [(5, u "<init>"), (0, u "()V"), (1, .class_ 10), (1, u "java/lang/Object")] 113

def k0c0 : Code := { maxStack := 0, maxLocals := 1, code := object_method_1_code, exceptionTable := #[], attributes := #[] }
def k0m0 : Method := { name := "<init>", desc := "()V", sig := { parameters := [], returnType := none }, accessFlags := 1, code := some k0c0 }
/-- java/lang/Object -/
def k0 : Class := { plain "java/lang/Object" none with
  accessFlags := 33
  interfaces := #[]
  cf := some (fileOf pool0 8 #[] #[{ accessFlags := 1, nameIndex := 5, descriptorIndex := 6, attributes := #[] }] 33 0 #[] #[])
  fields := #[]
  methods := #[k0m0]
  instanceTypes := #[]
  staticTypes := #[]
  resolved := Array.replicate 124 none
  statics := none }

def pool1 : Array CpInfo := pool [(2, .class_ 4), (1, u "java/lang/Object"), (0, u "<init>"), (0, u "()V"), (0, .class_ 8), (0, u "java/lang/String"), (0, .methodref 7 10), (0, .nameAndType 5 11), (0, u "([C)V"), (0, .class_ 13), (0, u "com/example/fettle/fettle/tree/IdentityPair"), (0, .methodref 12 15), (0, .nameAndType 5 16), (0, u "(Ljava/lang/Object;Ljava/lang/Object;)V"), (0, .methodref 12 18), (0, .nameAndType 19 20), (0, u "equals"), (0, u "(Ljava/lang/Object;)Z"), (0, .class_ 22), (0, u "com/example/fettle/fettle/tree/IdentityPairEqualsPinLaw"), (2, u "law"), (0, u "(IIIIII)Z")] 7

def k1m0 : Method := { name := "<init>", desc := "()V", sig := { parameters := [], returnType := none }, accessFlags := 1, code := none }
def k1c1 : Code := { maxStack := 6, maxLocals := 18, code := code, exceptionTable := #[], attributes := #[] }
def k1m1 : Method := { name := "law", desc := "(IIIIII)Z", sig := { parameters := [.int, .int, .int, .int, .int, .int], returnType := some .boolean }, accessFlags := 9, code := some k1c1 }
/-- com/example/fettle/fettle/tree/IdentityPairEqualsPinLaw -/
def k1 : Class := { plain "com/example/fettle/fettle/tree/IdentityPairEqualsPinLaw" (some 0) with
  accessFlags := 49
  interfaces := #[]
  cf := some (fileOf pool1 21 #[] #[{ accessFlags := 1, nameIndex := 5, descriptorIndex := 6, attributes := #[] }, { accessFlags := 9, nameIndex := 25, descriptorIndex := 26, attributes := #[] }] 49 2 #[] #[])
  fields := #[]
  methods := #[k1m0, k1m1]
  instanceTypes := #[]
  staticTypes := #[]
  resolved := Array.replicate 34 none
  statics := none }

def pool2 : Array CpInfo := pool [(1, .class_ 2), (0, u "java/io/Serializable"), (0, .class_ 4), (0, u "java/lang/Object")] 2

/-- java/io/Serializable -/
def k2 : Class := { plain "java/io/Serializable" (some 0) with
  accessFlags := 1537
  interfaces := #[]
  cf := some (fileOf pool2 1 #[] #[] 1537 3 #[] #[])
  fields := #[]
  methods := #[]
  instanceTypes := #[]
  staticTypes := #[]
  resolved := Array.replicate 7 none
  statics := none }

def pool3 : Array CpInfo := pool [(1, .class_ 2), (0, u "java/lang/Comparable"), (0, .class_ 4), (0, u "java/lang/Object")] 7

/-- java/lang/Comparable -/
def k3 : Class := { plain "java/lang/Comparable" (some 0) with
  accessFlags := 1537
  interfaces := #[]
  cf := some (fileOf pool3 1 #[] #[] 1537 3 #[] #[])
  fields := #[]
  methods := #[]
  instanceTypes := #[]
  staticTypes := #[]
  resolved := Array.replicate 12 none
  statics := none }

def pool4 : Array CpInfo := pool [(2, .class_ 4), (1, u "java/lang/CharSequence"), (42, .class_ 48), (0, u "java/lang/CharSequence$1CodePointIterator"), (10, .class_ 60), (0, u "java/lang/CharSequence$1CharIterator"), (5, .class_ 67), (0, u "java/lang/Object")] 63

/-- java/lang/CharSequence -/
def k4 : Class := { plain "java/lang/CharSequence" (some 0) with
  accessFlags := 1537
  interfaces := #[]
  cf := some (fileOf pool4 2 #[.nestMembers #[47, 59]] #[] 1537 66 #[] #[])
  fields := #[]
  methods := #[]
  instanceTypes := #[]
  staticTypes := #[]
  resolved := Array.replicate 131 none
  statics := none }

def pool5 : Array CpInfo := pool [(1, .class_ 2), (0, u "java/lang/constant/Constable"), (0, .class_ 4), (0, u "java/lang/Object")] 6

/-- java/lang/constant/Constable -/
def k5 : Class := { plain "java/lang/constant/Constable" (some 0) with
  accessFlags := 1537
  interfaces := #[]
  cf := some (fileOf pool5 1 #[] #[] 1537 3 #[] #[])
  fields := #[]
  methods := #[]
  instanceTypes := #[]
  staticTypes := #[]
  resolved := Array.replicate 11 none
  statics := none }

def pool6 : Array CpInfo := pool [(1, .class_ 2), (0, u "java/lang/constant/ConstantDesc"), (0, .class_ 4), (0, u "java/lang/Object")] 32

/-- java/lang/constant/ConstantDesc -/
def k6 : Class := { plain "java/lang/constant/ConstantDesc" (some 0) with
  accessFlags := 1537
  interfaces := #[]
  cf := some (fileOf pool6 1 #[] #[] 1537 3 #[] #[])
  fields := #[]
  methods := #[]
  instanceTypes := #[]
  staticTypes := #[]
  resolved := Array.replicate 37 none
  statics := none }

def pool7 : Array CpInfo := pool [(1, .methodref 2 3), (0, .class_ 4), (0, .nameAndType 5 6), (0, u "java/lang/Object"), (0, u "<init>"), (0, u "()V"), (2, .fieldref 10 11), (0, .class_ 12), (0, .nameAndType 13 14), (0, u "java/lang/String"), (0, u "value"), (0, u "[B"), (0, .fieldref 10 16), (0, .nameAndType 17 18), (0, u "coder"), (0, u "B"), (2, u "hash"), (0, u "I"), (2, u "hashIsZero"), (0, u "Z"), (0, .methodref 10 28), (0, .nameAndType 5 29), (0, u "([CIILjava/lang/Void;)V"), (8, .fieldref 10 39), (0, .nameAndType 40 26), (0, u "COMPACT_STRINGS"), (1, .class_ 44), (1, u "java/lang/StringUTF16"), (0, u "compress"), (1, .methodref 42 48), (0, .nameAndType 49 50), (0, u "coderFromArrayLen"), (0, u "([BI)B"), (126, .methodref 42 178), (0, .nameAndType 45 179), (0, u "([CII)[B"), (395, .class_ 576), (0, u "java/lang/CharSequence"), (22, u "CASE_INSENSITIVE_ORDER"), (0, u "Ljava/util/Comparator;"), (409, u "([C)V"), (90, u "serialPersistentFields"), (0, u "[Ljava/io/ObjectStreamField;"), (0, .class_ 1104), (0, u "java/lang/String$CaseInsensitiveComparator"), (1, .class_ 1107), (0, u "java/io/Serializable"), (0, .class_ 1109), (0, u "java/lang/Comparable"), (0, .class_ 1111), (0, u "java/lang/constant/Constable"), (0, .class_ 1113), (0, u "java/lang/constant/ConstantDesc"), (2, u "serialVersionUID"), (0, u "J"), (3, u "REPL"), (0, u "C"), (2, u "LATIN1"), (1, u "UTF16")] 323

def k7m0 : Method := { name := "<init>", desc := "()V", sig := { parameters := [], returnType := none }, accessFlags := 1, code := none }
def k7c1 : Code := { maxStack := 5, maxLocals := 2, code := jdk_42_method_3_code, exceptionTable := #[], attributes := #[] }
def k7m1 : Method := { name := "<init>", desc := "([C)V", sig := { parameters := [(.array .char)], returnType := none }, accessFlags := 1, code := some k7c1 }
def k7c2 : Code := { maxStack := 4, maxLocals := 6, code := jdk_42_method_149_code, exceptionTable := #[], attributes := #[] }
def k7m2 : Method := { name := "<init>", desc := "([CIILjava/lang/Void;)V", sig := { parameters := [(.array .char), .int, .int, (.object "java/lang/Void")], returnType := none }, accessFlags := 2, code := some k7c2 }
/-- java/lang/String -/
def k7 : Class := { plain "java/lang/String" (some 0) with
  accessFlags := 49
  interfaces := #[2, 3, 4, 5, 6]
  cf := some (fileOf pool7 10 #[.nestMembers #[1103]] #[{ accessFlags := 1, nameIndex := 5, descriptorIndex := 6, attributes := #[] }, { accessFlags := 1, nameIndex := 5, descriptorIndex := 1010, attributes := #[] }, { accessFlags := 2, nameIndex := 5, descriptorIndex := 29, attributes := #[] }] 49 2 #[1106, 1108, 575, 1110, 1112] #[{ accessFlags := 18, nameIndex := 13, descriptorIndex := 14, attributes := #[] }, { accessFlags := 18, nameIndex := 17, descriptorIndex := 18, attributes := #[] }, { accessFlags := 2, nameIndex := 21, descriptorIndex := 22, attributes := #[] }, { accessFlags := 2, nameIndex := 25, descriptorIndex := 26, attributes := #[] }, { accessFlags := 26, nameIndex := 1116, descriptorIndex := 1117, attributes := #[] }, { accessFlags := 24, nameIndex := 40, descriptorIndex := 26, attributes := #[] }, { accessFlags := 26, nameIndex := 1101, descriptorIndex := 1102, attributes := #[] }, { accessFlags := 26, nameIndex := 1121, descriptorIndex := 1122, attributes := #[] }, { accessFlags := 25, nameIndex := 599, descriptorIndex := 600, attributes := #[] }, { accessFlags := 24, nameIndex := 1125, descriptorIndex := 18, attributes := #[] }, { accessFlags := 24, nameIndex := 1127, descriptorIndex := 18, attributes := #[] }])
  fields := #[{ name := "value", type := (.array .byte), accessFlags := 18, slot := 0, constantValue := 0 }, { name := "coder", type := .byte, accessFlags := 18, slot := 1, constantValue := 0 }, { name := "hash", type := .int, accessFlags := 2, slot := 2, constantValue := 0 }, { name := "hashIsZero", type := .boolean, accessFlags := 2, slot := 3, constantValue := 0 }, { name := "serialVersionUID", type := .long, accessFlags := 26, slot := 0, constantValue := 0 }, { name := "COMPACT_STRINGS", type := .boolean, accessFlags := 24, slot := 1, constantValue := 0 }, { name := "serialPersistentFields", type := (.array (.object "java/io/ObjectStreamField")), accessFlags := 26, slot := 2, constantValue := 0 }, { name := "REPL", type := .char, accessFlags := 26, slot := 3, constantValue := 0 }, { name := "CASE_INSENSITIVE_ORDER", type := (.object "java/util/Comparator"), accessFlags := 25, slot := 4, constantValue := 0 }, { name := "LATIN1", type := .byte, accessFlags := 24, slot := 5, constantValue := 0 }, { name := "UTF16", type := .byte, accessFlags := 24, slot := 6, constantValue := 0 }]
  methods := #[k7m0, k7m1, k7m2]
  instanceTypes := #[(.array .byte), .byte, .int, .boolean]
  staticTypes := #[.long, .boolean, (.array (.object "java/io/ObjectStreamField")), .char, (.object "java/util/Comparator"), .byte, .byte]
  resolved := Array.replicate 1451 none
  statics := some 0 }

def pool8 : Array CpInfo := pool [(6, .class_ 8), (1, u "java/lang/Object"), (0, u "<init>"), (0, u "()V"), (1, .class_ 14), (1, u "java/lang/StringUTF16"), (31, u "$assertionsDisabled"), (0, u "Z"), (13, u "HI_BYTE_SHIFT"), (0, u "I"), (2, u "LO_BYTE_SHIFT"), (49, .methodref 12 116), (0, .nameAndType 117 118), (0, u "compress"), (0, u "([CI[BII)I"), (3, u "([CII)[B"), (138, u "coderFromArrayLen"), (0, u "([BI)B"), (106, .class_ 371), (1, u "java/lang/StringUTF16$LinesSpliterator"), (58, u "MAX_LENGTH"), (196, .class_ 628), (0, u "java/lang/StringUTF16$CodePointsSpliterator"), (0, .class_ 630), (0, u "java/lang/StringUTF16$CharsSpliterator")] 4

def k8m0 : Method := { name := "<init>", desc := "()V", sig := { parameters := [], returnType := none }, accessFlags := 0, code := none }
def k8c1 : Code := { maxStack := 2, maxLocals := 2, code := jdk_52_method_15_code, exceptionTable := #[], attributes := #[] }
def k8m1 : Method := { name := "coderFromArrayLen", desc := "([BI)B", sig := { parameters := [(.array .byte), .int], returnType := some .byte }, accessFlags := 8, code := some k8c1 }
def k8c2 : Code := { maxStack := 5, maxLocals := 6, code := jdk_52_method_16_code, exceptionTable := #[], attributes := #[] }
def k8m2 : Method := { name := "compress", desc := "([CII)[B", sig := { parameters := [(.array .char), .int, .int], returnType := some (.array .byte) }, accessFlags := 9, code := some k8c2 }
def k8c3 : Code := { maxStack := 3, maxLocals := 7, code := jdk_52_method_21_code, exceptionTable := #[], attributes := #[] }
def k8m3 : Method := { name := "compress", desc := "([CI[BII)I", sig := { parameters := [(.array .char), .int, (.array .byte), .int, .int], returnType := some .int }, accessFlags := 9, code := some k8c3 }
/-- java/lang/StringUTF16 -/
def k8 : Class := { plain "java/lang/StringUTF16" (some 0) with
  accessFlags := 48
  interfaces := #[]
  cf := some (fileOf pool8 12 #[.nestMembers #[627, 629, 369]] #[{ accessFlags := 0, nameIndex := 9, descriptorIndex := 10, attributes := #[] }, { accessFlags := 8, nameIndex := 261, descriptorIndex := 262, attributes := #[] }, { accessFlags := 9, nameIndex := 117, descriptorIndex := 122, attributes := #[] }, { accessFlags := 9, nameIndex := 117, descriptorIndex := 118, attributes := #[] }] 48 6 #[] #[{ accessFlags := 26, nameIndex := 61, descriptorIndex := 62, attributes := #[] }, { accessFlags := 26, nameIndex := 65, descriptorIndex := 62, attributes := #[] }, { accessFlags := 24, nameIndex := 430, descriptorIndex := 62, attributes := #[] }, { accessFlags := 4120, nameIndex := 46, descriptorIndex := 47, attributes := #[] }])
  fields := #[{ name := "HI_BYTE_SHIFT", type := .int, accessFlags := 26, slot := 0, constantValue := 0 }, { name := "LO_BYTE_SHIFT", type := .int, accessFlags := 26, slot := 1, constantValue := 0 }, { name := "MAX_LENGTH", type := .int, accessFlags := 24, slot := 2, constantValue := 0 }, { name := "$assertionsDisabled", type := .boolean, accessFlags := 4120, slot := 3, constantValue := 0 }]
  methods := #[k8m0, k8m1, k8m2, k8m3]
  instanceTypes := #[]
  staticTypes := #[.int, .int, .int, .boolean]
  resolved := Array.replicate 635 none
  statics := none }

def pool9 : Array CpInfo := pool [(1, .methodref 2 3), (0, .class_ 4), (0, .nameAndType 5 6), (0, u "java/lang/Object"), (0, u "<init>"), (0, u "()V"), (0, .fieldref 8 9), (0, .class_ 10), (0, .nameAndType 11 12), (0, u "com/example/fettle/fettle/tree/IdentityPair"), (0, u "first"), (0, u "Ljava/lang/Object;"), (0, .fieldref 8 14), (0, .nameAndType 15 12), (0, u "second"), (8, u "(Ljava/lang/Object;Ljava/lang/Object;)V"), (5, u "equals"), (0, u "(Ljava/lang/Object;)Z")] 6

def k9c0 : Code := { maxStack := 2, maxLocals := 3, code := prog_34_method_1_code, exceptionTable := #[], attributes := #[] }
def k9m0 : Method := { name := "<init>", desc := "(Ljava/lang/Object;Ljava/lang/Object;)V", sig := { parameters := [(.object "java/lang/Object"), (.object "java/lang/Object")], returnType := none }, accessFlags := 0, code := some k9c0 }
def k9c1 : Code := { maxStack := 2, maxLocals := 3, code := prog_34_method_4_code, exceptionTable := #[], attributes := #[] }
def k9m1 : Method := { name := "equals", desc := "(Ljava/lang/Object;)Z", sig := { parameters := [(.object "java/lang/Object")], returnType := some .boolean }, accessFlags := 1, code := some k9c1 }
/-- com/example/fettle/fettle/tree/IdentityPair -/
def k9 : Class := { plain "com/example/fettle/fettle/tree/IdentityPair" (some 0) with
  accessFlags := 48
  interfaces := #[]
  cf := some (fileOf pool9 8 #[] #[{ accessFlags := 0, nameIndex := 5, descriptorIndex := 24, attributes := #[] }, { accessFlags := 1, nameIndex := 30, descriptorIndex := 31, attributes := #[] }] 48 2 #[] #[{ accessFlags := 18, nameIndex := 11, descriptorIndex := 12, attributes := #[] }, { accessFlags := 18, nameIndex := 15, descriptorIndex := 12, attributes := #[] }])
  fields := #[{ name := "first", type := (.object "java/lang/Object"), accessFlags := 18, slot := 0, constantValue := 0 }, { name := "second", type := (.object "java/lang/Object"), accessFlags := 18, slot := 1, constantValue := 0 }]
  methods := #[k9m0, k9m1]
  instanceTypes := #[(.object "java/lang/Object"), (.object "java/lang/Object")]
  staticTypes := #[]
  resolved := Array.replicate 38 none
  statics := none }

def pool10 : Array CpInfo := pool [(4, .class_ 6), (1, u "java/lang/Object"), (0, u "<init>"), (0, u "()V"), (5, .class_ 16), (1, u "java/lang/StringLatin1"), (104, u "$assertionsDisabled"), (0, u "Z"), (98, .class_ 223), (1, u "java/lang/StringLatin1$LinesSpliterator"), (166, .class_ 391), (0, u "java/lang/StringLatin1$CharsSpliterator")] 3

def k10m0 : Method := { name := "<init>", desc := "()V", sig := { parameters := [], returnType := none }, accessFlags := 0, code := none }
/-- java/lang/StringLatin1 -/
def k10 : Class := { plain "java/lang/StringLatin1" (some 0) with
  accessFlags := 48
  interfaces := #[]
  cf := some (fileOf pool10 14 #[.nestMembers #[390, 221]] #[{ accessFlags := 0, nameIndex := 7, descriptorIndex := 8, attributes := #[] }] 48 4 #[] #[{ accessFlags := 4120, nameIndex := 121, descriptorIndex := 122, attributes := #[] }])
  fields := #[{ name := "$assertionsDisabled", type := .boolean, accessFlags := 4120, slot := 0, constantValue := 0 }]
  methods := #[k10m0]
  instanceTypes := #[]
  staticTypes := #[.boolean]
  resolved := Array.replicate 395 none
  statics := none }

def pool11 : Array CpInfo := pool [(2, .class_ 4), (1, u "java/lang/Object"), (0, u "<init>"), (0, u "()V"), (17, .class_ 26), (1, u "jdk/internal/util/Preconditions"), (28, .class_ 56), (0, u "jdk/internal/util/Preconditions$4"), (57, .class_ 115), (0, u "jdk/internal/util/Preconditions$1"), (7, u "SIOOBE_FORMATTER"), (0, u "Ljava/util/function/BiFunction;"), (0, .class_ 126), (0, u "jdk/internal/util/Preconditions$2"), (3, u "AIOOBE_FORMATTER"), (0, .class_ 132), (0, u "jdk/internal/util/Preconditions$3"), (3, u "IOOBE_FORMATTER")] 57

def k11m0 : Method := { name := "<init>", desc := "()V", sig := { parameters := [], returnType := none }, accessFlags := 1, code := none }
/-- jdk/internal/util/Preconditions -/
def k11 : Class := { plain "jdk/internal/util/Preconditions" (some 0) with
  accessFlags := 33
  interfaces := #[]
  cf := some (fileOf pool11 24 #[.nestMembers #[55, 131, 125, 114]] #[{ accessFlags := 1, nameIndex := 5, descriptorIndex := 6, attributes := #[] }] 33 2 #[] #[{ accessFlags := 25, nameIndex := 123, descriptorIndex := 124, attributes := #[] }, { accessFlags := 25, nameIndex := 130, descriptorIndex := 124, attributes := #[] }, { accessFlags := 25, nameIndex := 136, descriptorIndex := 124, attributes := #[] }])
  fields := #[{ name := "SIOOBE_FORMATTER", type := (.object "java/util/function/BiFunction"), accessFlags := 25, slot := 0, constantValue := 0 }, { name := "AIOOBE_FORMATTER", type := (.object "java/util/function/BiFunction"), accessFlags := 25, slot := 1, constantValue := 0 }, { name := "IOOBE_FORMATTER", type := (.object "java/util/function/BiFunction"), accessFlags := 25, slot := 2, constantValue := 0 }]
  methods := #[k11m0]
  instanceTypes := #[]
  staticTypes := #[(.object "java/util/function/BiFunction"), (.object "java/util/function/BiFunction"), (.object "java/util/function/BiFunction")]
  resolved := Array.replicate 194 none
  statics := some 1 }

def pool12 : Array CpInfo := pool [(9, u "<init>"), (6, .class_ 18), (1, u "java/lang/Object"), (0, u "()V"), (1, .class_ 23), (1, u "jdk/internal/util/ArraysSupport"), (0, u "LOG2_ARRAY_LONG_INDEX_SCALE"), (0, u "I"), (2, u "U"), (0, u "Ljdk/internal/misc/Unsafe;"), (8, u "BIG_ENDIAN"), (0, u "Z"), (8, u "LOG2_BYTE_BIT_SIZE"), (4, u "LOG2_ARRAY_INT_INDEX_SCALE"), (54, u "JLA"), (0, u "Ljdk/internal/access/JavaLangAccess;"), (11, u "LOG2_ARRAY_BOOLEAN_INDEX_SCALE"), (9, u "LOG2_ARRAY_BYTE_INDEX_SCALE"), (5, u "LOG2_ARRAY_CHAR_INDEX_SCALE"), (5, u "LOG2_ARRAY_SHORT_INDEX_SCALE"), (18, u "LOG2_ARRAY_FLOAT_INDEX_SCALE"), (24, u "LOG2_ARRAY_DOUBLE_INDEX_SCALE"), (89, u "T_BOOLEAN"), (2, u "T_CHAR"), (1, u "T_FLOAT"), (1, u "T_DOUBLE"), (1, u "T_BYTE"), (1, u "T_SHORT"), (1, u "T_INT"), (1, u "T_LONG"), (1, u "SOFT_MAX_ARRAY_LENGTH")] 83

def k12m0 : Method := { name := "<init>", desc := "()V", sig := { parameters := [], returnType := none }, accessFlags := 2, code := none }
/-- jdk/internal/util/ArraysSupport -/
def k12 : Class := { plain "jdk/internal/util/ArraysSupport" (some 0) with
  accessFlags := 33
  interfaces := #[]
  cf := some (fileOf pool12 21 #[] #[{ accessFlags := 2, nameIndex := 9, descriptorIndex := 19, attributes := #[] }] 33 16 #[] #[{ accessFlags := 24, nameIndex := 28, descriptorIndex := 29, attributes := #[] }, { accessFlags := 26, nameIndex := 38, descriptorIndex := 39, attributes := #[] }, { accessFlags := 25, nameIndex := 121, descriptorIndex := 25, attributes := #[] }, { accessFlags := 25, nameIndex := 131, descriptorIndex := 25, attributes := #[] }, { accessFlags := 25, nameIndex := 137, descriptorIndex := 25, attributes := #[] }, { accessFlags := 25, nameIndex := 143, descriptorIndex := 25, attributes := #[] }, { accessFlags := 25, nameIndex := 53, descriptorIndex := 25, attributes := #[] }, { accessFlags := 25, nameIndex := 24, descriptorIndex := 25, attributes := #[] }, { accessFlags := 25, nameIndex := 162, descriptorIndex := 25, attributes := #[] }, { accessFlags := 25, nameIndex := 187, descriptorIndex := 25, attributes := #[] }, { accessFlags := 26, nameIndex := 48, descriptorIndex := 25, attributes := #[] }, { accessFlags := 25, nameIndex := 277, descriptorIndex := 25, attributes := #[] }, { accessFlags := 25, nameIndex := 280, descriptorIndex := 25, attributes := #[] }, { accessFlags := 25, nameIndex := 282, descriptorIndex := 25, attributes := #[] }, { accessFlags := 25, nameIndex := 284, descriptorIndex := 25, attributes := #[] }, { accessFlags := 25, nameIndex := 286, descriptorIndex := 25, attributes := #[] }, { accessFlags := 25, nameIndex := 288, descriptorIndex := 25, attributes := #[] }, { accessFlags := 25, nameIndex := 290, descriptorIndex := 25, attributes := #[] }, { accessFlags := 25, nameIndex := 292, descriptorIndex := 25, attributes := #[] }, { accessFlags := 26, nameIndex := 108, descriptorIndex := 109, attributes := #[] }, { accessFlags := 25, nameIndex := 294, descriptorIndex := 25, attributes := #[] }])
  fields := #[{ name := "U", type := (.object "jdk/internal/misc/Unsafe"), accessFlags := 24, slot := 0, constantValue := 0 }, { name := "BIG_ENDIAN", type := .boolean, accessFlags := 26, slot := 1, constantValue := 0 }, { name := "LOG2_ARRAY_BOOLEAN_INDEX_SCALE", type := .int, accessFlags := 25, slot := 2, constantValue := 0 }, { name := "LOG2_ARRAY_BYTE_INDEX_SCALE", type := .int, accessFlags := 25, slot := 3, constantValue := 0 }, { name := "LOG2_ARRAY_CHAR_INDEX_SCALE", type := .int, accessFlags := 25, slot := 4, constantValue := 0 }, { name := "LOG2_ARRAY_SHORT_INDEX_SCALE", type := .int, accessFlags := 25, slot := 5, constantValue := 0 }, { name := "LOG2_ARRAY_INT_INDEX_SCALE", type := .int, accessFlags := 25, slot := 6, constantValue := 0 }, { name := "LOG2_ARRAY_LONG_INDEX_SCALE", type := .int, accessFlags := 25, slot := 7, constantValue := 0 }, { name := "LOG2_ARRAY_FLOAT_INDEX_SCALE", type := .int, accessFlags := 25, slot := 8, constantValue := 0 }, { name := "LOG2_ARRAY_DOUBLE_INDEX_SCALE", type := .int, accessFlags := 25, slot := 9, constantValue := 0 }, { name := "LOG2_BYTE_BIT_SIZE", type := .int, accessFlags := 26, slot := 10, constantValue := 0 }, { name := "T_BOOLEAN", type := .int, accessFlags := 25, slot := 11, constantValue := 0 }, { name := "T_CHAR", type := .int, accessFlags := 25, slot := 12, constantValue := 0 }, { name := "T_FLOAT", type := .int, accessFlags := 25, slot := 13, constantValue := 0 }, { name := "T_DOUBLE", type := .int, accessFlags := 25, slot := 14, constantValue := 0 }, { name := "T_BYTE", type := .int, accessFlags := 25, slot := 15, constantValue := 0 }, { name := "T_SHORT", type := .int, accessFlags := 25, slot := 16, constantValue := 0 }, { name := "T_INT", type := .int, accessFlags := 25, slot := 17, constantValue := 0 }, { name := "T_LONG", type := .int, accessFlags := 25, slot := 18, constantValue := 0 }, { name := "JLA", type := (.object "jdk/internal/access/JavaLangAccess"), accessFlags := 26, slot := 19, constantValue := 0 }, { name := "SOFT_MAX_ARRAY_LENGTH", type := .int, accessFlags := 25, slot := 20, constantValue := 0 }]
  methods := #[k12m0]
  instanceTypes := #[]
  staticTypes := #[(.object "jdk/internal/misc/Unsafe"), .boolean, .int, .int, .int, .int, .int, .int, .int, .int, .int, .int, .int, .int, .int, .int, .int, .int, .int, (.object "jdk/internal/access/JavaLangAccess"), .int]
  resolved := Array.replicate 378 none
  statics := none }

def pool13 : Array CpInfo := pool [(1, u "java/lang/Cloneable"), (0, .class_ 1), (0, u "java/lang/Object"), (0, .class_ 3)] 3

/-- java/lang/Cloneable -/
def k13 : Class := { plain "java/lang/Cloneable" (some 0) with
  accessFlags := 1537
  interfaces := #[]
  cf := some (fileOf pool13 2 #[] #[] 1537 4 #[] #[])
  fields := #[]
  methods := #[]
  instanceTypes := #[]
  staticTypes := #[]
  resolved := Array.replicate 8 none
  statics := none }

/-- the primitive byte -/
def k14 : Class := { plain "byte" none with kind := .primitive 'B', accessFlags := 0x411 }
/-- [B -/
def k15 : Class := { plain "[B" (some 0) with kind := .array 14 .byte, interfaces := #[13, 2], accessFlags := 1041 }

/-- the primitive char -/
def k16 : Class := { plain "char" none with kind := .primitive 'C', accessFlags := 0x411 }
/-- [C -/
def k17 : Class := { plain "[C" (some 0) with kind := .array 16 .char, interfaces := #[13, 2], accessFlags := 1041 }

/-- the primitive int -/
def k18 : Class := { plain "int" none with kind := .primitive 'I', accessFlags := 0x411 }
/-- [I -/
def k19 : Class := { plain "[I" (some 0) with kind := .array 18 .int, interfaces := #[13, 2], accessFlags := 1041 }

/-- [Ljava/lang/Object; -/
def k20 : Class := { plain "[Ljava/lang/Object;" (some 0) with kind := .array 0 (.object "java/lang/Object"), interfaces := #[13, 2], accessFlags := 1041 }

def heap : Heap := #[{ cls := 7, slots := #[.long 0, .int 1, .null, .int 0, .null, .int 0, .int 0], vm := .statics 7 },
  { cls := 11, slots := #[.null, .null, .null], vm := .statics 11 }]
def classes : Array Class := #[k0, k1, k2, k3, k4, k5, k6, k7, k8, k9, k10, k11, k12, k13, k14, k15, k16, k17, k18, k19, k20]
def interned : List (Array UInt16 × Addr) := []
def slotsUsed : Nat := 10
def theMethod : MethodId := ⟨1, 1⟩
def args0 : Array Value := #[.int 5, .int 3, .int 2, .int 1, .int 0, .int 77]
def aboutOver (below : List Frame) : State where
  vm := { classes := classes, interned := interned.toArray }
  heap := heap
  slotsUsed := slotsUsed
  threads := #[{ frames := .invoking theMethod args0 :: below }]
def below0 : List Frame := [.native { method := ⟨0, 0⟩, args := #[] }]
def about1 : State := aboutOver below0
def p0 : Program := .bare "" "" ""
def e0 : Env := launch0.env 0 0 0
theorem w_frames : about1.frames = Frame.invoking theMethod args0 :: below0 := rfl
set_option maxRecDepth 65536 in
theorem w_args : argsFit about1.vm theMethod args0 = true := by decide +kernel
set_option maxRecDepth 65536 in
theorem w_heap : heapFits about1 = true := by decide +kernel
set_option maxRecDepth 65536 in
theorem w_runnable : about1.curStatus? = some .runnable := by decide +kernel
set_option maxRecDepth 65536 in
theorem w_alone : about1.alone = true := by decide +kernel
set_option maxRecDepth 65536 in
theorem w_named : about1.methodNamed? x = some theMethod := by decide +kernel
set_option maxRecDepth 65536 in
theorem w_hears : about1.hears theMethod below0 = true := by decide +kernel
set_option maxRecDepth 65536 in
theorem w_ripe : about1.ripe theMethod args0 below0 = true := by decide +kernel
theorem w_running : about1.status = .running := rfl
set_option maxRecDepth 65536 in
theorem w_room : about1.hasRoom e0.platform room_1 = true :=
  launch0.hasRoom_least _ room_1 (by decide +kernel) (by decide +kernel) (by decide +kernel) (by decide +kernel) (by decide +kernel) (by decide +kernel)
theorem allAtoms_all (ts : List Jvm.Cond) (a : Array Jvm.Value) (st : Jvm.State) : (allAtoms ts).before a st = ts.all (fun c => c.before a st) := by
  induction ts with
  | nil => rfl
  | cons c t ih =>
    show (Jvm.Cond.and c (allAtoms t)).before a st = _
    rw [Jvm.Cond.before_and, ih, List.all_cons]
def words1 : List Jvm.Cond := Jvm.Cond.code x code maxLocals ret :: tables_1
/-- a 'code' word, met by the world's own term for the bytes: nothing is compared byte by byte -/
theorem code_word {y : MethodName} {bytes : ByteArray} {mx : Nat} {rt : Option FieldType} {a : Array Value} {s : State} {m : MethodId} {meth : Method} {c : Code} (h1 : s.methodNamed? y = some m) (h2 : s.vm.method? m = some meth) (h3 : meth.code = some c) (h4 : c.code = bytes)
    (h5 : (c.maxLocals == mx && c.exceptionTable.isEmpty && decide (c.maxStack ≤ mostOperands) && decide (meth.sig.returnType = rt) && !meth.locks && decide (parseMethodDescriptor y.desc = some meth.sig)) = true) : (Jvm.Cond.code y bytes mx rt).before a s = true := by
  simp only [Bool.and_eq_true, beq_iff_eq, Bool.not_eq_true', decide_eq_true_eq] at h5
  obtain ⟨⟨⟨⟨⟨g1, g2⟩, g3⟩, g4⟩, g5⟩, g6⟩ := h5
  simp [Cond.before, Cond.holds, Cond.value, h1, h2, h3, h4, g1, g2, g3, g4, g5, g6]
def isCode : Jvm.Cond → Bool
  | .code _ _ _ _ => true
  | _ => false
theorem all_split {L : List Jvm.Cond} {P : Jvm.Cond → Bool} (h1 : L.all (fun c => isCode c || P c) = true) (h2 : ∀ c ∈ L.filter isCode, P c = true) : L.all P = true := by
  refine List.all_eq_true.mpr fun c hc => ?_
  have h := List.all_eq_true.mp h1 c hc
  rcases Bool.eq_false_or_eq_true (isCode c) with hi | hi
  · exact h2 c (List.mem_filter.mpr ⟨hc, hi⟩)
  · simpa [hi] using h
set_option maxRecDepth 65536 in
theorem w_c0 : (Jvm.Cond.code x code maxLocals ret).before args0 about1 = true := code_word (m := ⟨1, 1⟩) (meth := k1m1) (c := k1c1) (by decide +kernel) rfl rfl rfl (by decide +kernel)
set_option maxRecDepth 65536 in
theorem w_c1 : (Jvm.Cond.code ({ cls := "java/lang/String", name := "<init>", desc := "([C)V" } : Jvm.MethodName) jdk_42_method_3_code (2 : Nat) (Option.none : Option Jvm.ClassFile.FieldType)).before args0 about1 = true := code_word (m := ⟨7, 1⟩) (meth := k7m1) (c := k7c1) (by decide +kernel) rfl rfl rfl (by decide +kernel)
set_option maxRecDepth 65536 in
theorem w_c2 : (Jvm.Cond.code ({ cls := "java/lang/String", name := "<init>", desc := "([CIILjava/lang/Void;)V" } : Jvm.MethodName) jdk_42_method_149_code (6 : Nat) (Option.none : Option Jvm.ClassFile.FieldType)).before args0 about1 = true := code_word (m := ⟨7, 2⟩) (meth := k7m2) (c := k7c2) (by decide +kernel) rfl rfl rfl (by decide +kernel)
set_option maxRecDepth 65536 in
theorem w_c3 : (Jvm.Cond.code ({ cls := "java/lang/Object", name := "<init>", desc := "()V" } : Jvm.MethodName) object_method_1_code (1 : Nat) (Option.none : Option Jvm.ClassFile.FieldType)).before args0 about1 = true := code_word (m := ⟨0, 0⟩) (meth := k0m0) (c := k0c0) (by decide +kernel) rfl rfl rfl (by decide +kernel)
set_option maxRecDepth 65536 in
theorem w_c4 : (Jvm.Cond.code ({ cls := "java/lang/StringUTF16", name := "compress", desc := "([CII)[B" } : Jvm.MethodName) jdk_52_method_16_code (6 : Nat) (Option.some (Jvm.ClassFile.FieldType.array Jvm.ClassFile.FieldType.byte))).before args0 about1 = true := code_word (m := ⟨8, 2⟩) (meth := k8m2) (c := k8c2) (by decide +kernel) rfl rfl rfl (by decide +kernel)
set_option maxRecDepth 65536 in
theorem w_c5 : (Jvm.Cond.code ({ cls := "java/lang/StringUTF16", name := "compress", desc := "([CI[BII)I" } : Jvm.MethodName) jdk_52_method_21_code (7 : Nat) (Option.some Jvm.ClassFile.FieldType.int)).before args0 about1 = true := code_word (m := ⟨8, 3⟩) (meth := k8m3) (c := k8c3) (by decide +kernel) rfl rfl rfl (by decide +kernel)
set_option maxRecDepth 65536 in
theorem w_c6 : (Jvm.Cond.code ({ cls := "java/lang/StringUTF16", name := "coderFromArrayLen", desc := "([BI)B" } : Jvm.MethodName) jdk_52_method_15_code (2 : Nat) (Option.some Jvm.ClassFile.FieldType.byte)).before args0 about1 = true := code_word (m := ⟨8, 1⟩) (meth := k8m1) (c := k8c1) (by decide +kernel) rfl rfl rfl (by decide +kernel)
set_option maxRecDepth 65536 in
theorem w_c7 : (Jvm.Cond.code ({ cls := "com/example/fettle/fettle/tree/IdentityPair", name := "<init>", desc := "(Ljava/lang/Object;Ljava/lang/Object;)V" } : Jvm.MethodName) prog_34_method_1_code (3 : Nat) (Option.none : Option Jvm.ClassFile.FieldType)).before args0 about1 = true := code_word (m := ⟨9, 0⟩) (meth := k9m0) (c := k9c0) (by decide +kernel) rfl rfl rfl (by decide +kernel)
set_option maxRecDepth 65536 in
theorem w_c8 : (Jvm.Cond.code ({ cls := "com/example/fettle/fettle/tree/IdentityPair", name := "equals", desc := "(Ljava/lang/Object;)Z" } : Jvm.MethodName) prog_34_method_4_code (3 : Nat) (Option.some Jvm.ClassFile.FieldType.boolean)).before args0 about1 = true := code_word (m := ⟨9, 1⟩) (meth := k9m1) (c := k9c1) (by decide +kernel) rfl rfl rfl (by decide +kernel)
def codes1 : List Jvm.Cond := [Jvm.Cond.code x code maxLocals ret, Jvm.Cond.code ({ cls := "java/lang/String", name := "<init>", desc := "([C)V" } : Jvm.MethodName) jdk_42_method_3_code (2 : Nat) (Option.none : Option Jvm.ClassFile.FieldType), Jvm.Cond.code ({ cls := "java/lang/String", name := "<init>", desc := "([CIILjava/lang/Void;)V" } : Jvm.MethodName) jdk_42_method_149_code (6 : Nat) (Option.none : Option Jvm.ClassFile.FieldType), Jvm.Cond.code ({ cls := "java/lang/Object", name := "<init>", desc := "()V" } : Jvm.MethodName) object_method_1_code (1 : Nat) (Option.none : Option Jvm.ClassFile.FieldType), Jvm.Cond.code ({ cls := "java/lang/StringUTF16", name := "compress", desc := "([CII)[B" } : Jvm.MethodName) jdk_52_method_16_code (6 : Nat) (Option.some (Jvm.ClassFile.FieldType.array Jvm.ClassFile.FieldType.byte)), Jvm.Cond.code ({ cls := "java/lang/StringUTF16", name := "compress", desc := "([CI[BII)I" } : Jvm.MethodName) jdk_52_method_21_code (7 : Nat) (Option.some Jvm.ClassFile.FieldType.int), Jvm.Cond.code ({ cls := "java/lang/StringUTF16", name := "coderFromArrayLen", desc := "([BI)B" } : Jvm.MethodName) jdk_52_method_15_code (2 : Nat) (Option.some Jvm.ClassFile.FieldType.byte), Jvm.Cond.code ({ cls := "com/example/fettle/fettle/tree/IdentityPair", name := "<init>", desc := "(Ljava/lang/Object;Ljava/lang/Object;)V" } : Jvm.MethodName) prog_34_method_1_code (3 : Nat) (Option.none : Option Jvm.ClassFile.FieldType), Jvm.Cond.code ({ cls := "com/example/fettle/fettle/tree/IdentityPair", name := "equals", desc := "(Ljava/lang/Object;)Z" } : Jvm.MethodName) prog_34_method_4_code (3 : Nat) (Option.some Jvm.ClassFile.FieldType.boolean)]
set_option maxRecDepth 65536 in
theorem codes_eq : words1.filter isCode = codes1 := rfl
theorem w_codes : ∀ c ∈ words1.filter isCode, c.before args0 about1 = true := by
  rw [codes_eq]
  intro c hc
  simp only [codes1, List.mem_cons, List.not_mem_nil, or_false] at hc
  rcases hc with rfl | rfl | rfl | rfl | rfl | rfl | rfl | rfl | rfl
  · exact w_c0
  · exact w_c1
  · exact w_c2
  · exact w_c3
  · exact w_c4
  · exact w_c5
  · exact w_c6
  · exact w_c7
  · exact w_c8
set_option maxRecDepth 65536 in
theorem w_t1 : (words1.take 24).all (fun c => isCode c || c.before args0 about1) = true := by decide +kernel
set_option maxRecDepth 65536 in
theorem w_t2 : ((words1.drop 24).take 24).all (fun c => isCode c || c.before args0 about1) = true := by decide +kernel
set_option maxRecDepth 65536 in
theorem w_t3 : ((words1.drop 24).drop 24).all (fun c => isCode c || c.before args0 about1) = true := by decide +kernel
theorem w_tables : (allAtoms (Jvm.Cond.code x code maxLocals ret :: tables_1)).before args0 about1 = true := by
  rw [allAtoms_all]
  show words1.all (fun c => c.before args0 about1) = true
  refine all_split ?_ w_codes
  rw [← List.take_append_drop 24 words1, List.all_append, w_t1, ← List.take_append_drop 24 (words1.drop 24), List.all_append, w_t2, w_t3]
  rfl
set_option maxRecDepth 65536 in
theorem w_rest : rest_1_c.before args0 about1 = true := by decide +kernel
set_option maxRecDepth 65536 in
theorem w_case : (Jvm.Cond.and given_1 narrow_1).before args0 about1 = true := by decide +kernel
theorem w_applies : (headSpec (Jvm.Cond.code x code maxLocals ret :: tables_1) room_1).applies x e0.platform about1 = true :=
  (Spec.applies_iff w_frames).mpr ⟨w_running, w_runnable, w_alone, w_named, w_hears, w_ripe, w_room, w_tables⟩
theorem atStart : AtStart classFile x code maxLocals ret World_1 tables_1 room_1 Calls_1 rest_1 Pre_1 launch0 p0 e0 about1 theMethod args0 below0 :=
  ⟨lists_1, trivial, launch0.admits_env _ _ _, launch0.least_env, fairChoices_fair.cas, fairChoices_fair.clock, w_frames, w_args, w_heap, w_applies, trivial, w_rest, w_case⟩
end start1
theorem witness_1 : WitnessClaimed_1 := ⟨start1.p0, start1.e0, start1.about1, start1.theMethod, start1.args0, start1.below0, start1.atStart⟩
end Jvm.Pilot.@@N@@
