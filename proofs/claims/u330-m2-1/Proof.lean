import JvmDerived
import JvmDerived.Pilot.@@N@@Statement
import JvmDerived.Pilot.@@N@@Code
set_option linter.unusedVariables false
set_option linter.unusedSimpArgs false
namespace Jvm.RoadKit
open Sem ClassFile Op Lib Jvm.Stand Jvm.Free Jvm.LawKit
section New
variable {p : Program} {l : Launch} {e : Env} {R : Room} {s : State} {m : MethodId} {args : Array Value} {below : List Frame} {meth : Method} {c : Code} {T : State} {locs : List Loc} {cells slots : Nat}
theorem retI (X : Stand p l e R s m args below meth c T locs cells slots) (hx : p.tables.exec = Jvm.exec) {pc : Nat} {Ls : Array Slot} {z : Int32} {rest : List Value} (hret : meth.sig.returnType = some .int) (hd : decode c.code pc = .ok (.ireturn, 1)) {fs : List Frame}
    (hl : ∀ (f : JFrame) (acts : List Action), f.method = m → f.locked = none → f.entered = [] → (doReturn e (T.setTop f) acts (some (.int z))).1 = T.setFrames fs) : Steps p.tables e below (T.setTop (mkF m pc Ls (.int z :: rest))) (T.setFrames fs) := by
  have hm' : T.vm.method? m = some meth := X.method'
  have hn : narrow .int (.int z) = .int z := rfl
  show Steps p.tables e below (T.setTop { method := m, pc := pc, locals := Ls, stack := _ :: rest, locked := none }) _
  jvm_step X.here [X.here.top, hx, hd, hm', hret, hn]
  first | (intro acts; rw [hl _ acts rfl rfl rfl]) | rw [hl _ _ rfl rfl rfl]
  exact Steps.refl _
theorem retL (X : Stand p l e R s m args below meth c T locs cells slots) (hx : p.tables.exec = Jvm.exec) {pc : Nat} {Ls : Array Slot} {z : Int64} {rest : List Value} (hret : meth.sig.returnType = some .long) (hd : decode c.code pc = .ok (.lreturn, 1)) {fs : List Frame}
    (hl : ∀ (f : JFrame) (acts : List Action), f.method = m → f.locked = none → f.entered = [] → (doReturn e (T.setTop f) acts (some (.long z))).1 = T.setFrames fs) : Steps p.tables e below (T.setTop (mkF m pc Ls (.long z :: rest))) (T.setFrames fs) := by
  have hm' : T.vm.method? m = some meth := X.method'
  have hn : narrow .long (.long z) = .long z := rfl
  show Steps p.tables e below (T.setTop { method := m, pc := pc, locals := Ls, stack := _ :: rest, locked := none }) _
  jvm_step X.here [X.here.top, hx, hd, hm', hret, hn]
  first | (intro acts; rw [hl _ acts rfl rfl rfl]) | rw [hl _ _ rfl rfl rfl]
  exact Steps.refl _
end New
end Jvm.RoadKit
namespace Jvm.Pilot.@@N@@
open Jvm Jvm.ClassFile Sem Op Lib Jvm.Free Jvm.Stand Jvm.LawKit Jvm.RoadKit Bundle Jvm.Pilot.@@N@@.Jvm.D

theorem own_sel {Z s : State} {a0 args : Array Value} {y : MethodName} {n : Nat} (hZ : Z.Warmed39 s.vm) (wi : (Cond.instantiable y.cls n).before a0 Z = true) (wp : (Cond.privateMethod y).before a0 Z = true) (wn : (Cond.instanceMethod y).before a0 Z = true) (hy : y.cls ≠ "java/lang/invoke/MethodHandle" ∧ y.cls ≠ "java/lang/invoke/VarHandle") : (Cond.selects y.cls y y).before args s = true := by
  have wi' : (Cond.instantiable y.cls n).before args s = true := mv hZ wi
  obtain ⟨c, k, h1, h2, -, h4, -⟩ := Cond.instantiable_spec wi'
  rw [Bool.or_eq_false_iff] at h4
  exact Stand.selects_self_of_private h1 h2 h4.1 (Cond.privateMethod_at (mvP hZ wp (args := args))) (mv hZ wn) hy

def own_C (Z : State) (h : Heap) (a o w : Addr) (ko kw : ClassId) (fi ru cl st le mo : Int32) (lo lw : List Value) : Prop := Exa Z h a "com/example/fettle/fettle/regex/Counts" ∧ Fld Z h a "com/example/fettle/fettle/regex/Counts" "oldest" "[I" (.ref o) ∧ Fld Z h a "com/example/fettle/fettle/regex/Counts" "newest" "[I" (.ref w) ∧ Fld Z h a "com/example/fettle/fettle/regex/Counts" "first" "I" (.int fi) ∧ Fld Z h a "com/example/fettle/fettle/regex/Counts" "runs" "I" (.int ru) ∧ Fld Z h a "com/example/fettle/fettle/regex/Counts" "clock" "I" (.int cl) ∧ Fld Z h a "com/example/fettle/fettle/regex/Counts" "starting" "Z" (.int st) ∧ Fld Z h a "com/example/fettle/fettle/regex/Counts" "least" "I" (.int le) ∧ Fld Z h a "com/example/fettle/fettle/regex/Counts" "most" "I" (.int mo) ∧ Arv Z h o ko .int (4 : Int32) lo (.int (0 : Int32)) ∧ Arv Z h w kw .int (4 : Int32) lw (.int (0 : Int32))
theorem own_C.keep {Z : State} {h h' : Heap} {a o w : Addr} {ko kw : ClassId} {fi ru cl st le mo : Int32} {lo lw : List Value} {ws : List Addr} (P : own_C Z h a o w ko kw fi ru cl st le mo lo lw) (K : Keep h h' ws) (q1 : a ∉ ws) (q2 : o ∉ ws) (q3 : w ∉ ws) : own_C Z h' a o w ko kw fi ru cl st le mo lo lw := by
  obtain ⟨E, F1, F2, F3, F4, F5, F6, F7, F8, V1, V2⟩ := P
  exact ⟨E.keep K, F1.keep K q1, F2.keep K q1, F3.keep K q1, F4.keep K q1, F5.keep K q1, F6.keep K q1, F7.keep K q1, F8.keep K q1, V1.keep K q2, V2.keep K q3⟩
theorem own_C.ext {Z : State} {h h' : Heap} {a o w : Addr} {ko kw : ClassId} {fi ru cl st le mo : Int32} {lo lw : List Value} (P : own_C Z h a o w ko kw fi ru cl st le mo lo lw) (K : Ext h h') : own_C Z h' a o w ko kw fi ru cl st le mo lo lw := by
  obtain ⟨E, F1, F2, F3, F4, F5, F6, F7, F8, V1, V2⟩ := P
  exact ⟨E.ext K, F1.ext K, F2.ext K, F3.ext K, F4.ext K, F5.ext K, F6.ext K, F7.ext K, F8.ext K, V1.ext K, V2.ext K⟩
def own_emp (ru st : Int32) : Int32 := if ru = 0 ∧ st = 0 then 1 else 0
theorem own_emp0 : own_emp 0 0 = 1 := rfl
theorem own_empS {ru : Int32} : own_emp ru 1 = 0 := if_neg fun h => absurd h.2 (by decide)
theorem own_empR {st : Int32} : own_emp 1 st = 0 := if_neg fun h => absurd h.1 (by decide)
def own_sec (ru ov nv cl : Int32) : Int32 := if ru = 1 ∧ ov ≠ nv then (cl - ov) - 1 else -1
theorem own_fi {fi : Int32} (h : fi = 0 ∨ fi = 1) : ¬ fi < 0 ∧ fi < (4 : Int32) := by rcases h with rfl | rfl <;> decide
theorem own_fi0 {fi : Int32} (h : fi = 0 ∨ fi = 1) : ((fi + (0 : Int32)) &&& ((4 : Int32) - (1 : Int32))) = fi := by rcases h with rfl | rfl <;> decide
theorem own_fi1 {fi : Int32} (h : fi = 0 ∨ fi = 1) : ((fi + ((1 : Int32) - (1 : Int32))) &&& ((4 : Int32) - (1 : Int32))) = fi := by rcases h with rfl | rfl <;> decide
theorem own_fin {fi : Int32} (h : fi = 0 ∨ fi = 1) {l : List Value} (hl : l.length = 4) : fi.toNatClampNeg < l.length := by rw [hl]; rcases h with rfl | rfl <;> decide
theorem own_get {fi : Int32} (h : fi = 0 ∨ fi = 1) {l : List Value} (hl : l.length = 4) (v d : Value) : (l.set fi.toNatClampNeg v).getD fi.toNatClampNeg d = v := by
  have := own_fin h hl
  simp [List.getD_eq_getElem?_getD, this]
theorem own_nn1 {le : Int32} (h : ¬ le < 0) : (-1 : Int32) < le := by
  rw [Int32.lt_iff_toInt_lt, show (0 : Int32).toInt = 0 from by decide] at h
  rw [Int32.lt_iff_toInt_lt, show (-1 : Int32).toInt = -1 from by decide]; omega
theorem own_maskp (x m : Int32) (hm : 0 ≤ m.toInt) : ¬ (x &&& m) < 0 := by
  rw [Int32.lt_iff_toInt_lt, show (0 : Int32).toInt = 0 from by decide]; have := c_and x m hm; omega
theorem own_rem3 (x : Int32) : ¬ ((x &&& 2147483647) % 3) < 0 := by
  have h := c_and x 2147483647 (by decide)
  rw [Int32.lt_iff_toInt_lt, show (0 : Int32).toInt = 0 from by decide, (c_irem (x &&& 2147483647) 3 3 (by decide)).1 h.1]
  omega

theorem d1_0 : decode jdk_29_method_65_code 0 = .ok (.iload_n 0, 1) := by decide +kernel
theorem d1_1 : decode jdk_29_method_65_code 1 = .ok (.iload_n 1, 1) := by decide +kernel
theorem d1_2 : decode jdk_29_method_65_code 2 = .ok (.if_icmp .lt 7, 3) := by decide +kernel
theorem d1_5 : decode jdk_29_method_65_code 5 = .ok (.iload_n 0, 1) := by decide +kernel
theorem d1_6 : decode jdk_29_method_65_code 6 = .ok (.goto 4, 3) := by decide +kernel
theorem d1_9 : decode jdk_29_method_65_code 9 = .ok (.iload_n 1, 1) := by decide +kernel
theorem d1_10 : decode jdk_29_method_65_code 10 = .ok (.ireturn, 1) := by decide +kernel
theorem d2_0 : decode prog_24_method_1_code 0 = .ok (.aload_n 0, 1) := by decide +kernel
theorem d2_1 : decode prog_24_method_1_code 1 = .ok (.invokespecial 1, 3) := by decide +kernel
theorem d2_4 : decode prog_24_method_1_code 4 = .ok (.aload_n 0, 1) := by decide +kernel
theorem d2_5 : decode prog_24_method_1_code 5 = .ok (.iconst 4, 1) := by decide +kernel
theorem d2_6 : decode prog_24_method_1_code 6 = .ok (.newarray .int, 2) := by decide +kernel
theorem d2_8 : decode prog_24_method_1_code 8 = .ok (.putfield 7, 3) := by decide +kernel
theorem d2_11 : decode prog_24_method_1_code 11 = .ok (.aload_n 0, 1) := by decide +kernel
theorem d2_12 : decode prog_24_method_1_code 12 = .ok (.iconst 4, 1) := by decide +kernel
theorem d2_13 : decode prog_24_method_1_code 13 = .ok (.newarray .int, 2) := by decide +kernel
theorem d2_15 : decode prog_24_method_1_code 15 = .ok (.putfield 13, 3) := by decide +kernel
theorem d2_18 : decode prog_24_method_1_code 18 = .ok (.aload_n 0, 1) := by decide +kernel
theorem d2_19 : decode prog_24_method_1_code 19 = .ok (.iload_n 1, 1) := by decide +kernel
theorem d2_20 : decode prog_24_method_1_code 20 = .ok (.putfield 16, 3) := by decide +kernel
theorem d2_23 : decode prog_24_method_1_code 23 = .ok (.aload_n 0, 1) := by decide +kernel
theorem d2_24 : decode prog_24_method_1_code 24 = .ok (.iload_n 2, 1) := by decide +kernel
theorem d2_25 : decode prog_24_method_1_code 25 = .ok (.putfield 20, 3) := by decide +kernel
theorem d2_28 : decode prog_24_method_1_code 28 = .ok (.return_, 1) := by decide +kernel
theorem d4_0 : decode prog_24_method_2_code 0 = .ok (.aload_n 0, 1) := by decide +kernel
theorem d4_1 : decode prog_24_method_2_code 1 = .ok (.getfield 23, 3) := by decide +kernel
theorem d4_4 : decode prog_24_method_2_code 4 = .ok (.ifCond .ne 14, 3) := by decide +kernel
theorem d4_7 : decode prog_24_method_2_code 7 = .ok (.aload_n 0, 1) := by decide +kernel
theorem d4_8 : decode prog_24_method_2_code 8 = .ok (.getfield 26, 3) := by decide +kernel
theorem d4_11 : decode prog_24_method_2_code 11 = .ok (.ifCond .ne 7, 3) := by decide +kernel
theorem d4_14 : decode prog_24_method_2_code 14 = .ok (.iconst 1, 1) := by decide +kernel
theorem d4_15 : decode prog_24_method_2_code 15 = .ok (.goto 4, 3) := by decide +kernel
theorem d4_18 : decode prog_24_method_2_code 18 = .ok (.iconst 0, 1) := by decide +kernel
theorem d4_19 : decode prog_24_method_2_code 19 = .ok (.ireturn, 1) := by decide +kernel
theorem d5_0 : decode prog_24_method_3_code 0 = .ok (.aload_n 0, 1) := by decide +kernel
theorem d5_1 : decode prog_24_method_3_code 1 = .ok (.iconst 1, 1) := by decide +kernel
theorem d5_2 : decode prog_24_method_3_code 2 = .ok (.putfield 26, 3) := by decide +kernel
theorem d5_5 : decode prog_24_method_3_code 5 = .ok (.return_, 1) := by decide +kernel
theorem d6_0 : decode prog_24_method_5_code 0 = .ok (.aload_n 0, 1) := by decide +kernel
theorem d6_1 : decode prog_24_method_5_code 1 = .ok (.getfield 26, 3) := by decide +kernel
theorem d6_4 : decode prog_24_method_5_code 4 = .ok (.ifCond .eq 12, 3) := by decide +kernel
theorem d6_7 : decode prog_24_method_5_code 7 = .ok (.aload_n 0, 1) := by decide +kernel
theorem d6_8 : decode prog_24_method_5_code 8 = .ok (.invokevirtual 30, 3) := by decide +kernel
theorem d6_11 : decode prog_24_method_5_code 11 = .ok (.aload_n 0, 1) := by decide +kernel
theorem d6_12 : decode prog_24_method_5_code 12 = .ok (.iconst 0, 1) := by decide +kernel
theorem d6_13 : decode prog_24_method_5_code 13 = .ok (.putfield 26, 3) := by decide +kernel
theorem d6_16 : decode prog_24_method_5_code 16 = .ok (.aload_n 0, 1) := by decide +kernel
theorem d6_17 : decode prog_24_method_5_code 17 = .ok (.dup, 1) := by decide +kernel
theorem d6_18 : decode prog_24_method_5_code 18 = .ok (.getfield 33, 3) := by decide +kernel
theorem d6_21 : decode prog_24_method_5_code 21 = .ok (.iconst 1, 1) := by decide +kernel
theorem d6_22 : decode prog_24_method_5_code 22 = .ok (.iadd, 1) := by decide +kernel
theorem d6_23 : decode prog_24_method_5_code 23 = .ok (.putfield 33, 3) := by decide +kernel
theorem d6_26 : decode prog_24_method_5_code 26 = .ok (.aload_n 0, 1) := by decide +kernel
theorem d6_27 : decode prog_24_method_5_code 27 = .ok (.invokevirtual 36, 3) := by decide +kernel
theorem d6_30 : decode prog_24_method_5_code 30 = .ok (.aload_n 0, 1) := by decide +kernel
theorem d6_31 : decode prog_24_method_5_code 31 = .ok (.getfield 16, 3) := by decide +kernel
theorem d6_34 : decode prog_24_method_5_code 34 = .ok (.if_icmp .lt 7, 3) := by decide +kernel
theorem d6_37 : decode prog_24_method_5_code 37 = .ok (.iconst 1, 1) := by decide +kernel
theorem d6_38 : decode prog_24_method_5_code 38 = .ok (.goto 4, 3) := by decide +kernel
theorem d6_41 : decode prog_24_method_5_code 41 = .ok (.iconst 0, 1) := by decide +kernel
theorem d6_42 : decode prog_24_method_5_code 42 = .ok (.istore_n 2, 1) := by decide +kernel
theorem d6_43 : decode prog_24_method_5_code 43 = .ok (.aload_n 0, 1) := by decide +kernel
theorem d6_44 : decode prog_24_method_5_code 44 = .ok (.getfield 20, 3) := by decide +kernel
theorem d6_47 : decode prog_24_method_5_code 47 = .ok (.iconst (-1), 1) := by decide +kernel
theorem d6_48 : decode prog_24_method_5_code 48 = .ok (.if_icmp .eq 14, 3) := by decide +kernel
theorem d6_51 : decode prog_24_method_5_code 51 = .ok (.aload_n 0, 1) := by decide +kernel
theorem d6_52 : decode prog_24_method_5_code 52 = .ok (.invokevirtual 36, 3) := by decide +kernel
theorem d6_55 : decode prog_24_method_5_code 55 = .ok (.aload_n 0, 1) := by decide +kernel
theorem d6_56 : decode prog_24_method_5_code 56 = .ok (.getfield 20, 3) := by decide +kernel
theorem d6_59 : decode prog_24_method_5_code 59 = .ok (.if_icmp .eq 14, 3) := by decide +kernel
theorem d6_62 : decode prog_24_method_5_code 62 = .ok (.aload_n 0, 1) := by decide +kernel
theorem d6_63 : decode prog_24_method_5_code 63 = .ok (.invokevirtual 42, 3) := by decide +kernel
theorem d6_66 : decode prog_24_method_5_code 66 = .ok (.aload_n 0, 1) := by decide +kernel
theorem d6_67 : decode prog_24_method_5_code 67 = .ok (.getfield 16, 3) := by decide +kernel
theorem d6_70 : decode prog_24_method_5_code 70 = .ok (.if_icmp .lt 7, 3) := by decide +kernel
theorem d6_73 : decode prog_24_method_5_code 73 = .ok (.aload_n 0, 1) := by decide +kernel
theorem d6_74 : decode prog_24_method_5_code 74 = .ok (.invokevirtual 45, 3) := by decide +kernel
theorem d6_77 : decode prog_24_method_5_code 77 = .ok (.aload_n 1, 1) := by decide +kernel
theorem d6_78 : decode prog_24_method_5_code 78 = .ok (.aload_n 0, 1) := by decide +kernel
theorem d6_79 : decode prog_24_method_5_code 79 = .ok (.invokevirtual 48, 3) := by decide +kernel
theorem d6_82 : decode prog_24_method_5_code 82 = .ok (.iload_n 2, 1) := by decide +kernel
theorem d6_83 : decode prog_24_method_5_code 83 = .ok (.ireturn, 1) := by decide +kernel
theorem d7_0 : decode prog_24_method_6_code 0 = .ok (.aload_n 0, 1) := by decide +kernel
theorem d7_1 : decode prog_24_method_6_code 1 = .ok (.getfield 16, 3) := by decide +kernel
theorem d7_4 : decode prog_24_method_6_code 4 = .ok (.ifCond .ne 8, 3) := by decide +kernel
theorem d7_7 : decode prog_24_method_6_code 7 = .ok (.aload_n 0, 1) := by decide +kernel
theorem d7_8 : decode prog_24_method_6_code 8 = .ok (.iconst 0, 1) := by decide +kernel
theorem d7_9 : decode prog_24_method_6_code 9 = .ok (.putfield 23, 3) := by decide +kernel
theorem d7_12 : decode prog_24_method_6_code 12 = .ok (.aload_n 0, 1) := by decide +kernel
theorem d7_13 : decode prog_24_method_6_code 13 = .ok (.getfield 23, 3) := by decide +kernel
theorem d7_16 : decode prog_24_method_6_code 16 = .ok (.ifCond .le 49, 3) := by decide +kernel
theorem d7_19 : decode prog_24_method_6_code 19 = .ok (.aload_n 0, 1) := by decide +kernel
theorem d7_20 : decode prog_24_method_6_code 20 = .ok (.getfield 13, 3) := by decide +kernel
theorem d7_23 : decode prog_24_method_6_code 23 = .ok (.aload_n 0, 1) := by decide +kernel
theorem d7_24 : decode prog_24_method_6_code 24 = .ok (.aload_n 0, 1) := by decide +kernel
theorem d7_25 : decode prog_24_method_6_code 25 = .ok (.getfield 23, 3) := by decide +kernel
theorem d7_28 : decode prog_24_method_6_code 28 = .ok (.iconst 1, 1) := by decide +kernel
theorem d7_29 : decode prog_24_method_6_code 29 = .ok (.isub, 1) := by decide +kernel
theorem d7_30 : decode prog_24_method_6_code 30 = .ok (.invokevirtual 52, 3) := by decide +kernel
theorem d7_33 : decode prog_24_method_6_code 33 = .ok (.iaload, 1) := by decide +kernel
theorem d7_34 : decode prog_24_method_6_code 34 = .ok (.aload_n 0, 1) := by decide +kernel
theorem d7_35 : decode prog_24_method_6_code 35 = .ok (.getfield 33, 3) := by decide +kernel
theorem d7_38 : decode prog_24_method_6_code 38 = .ok (.iconst 1, 1) := by decide +kernel
theorem d7_39 : decode prog_24_method_6_code 39 = .ok (.isub, 1) := by decide +kernel
theorem d7_40 : decode prog_24_method_6_code 40 = .ok (.if_icmp .ne 25, 3) := by decide +kernel
theorem d7_43 : decode prog_24_method_6_code 43 = .ok (.aload_n 0, 1) := by decide +kernel
theorem d7_44 : decode prog_24_method_6_code 44 = .ok (.getfield 13, 3) := by decide +kernel
theorem d7_47 : decode prog_24_method_6_code 47 = .ok (.aload_n 0, 1) := by decide +kernel
theorem d7_48 : decode prog_24_method_6_code 48 = .ok (.aload_n 0, 1) := by decide +kernel
theorem d7_49 : decode prog_24_method_6_code 49 = .ok (.getfield 23, 3) := by decide +kernel
theorem d7_52 : decode prog_24_method_6_code 52 = .ok (.iconst 1, 1) := by decide +kernel
theorem d7_53 : decode prog_24_method_6_code 53 = .ok (.isub, 1) := by decide +kernel
theorem d7_54 : decode prog_24_method_6_code 54 = .ok (.invokevirtual 52, 3) := by decide +kernel
theorem d7_57 : decode prog_24_method_6_code 57 = .ok (.aload_n 0, 1) := by decide +kernel
theorem d7_58 : decode prog_24_method_6_code 58 = .ok (.getfield 33, 3) := by decide +kernel
theorem d7_61 : decode prog_24_method_6_code 61 = .ok (.iastore, 1) := by decide +kernel
theorem d7_62 : decode prog_24_method_6_code 62 = .ok (.goto 15, 3) := by decide +kernel
theorem d7_65 : decode prog_24_method_6_code 65 = .ok (.aload_n 0, 1) := by decide +kernel
theorem d7_66 : decode prog_24_method_6_code 66 = .ok (.aload_n 0, 1) := by decide +kernel
theorem d7_67 : decode prog_24_method_6_code 67 = .ok (.getfield 33, 3) := by decide +kernel
theorem d7_70 : decode prog_24_method_6_code 70 = .ok (.aload_n 0, 1) := by decide +kernel
theorem d7_71 : decode prog_24_method_6_code 71 = .ok (.getfield 33, 3) := by decide +kernel
theorem d7_74 : decode prog_24_method_6_code 74 = .ok (.invokevirtual 56, 3) := by decide +kernel
theorem d7_77 : decode prog_24_method_6_code 77 = .ok (.return_, 1) := by decide +kernel
theorem d8_0 : decode prog_24_method_11_code 0 = .ok (.aload_n 0, 1) := by decide +kernel
theorem d8_1 : decode prog_24_method_11_code 1 = .ok (.getfield 23, 3) := by decide +kernel
theorem d8_4 : decode prog_24_method_11_code 4 = .ok (.aload_n 0, 1) := by decide +kernel
theorem d8_5 : decode prog_24_method_11_code 5 = .ok (.getfield 7, 3) := by decide +kernel
theorem d8_8 : decode prog_24_method_11_code 8 = .ok (.arraylength, 1) := by decide +kernel
theorem d8_9 : decode prog_24_method_11_code 9 = .ok (.if_icmp .ne 87, 3) := by decide +kernel
theorem d8_96 : decode prog_24_method_11_code 96 = .ok (.aload_n 0, 1) := by decide +kernel
theorem d8_97 : decode prog_24_method_11_code 97 = .ok (.getfield 7, 3) := by decide +kernel
theorem d8_100 : decode prog_24_method_11_code 100 = .ok (.aload_n 0, 1) := by decide +kernel
theorem d8_101 : decode prog_24_method_11_code 101 = .ok (.aload_n 0, 1) := by decide +kernel
theorem d8_102 : decode prog_24_method_11_code 102 = .ok (.getfield 23, 3) := by decide +kernel
theorem d8_105 : decode prog_24_method_11_code 105 = .ok (.invokevirtual 52, 3) := by decide +kernel
theorem d8_108 : decode prog_24_method_11_code 108 = .ok (.iload_n 1, 1) := by decide +kernel
theorem d8_109 : decode prog_24_method_11_code 109 = .ok (.iastore, 1) := by decide +kernel
theorem d8_110 : decode prog_24_method_11_code 110 = .ok (.aload_n 0, 1) := by decide +kernel
theorem d8_111 : decode prog_24_method_11_code 111 = .ok (.getfield 13, 3) := by decide +kernel
theorem d8_114 : decode prog_24_method_11_code 114 = .ok (.aload_n 0, 1) := by decide +kernel
theorem d8_115 : decode prog_24_method_11_code 115 = .ok (.aload_n 0, 1) := by decide +kernel
theorem d8_116 : decode prog_24_method_11_code 116 = .ok (.getfield 23, 3) := by decide +kernel
theorem d8_119 : decode prog_24_method_11_code 119 = .ok (.invokevirtual 52, 3) := by decide +kernel
theorem d8_122 : decode prog_24_method_11_code 122 = .ok (.iload_n 2, 1) := by decide +kernel
theorem d8_123 : decode prog_24_method_11_code 123 = .ok (.iastore, 1) := by decide +kernel
theorem d8_124 : decode prog_24_method_11_code 124 = .ok (.aload_n 0, 1) := by decide +kernel
theorem d8_125 : decode prog_24_method_11_code 125 = .ok (.dup, 1) := by decide +kernel
theorem d8_126 : decode prog_24_method_11_code 126 = .ok (.getfield 23, 3) := by decide +kernel
theorem d8_129 : decode prog_24_method_11_code 129 = .ok (.iconst 1, 1) := by decide +kernel
theorem d8_130 : decode prog_24_method_11_code 130 = .ok (.iadd, 1) := by decide +kernel
theorem d8_131 : decode prog_24_method_11_code 131 = .ok (.putfield 23, 3) := by decide +kernel
theorem d8_134 : decode prog_24_method_11_code 134 = .ok (.return_, 1) := by decide +kernel
theorem d9_0 : decode prog_24_method_12_code 0 = .ok (.aload_n 0, 1) := by decide +kernel
theorem d9_1 : decode prog_24_method_12_code 1 = .ok (.getfield 69, 3) := by decide +kernel
theorem d9_4 : decode prog_24_method_12_code 4 = .ok (.iload_n 1, 1) := by decide +kernel
theorem d9_5 : decode prog_24_method_12_code 5 = .ok (.iadd, 1) := by decide +kernel
theorem d9_6 : decode prog_24_method_12_code 6 = .ok (.aload_n 0, 1) := by decide +kernel
theorem d9_7 : decode prog_24_method_12_code 7 = .ok (.getfield 7, 3) := by decide +kernel
theorem d9_10 : decode prog_24_method_12_code 10 = .ok (.arraylength, 1) := by decide +kernel
theorem d9_11 : decode prog_24_method_12_code 11 = .ok (.iconst 1, 1) := by decide +kernel
theorem d9_12 : decode prog_24_method_12_code 12 = .ok (.isub, 1) := by decide +kernel
theorem d9_13 : decode prog_24_method_12_code 13 = .ok (.iand, 1) := by decide +kernel
theorem d9_14 : decode prog_24_method_12_code 14 = .ok (.ireturn, 1) := by decide +kernel
theorem d10_0 : decode prog_24_method_8_code 0 = .ok (.aload_n 0, 1) := by decide +kernel
theorem d10_1 : decode prog_24_method_8_code 1 = .ok (.getfield 33, 3) := by decide +kernel
theorem d10_4 : decode prog_24_method_8_code 4 = .ok (.aload_n 0, 1) := by decide +kernel
theorem d10_5 : decode prog_24_method_8_code 5 = .ok (.getfield 7, 3) := by decide +kernel
theorem d10_8 : decode prog_24_method_8_code 8 = .ok (.aload_n 0, 1) := by decide +kernel
theorem d10_9 : decode prog_24_method_8_code 9 = .ok (.getfield 69, 3) := by decide +kernel
theorem d10_12 : decode prog_24_method_8_code 12 = .ok (.iaload, 1) := by decide +kernel
theorem d10_13 : decode prog_24_method_8_code 13 = .ok (.isub, 1) := by decide +kernel
theorem d10_14 : decode prog_24_method_8_code 14 = .ok (.ireturn, 1) := by decide +kernel
theorem d11_0 : decode prog_24_method_9_code 0 = .ok (.aload_n 0, 1) := by decide +kernel
theorem d11_1 : decode prog_24_method_9_code 1 = .ok (.getfield 23, 3) := by decide +kernel
theorem d11_4 : decode prog_24_method_9_code 4 = .ok (.ifCond .le 31, 3) := by decide +kernel
theorem d11_7 : decode prog_24_method_9_code 7 = .ok (.aload_n 0, 1) := by decide +kernel
theorem d11_8 : decode prog_24_method_9_code 8 = .ok (.getfield 7, 3) := by decide +kernel
theorem d11_11 : decode prog_24_method_9_code 11 = .ok (.aload_n 0, 1) := by decide +kernel
theorem d11_12 : decode prog_24_method_9_code 12 = .ok (.getfield 69, 3) := by decide +kernel
theorem d11_15 : decode prog_24_method_9_code 15 = .ok (.iaload, 1) := by decide +kernel
theorem d11_16 : decode prog_24_method_9_code 16 = .ok (.aload_n 0, 1) := by decide +kernel
theorem d11_17 : decode prog_24_method_9_code 17 = .ok (.getfield 13, 3) := by decide +kernel
theorem d11_20 : decode prog_24_method_9_code 20 = .ok (.aload_n 0, 1) := by decide +kernel
theorem d11_21 : decode prog_24_method_9_code 21 = .ok (.getfield 69, 3) := by decide +kernel
theorem d11_24 : decode prog_24_method_9_code 24 = .ok (.iaload, 1) := by decide +kernel
theorem d11_25 : decode prog_24_method_9_code 25 = .ok (.if_icmp .eq 10, 3) := by decide +kernel
theorem d11_28 : decode prog_24_method_9_code 28 = .ok (.aload_n 0, 1) := by decide +kernel
theorem d11_29 : decode prog_24_method_9_code 29 = .ok (.invokevirtual 36, 3) := by decide +kernel
theorem d11_32 : decode prog_24_method_9_code 32 = .ok (.iconst 1, 1) := by decide +kernel
theorem d11_33 : decode prog_24_method_9_code 33 = .ok (.isub, 1) := by decide +kernel
theorem d11_34 : decode prog_24_method_9_code 34 = .ok (.ireturn, 1) := by decide +kernel
theorem d11_35 : decode prog_24_method_9_code 35 = .ok (.aload_n 0, 1) := by decide +kernel
theorem d11_36 : decode prog_24_method_9_code 36 = .ok (.getfield 23, 3) := by decide +kernel
theorem d11_39 : decode prog_24_method_9_code 39 = .ok (.iconst 1, 1) := by decide +kernel
theorem d11_40 : decode prog_24_method_9_code 40 = .ok (.if_icmp .le 21, 3) := by decide +kernel
theorem d11_61 : decode prog_24_method_9_code 61 = .ok (.iconst (-1), 1) := by decide +kernel
theorem d11_62 : decode prog_24_method_9_code 62 = .ok (.ireturn, 1) := by decide +kernel
theorem d12_0 : decode prog_24_method_7_code 0 = .ok (.aload_n 0, 1) := by decide +kernel
theorem d12_1 : decode prog_24_method_7_code 1 = .ok (.getfield 23, 3) := by decide +kernel
theorem d12_4 : decode prog_24_method_7_code 4 = .ok (.ifCond .ne 9, 3) := by decide +kernel
theorem d12_7 : decode prog_24_method_7_code 7 = .ok (.aload_n 0, 1) := by decide +kernel
theorem d12_8 : decode prog_24_method_7_code 8 = .ok (.aload_n 1, 1) := by decide +kernel
theorem d12_9 : decode prog_24_method_7_code 9 = .ok (.invokevirtual 60, 3) := by decide +kernel
theorem d12_12 : decode prog_24_method_7_code 12 = .ok (.return_, 1) := by decide +kernel
theorem d13_0 : decode prog_24_method_13_code 0 = .ok (.aload_n 0, 1) := by decide +kernel
theorem d13_1 : decode prog_24_method_13_code 1 = .ok (.getfield 7, 3) := by decide +kernel
theorem d13_4 : decode prog_24_method_13_code 4 = .ok (.astore_n 2, 1) := by decide +kernel
theorem d13_5 : decode prog_24_method_13_code 5 = .ok (.aload_n 0, 1) := by decide +kernel
theorem d13_6 : decode prog_24_method_13_code 6 = .ok (.getfield 13, 3) := by decide +kernel
theorem d13_9 : decode prog_24_method_13_code 9 = .ok (.astore_n 3, 1) := by decide +kernel
theorem d13_10 : decode prog_24_method_13_code 10 = .ok (.aload_n 0, 1) := by decide +kernel
theorem d13_11 : decode prog_24_method_13_code 11 = .ok (.getfield 33, 3) := by decide +kernel
theorem d13_14 : decode prog_24_method_13_code 14 = .ok (.istore 4, 2) := by decide +kernel
theorem d13_16 : decode prog_24_method_13_code 16 = .ok (.aload_n 0, 1) := by decide +kernel
theorem d13_17 : decode prog_24_method_13_code 17 = .ok (.aload_n 1, 1) := by decide +kernel
theorem d13_18 : decode prog_24_method_13_code 18 = .ok (.getfield 7, 3) := by decide +kernel
theorem d13_21 : decode prog_24_method_13_code 21 = .ok (.putfield 7, 3) := by decide +kernel
theorem d13_24 : decode prog_24_method_13_code 24 = .ok (.aload_n 0, 1) := by decide +kernel
theorem d13_25 : decode prog_24_method_13_code 25 = .ok (.aload_n 1, 1) := by decide +kernel
theorem d13_26 : decode prog_24_method_13_code 26 = .ok (.getfield 13, 3) := by decide +kernel
theorem d13_29 : decode prog_24_method_13_code 29 = .ok (.putfield 13, 3) := by decide +kernel
theorem d13_32 : decode prog_24_method_13_code 32 = .ok (.aload_n 0, 1) := by decide +kernel
theorem d13_33 : decode prog_24_method_13_code 33 = .ok (.aload_n 1, 1) := by decide +kernel
theorem d13_34 : decode prog_24_method_13_code 34 = .ok (.getfield 69, 3) := by decide +kernel
theorem d13_37 : decode prog_24_method_13_code 37 = .ok (.putfield 69, 3) := by decide +kernel
theorem d13_40 : decode prog_24_method_13_code 40 = .ok (.aload_n 0, 1) := by decide +kernel
theorem d13_41 : decode prog_24_method_13_code 41 = .ok (.aload_n 1, 1) := by decide +kernel
theorem d13_42 : decode prog_24_method_13_code 42 = .ok (.getfield 23, 3) := by decide +kernel
theorem d13_45 : decode prog_24_method_13_code 45 = .ok (.putfield 23, 3) := by decide +kernel
theorem d13_48 : decode prog_24_method_13_code 48 = .ok (.aload_n 0, 1) := by decide +kernel
theorem d13_49 : decode prog_24_method_13_code 49 = .ok (.aload_n 1, 1) := by decide +kernel
theorem d13_50 : decode prog_24_method_13_code 50 = .ok (.getfield 33, 3) := by decide +kernel
theorem d13_53 : decode prog_24_method_13_code 53 = .ok (.putfield 33, 3) := by decide +kernel
theorem d13_56 : decode prog_24_method_13_code 56 = .ok (.aload_n 1, 1) := by decide +kernel
theorem d13_57 : decode prog_24_method_13_code 57 = .ok (.aload_n 2, 1) := by decide +kernel
theorem d13_58 : decode prog_24_method_13_code 58 = .ok (.putfield 7, 3) := by decide +kernel
theorem d13_61 : decode prog_24_method_13_code 61 = .ok (.aload_n 1, 1) := by decide +kernel
theorem d13_62 : decode prog_24_method_13_code 62 = .ok (.aload_n 3, 1) := by decide +kernel
theorem d13_63 : decode prog_24_method_13_code 63 = .ok (.putfield 13, 3) := by decide +kernel
theorem d13_66 : decode prog_24_method_13_code 66 = .ok (.aload_n 1, 1) := by decide +kernel
theorem d13_67 : decode prog_24_method_13_code 67 = .ok (.iconst 0, 1) := by decide +kernel
theorem d13_68 : decode prog_24_method_13_code 68 = .ok (.putfield 69, 3) := by decide +kernel
theorem d13_71 : decode prog_24_method_13_code 71 = .ok (.aload_n 1, 1) := by decide +kernel
theorem d13_72 : decode prog_24_method_13_code 72 = .ok (.iconst 0, 1) := by decide +kernel
theorem d13_73 : decode prog_24_method_13_code 73 = .ok (.putfield 23, 3) := by decide +kernel
theorem d13_76 : decode prog_24_method_13_code 76 = .ok (.aload_n 1, 1) := by decide +kernel
theorem d13_77 : decode prog_24_method_13_code 77 = .ok (.iload 4, 2) := by decide +kernel
theorem d13_79 : decode prog_24_method_13_code 79 = .ok (.putfield 33, 3) := by decide +kernel
theorem d13_82 : decode prog_24_method_13_code 82 = .ok (.return_, 1) := by decide +kernel
theorem d14_0 : decode prog_24_method_10_code 0 = .ok (.aload_n 0, 1) := by decide +kernel
theorem d14_1 : decode prog_24_method_10_code 1 = .ok (.getfield 7, 3) := by decide +kernel
theorem d14_4 : decode prog_24_method_10_code 4 = .ok (.aload_n 0, 1) := by decide +kernel
theorem d14_5 : decode prog_24_method_10_code 5 = .ok (.getfield 69, 3) := by decide +kernel
theorem d14_8 : decode prog_24_method_10_code 8 = .ok (.iaload, 1) := by decide +kernel
theorem d14_9 : decode prog_24_method_10_code 9 = .ok (.aload_n 0, 1) := by decide +kernel
theorem d14_10 : decode prog_24_method_10_code 10 = .ok (.getfield 13, 3) := by decide +kernel
theorem d14_13 : decode prog_24_method_10_code 13 = .ok (.aload_n 0, 1) := by decide +kernel
theorem d14_14 : decode prog_24_method_10_code 14 = .ok (.getfield 69, 3) := by decide +kernel
theorem d14_17 : decode prog_24_method_10_code 17 = .ok (.iaload, 1) := by decide +kernel
theorem d14_18 : decode prog_24_method_10_code 18 = .ok (.if_icmp .ne 25, 3) := by decide +kernel
theorem d14_21 : decode prog_24_method_10_code 21 = .ok (.aload_n 0, 1) := by decide +kernel
theorem d14_22 : decode prog_24_method_10_code 22 = .ok (.aload_n 0, 1) := by decide +kernel
theorem d14_23 : decode prog_24_method_10_code 23 = .ok (.iconst 1, 1) := by decide +kernel
theorem d14_24 : decode prog_24_method_10_code 24 = .ok (.invokevirtual 52, 3) := by decide +kernel
theorem d14_27 : decode prog_24_method_10_code 27 = .ok (.putfield 69, 3) := by decide +kernel
theorem d14_30 : decode prog_24_method_10_code 30 = .ok (.aload_n 0, 1) := by decide +kernel
theorem d14_31 : decode prog_24_method_10_code 31 = .ok (.dup, 1) := by decide +kernel
theorem d14_32 : decode prog_24_method_10_code 32 = .ok (.getfield 23, 3) := by decide +kernel
theorem d14_35 : decode prog_24_method_10_code 35 = .ok (.iconst 1, 1) := by decide +kernel
theorem d14_36 : decode prog_24_method_10_code 36 = .ok (.isub, 1) := by decide +kernel
theorem d14_37 : decode prog_24_method_10_code 37 = .ok (.putfield 23, 3) := by decide +kernel
theorem d14_40 : decode prog_24_method_10_code 40 = .ok (.goto 16, 3) := by decide +kernel
theorem d14_43 : decode prog_24_method_10_code 43 = .ok (.aload_n 0, 1) := by decide +kernel
theorem d14_44 : decode prog_24_method_10_code 44 = .ok (.getfield 7, 3) := by decide +kernel
theorem d14_47 : decode prog_24_method_10_code 47 = .ok (.aload_n 0, 1) := by decide +kernel
theorem d14_48 : decode prog_24_method_10_code 48 = .ok (.getfield 69, 3) := by decide +kernel
theorem d14_51 : decode prog_24_method_10_code 51 = .ok (.dup2, 1) := by decide +kernel
theorem d14_52 : decode prog_24_method_10_code 52 = .ok (.iaload, 1) := by decide +kernel
theorem d14_53 : decode prog_24_method_10_code 53 = .ok (.iconst 1, 1) := by decide +kernel
theorem d14_54 : decode prog_24_method_10_code 54 = .ok (.iadd, 1) := by decide +kernel
theorem d14_55 : decode prog_24_method_10_code 55 = .ok (.iastore, 1) := by decide +kernel
theorem d14_56 : decode prog_24_method_10_code 56 = .ok (.return_, 1) := by decide +kernel
theorem d15_0 : decode prog_24_method_4_code 0 = .ok (.aload_n 0, 1) := by decide +kernel
theorem d15_1 : decode prog_24_method_4_code 1 = .ok (.iconst 0, 1) := by decide +kernel
theorem d15_2 : decode prog_24_method_4_code 2 = .ok (.putfield 23, 3) := by decide +kernel
theorem d15_5 : decode prog_24_method_4_code 5 = .ok (.aload_n 0, 1) := by decide +kernel
theorem d15_6 : decode prog_24_method_4_code 6 = .ok (.iconst 0, 1) := by decide +kernel
theorem d15_7 : decode prog_24_method_4_code 7 = .ok (.putfield 26, 3) := by decide +kernel
theorem d15_10 : decode prog_24_method_4_code 10 = .ok (.return_, 1) := by decide +kernel
theorem pn_com_example_fettle_fettle_regex_CountsIsEmptyPinLaw : plainName "com/example/fettle/fettle/regex/CountsIsEmptyPinLaw" = true := by first | (simp [plainName, overriddenIn]; done) | decide +kernel
theorem pn_com_example_fettle_fettle_regex_Counts : plainName "com/example/fettle/fettle/regex/Counts" = true := by first | (simp [plainName, overriddenIn]; done) | decide +kernel
theorem pd_0 : parseMethodDescriptor "(I)I" = some ⟨[.int], some .int⟩ := by decide +kernel
theorem pd_1 : parseMethodDescriptor "(II)V" = some ⟨[.int, .int], none⟩ := by decide +kernel
theorem pd_2 : parseMethodDescriptor "()I" = some ⟨[], some .int⟩ := by decide +kernel
theorem pd_3 : parseMethodDescriptor "(Lcom/example/fettle/fettle/regex/Counts;)V" = some ⟨[(.object "com/example/fettle/fettle/regex/Counts")], none⟩ := by decide +kernel
theorem pd_4 : parseMethodDescriptor "()V" = some ⟨[], none⟩ := by decide +kernel
theorem pd_5 : parseMethodDescriptor "(II)I" = some ⟨[.int, .int], some .int⟩ := by decide +kernel
theorem pd_6 : parseMethodDescriptor "()Z" = some ⟨[], some .boolean⟩ := by decide +kernel
theorem pd_7 : parseMethodDescriptor "(Lcom/example/fettle/fettle/regex/Counts;)Z" = some ⟨[(.object "com/example/fettle/fettle/regex/Counts")], some .boolean⟩ := by decide +kernel
theorem ef_1 (m : MethodId) (x : Int32) (y : Int32) : entryFrame m #[(.int x), (.int y)] 2 = mkF m 0 #[.val (.int x), .val (.int y)] [] := by first | (simp [entryFrame, mkF, argsToLocals, Value.category]; done) | rfl
def Q1 (Z : State) (x : Int32) (y : Int32) (h0 : Heap) (n0 : Nat) (v : Option Value) (h : Heap) (L : List Loc) : Prop := ∃ z : Int32, v = some (.int z) ∧ Fr n0 L ∧ h = h0
set_option maxRecDepth 65536 in
set_option maxHeartbeats 40000000 in
theorem rm1 (l : Launch) (Z : State) (a0 : Array Value) (hw : ∀ d ∈ tables_1, d.before a0 Z = true) (ws : List Jvm.Cond) (x : Int32) (y : Int32) (h0 : Heap) (n0 : Nat) (Z0 : n0 ≤ h0.size) :
    MetFree l (⟨"java/lang/Math", "max", "(II)I"⟩ : MethodName) (head1 (Jvm.Cond.code (⟨"java/lang/Math", "max", "(II)I"⟩ : MethodName) jdk_29_method_65_code 2 (some .int) :: ws) ({ frames := 0, cells := 0, slots := 0, locals := 0 } : Room)) (fun α υ => α = #[(.int x), (.int y)] ∧ Z.Warmed39 υ.vm ∧ υ.heap = h0) (fun _ _ _ _ _ => True) (fun _ υ ω υ' => ∃ v L, ω = .returned v ∧ Q1 Z x y h0 n0 v υ'.heap L ∧ FrameEnd υ ω υ' L ({ frames := 0, cells := 0, slots := 0, locals := 0 } : Room).cells ({ frames := 0, cells := 0, slots := 0, locals := 0 } : Room).slots) := by
  refine MetFree.of_bodySF (Jvm.Free.JP.mathPlain rfl (by decide +kernel)) hisR ?_
  intro p e s m args below meth c s₁ Bd hml0 hP hK
  obtain ⟨rfl, hZ, hh⟩ := hP
  have hx := Bd.exec
  have hby := Bd.bytes
  have hml : c.maxLocals = 2 := hml0
  have hown : s.vm.findClass "java/lang/Math" = some m.cls := findClass_of_methodNamed Bd.named
  have hnm := (name_of_methodNamed Bd.named Bd.method).1
  have X0 : Stand p l e ({ frames := 0, cells := 0, slots := 0, locals := 0 } : Room) s m #[(.int x), (.int y)] below meth c s₁ [] 0 0 := Stand.of_body Bd
  have e0 : s₁.heap = h0 := by rw [← hh, Bd.state]; rfl
  have N0 := Fr.nil n0
  have pre0 : ∀ τ, Steps p.tables e below (s₁.setTop (mkF m 0 #[.val (.int x), .val (.int y)] [])) τ → Steps p.tables e below (s₁.setTop (entryFrame m #[(.int x), (.int y)] 2)) τ := fun τ κ => castTop (ef_1 m x y) κ
  have pre1 := fun τ (κ : Steps p.tables e below (s₁.setTop (mkF m 2 #[.val (.int x), .val (.int y)] [(.int y), (.int x)])) τ) => pre0 τ (by
    refine XS.iloadN X0.here hx rfl (hb hby d1_0) rfl ?_
    show Steps p.tables e below (s₁.setTop (mkF m 1 #[.val (.int x), .val (.int y)] [(.int x)])) _
    refine XS.iloadN X0.here hx rfl (hb hby d1_1) rfl ?_
    show Steps p.tables e below (s₁.setTop (mkF m 2 #[.val (.int x), .val (.int y)] [(.int y), (.int x)])) _
    exact κ)
  by_cases hc2 : x < y
  · have pre2 := fun τ (κ : Steps p.tables e below (s₁.setTop (mkF m 10 #[.val (.int x), .val (.int y)] [(.int y)])) τ) => pre1 τ (by
      refine XS.icmpYes X0.here hx rfl (pc0 := 2) (pc' := 9) rfl (hb hby d1_2) rfl (tlt hc2).1 (by decide) (by decide) ?_
      show Steps p.tables e below (s₁.setTop (mkF m 9 #[.val (.int x), .val (.int y)] [])) _
      refine XS.iloadN X0.here hx rfl (hb hby d1_9) rfl ?_
      show Steps p.tables e below (s₁.setTop (mkF m 10 #[.val (.int x), .val (.int y)] [(.int y)])) _
      exact κ)
    obtain ⟨fs, hr, hrun, hended, hW, hsame⟩ := X0.leave (v := some (.int y)) (fun h => by rw [Bd.returns] at h; cases h)
    refine ⟨_, _, pre2 _ ?_, hrun, hended, _, _, rfl, ?_, ⟨_, rfl⟩, hW, hsame.mono (by decide) (by decide)⟩
    · exact retI X0 hx Bd.returns (hb hby d1_10) hr
    · show Q1 Z x y h0 n0 _ s₁.heap _
      rw [e0]
      exact ⟨_, rfl, N0, rfl⟩
  · have pre3 := fun τ (κ : Steps p.tables e below (s₁.setTop (mkF m 10 #[.val (.int x), .val (.int y)] [(.int x)])) τ) => pre1 τ (by
      refine XS.icmpNo X0.here hx rfl (hb hby d1_2) rfl (flt hc2).1 ?_
      show Steps p.tables e below (s₁.setTop (mkF m 5 #[.val (.int x), .val (.int y)] [])) _
      refine XS.iloadN X0.here hx rfl (hb hby d1_5) rfl ?_
      show Steps p.tables e below (s₁.setTop (mkF m 6 #[.val (.int x), .val (.int y)] [(.int x)])) _
      refine XS.goto X0.here hx rfl (pc0 := 6) (pc' := 10) rfl (hb hby d1_6) (by decide) (by decide) ?_
      show Steps p.tables e below (s₁.setTop (mkF m 10 #[.val (.int x), .val (.int y)] [(.int x)])) _
      exact κ)
    obtain ⟨fs, hr, hrun, hended, hW, hsame⟩ := X0.leave (v := some (.int x)) (fun h => by rw [Bd.returns] at h; cases h)
    refine ⟨_, _, pre3 _ ?_, hrun, hended, _, _, rfl, ?_, ⟨_, rfl⟩, hW, hsame.mono (by decide) (by decide)⟩
    · exact retI X0 hx Bd.returns (hb hby d1_10) hr
    · show Q1 Z x y h0 n0 _ s₁.heap _
      rw [e0]
      exact ⟨_, rfl, N0, rfl⟩
theorem ef_2 (m : MethodId) (a1 : Addr) (p2 : Int32) (p3 : Int32) : entryFrame m #[(.ref a1), (.int p2), (.int p3)] 3 = mkF m 0 #[.val (.ref a1), .val (.int p2), .val (.int p3)] [] := by first | (simp [entryFrame, mkF, argsToLocals, Value.category]; done) | rfl
def Q2 (Z : State) (a1 : Addr) (p2 : Int32) (p3 : Int32) (h0 : Heap) (n0 : Nat) (v : Option Value) (h : Heap) (L : List Loc) : Prop := ∃ (o x : Addr) (ko kx : ClassId), v = none ∧ Fr n0 L ∧ Keep h0 h [a1] ∧ own_C Z h a1 o x ko kx 0 0 0 0 p2 p3 [(.int (0 : Int32)), (.int (0 : Int32)), (.int (0 : Int32)), (.int (0 : Int32))] [(.int (0 : Int32)), (.int (0 : Int32)), (.int (0 : Int32)), (.int (0 : Int32))] ∧ h0.size ≤ o ∧ h0.size ≤ x ∧ o ≠ x
set_option maxRecDepth 65536 in
set_option maxHeartbeats 40000000 in
theorem rm2 (l : Launch) (Z : State) (a0 : Array Value) (hw : ∀ d ∈ tables_1, d.before a0 Z = true) (ws : List Jvm.Cond) (a1 : Addr) (p2 : Int32) (p3 : Int32) (h0 : Heap) (n0 : Nat) (Z0 : n0 ≤ h0.size) (E1 : Exa Z h0 a1 "com/example/fettle/fettle/regex/Counts") (F_oldest_a1 : Fld Z h0 a1 "com/example/fettle/fettle/regex/Counts" "oldest" "[I" .null) (F_newest_a1 : Fld Z h0 a1 "com/example/fettle/fettle/regex/Counts" "newest" "[I" .null) (F_first_a1 : Fld Z h0 a1 "com/example/fettle/fettle/regex/Counts" "first" "I" (.int (0 : Int32))) (F_runs_a1 : Fld Z h0 a1 "com/example/fettle/fettle/regex/Counts" "runs" "I" (.int (0 : Int32))) (F_clock_a1 : Fld Z h0 a1 "com/example/fettle/fettle/regex/Counts" "clock" "I" (.int (0 : Int32))) (F_starting_a1 : Fld Z h0 a1 "com/example/fettle/fettle/regex/Counts" "starting" "Z" (.int (0 : Int32))) (F_least_a1 : Fld Z h0 a1 "com/example/fettle/fettle/regex/Counts" "least" "I" (.int (0 : Int32))) (F_most_a1 : Fld Z h0 a1 "com/example/fettle/fettle/regex/Counts" "most" "I" (.int (0 : Int32))) (g_a1 : n0 ≤ a1) :
    MetFree l (⟨"com/example/fettle/fettle/regex/Counts", "<init>", "(II)V"⟩ : MethodName) (head1 (Jvm.Cond.code (⟨"com/example/fettle/fettle/regex/Counts", "<init>", "(II)V"⟩ : MethodName) prog_24_method_1_code 3 none :: ws) ({ frames := 1, cells := 2, slots := 8, locals := 12 } : Room)) (fun α υ => α = #[(.ref a1), (.int p2), (.int p3)] ∧ Z.Warmed39 υ.vm ∧ υ.heap = h0) (fun _ _ _ _ _ => True) (fun _ υ ω υ' => ∃ v L, ω = .returned v ∧ Q2 Z a1 p2 p3 h0 n0 v υ'.heap L ∧ FrameEnd υ ω υ' L ({ frames := 1, cells := 2, slots := 8, locals := 12 } : Room).cells ({ frames := 1, cells := 2, slots := 8, locals := 12 } : Room).slots) := by
  refine MetFree.of_bodySF (plainFor_of_name pn_com_example_fettle_fettle_regex_Counts) hisR ?_
  intro p e s m args below meth c s₁ Bd hml0 hP hK
  obtain ⟨rfl, hZ, hh⟩ := hP
  have hx := Bd.exec
  have hby := Bd.bytes
  have hml : c.maxLocals = 3 := hml0
  have hown : s.vm.findClass "com/example/fettle/fettle/regex/Counts" = some m.cls := findClass_of_methodNamed Bd.named
  have hnm := (name_of_methodNamed Bd.named Bd.method).1
  have X0 : Stand p l e ({ frames := 1, cells := 2, slots := 8, locals := 12 } : Room) s m #[(.ref a1), (.int p2), (.int p3)] below meth c s₁ [] 0 0 := Stand.of_body Bd
  have e0 : s₁.heap = h0 := by rw [← hh, Bd.state]; rfl
  have N0 := Fr.nil n0
  have pre0 : ∀ τ, Steps p.tables e below (s₁.setTop (mkF m 0 #[.val (.ref a1), .val (.int p2), .val (.int p3)] [])) τ → Steps p.tables e below (s₁.setTop (entryFrame m #[(.ref a1), (.int p2), (.int p3)] 3)) τ := fun τ κ => castTop (ef_2 m a1 p2 p3) κ
  have Kp0 : Keep h0 h0 [a1] := Keep.refl _ _
  have pre1 := fun τ (κ : Steps p.tables e below (s₁.setTop (mkF m 1 #[.val (.ref a1), .val (.int p2), .val (.int p3)] [(.ref a1)])) τ) => pre0 τ (by
    refine XS.aloadN X0.here hx rfl (hb hby d2_0) rfl rfl ?_
    show Steps p.tables e below (s₁.setTop (mkF m 1 #[.val (.ref a1), .val (.int p2), .val (.int p3)] [(.ref a1)])) _
    exact κ)
  obtain ⟨T2, X2, e2, st2⟩ := initO X0 hx hZ hown (hw _ (List.mem_of_getElem? (i := 11) rfl)) (hw _ (List.mem_of_getElem? (i := 12) rfl)) (hw _ (List.mem_of_getElem? (i := 13) rfl)) e0 (g := (mkF m 1 #[.val (.ref a1), .val (.int p2), .val (.int p3)] [(.ref a1)])) rfl (by rw [hml]; rfl) rfl (hb hby d2_1) (by decide) (W := 0) (by show 2 * 0 + _ ≤ _; exact Nat.le_of_eq rfl) (by decide)
  have pre3 := fun τ (κ : Steps p.tables e below (T2.setTop (mkF m 4 #[.val (.ref a1), .val (.int p2), .val (.int p3)] [])) τ) => pre1 τ (st2 _ κ)
  have pre4 := fun τ (κ : Steps p.tables e below (T2.setTop (mkF m 6 #[.val (.ref a1), .val (.int p2), .val (.int p3)] [(.int (4 : Int32)), (.ref a1)])) τ) => pre3 τ (by
    refine XS.aloadN X2.here hx rfl (hb hby d2_4) rfl rfl ?_
    show Steps p.tables e below (T2.setTop (mkF m 5 #[.val (.ref a1), .val (.int p2), .val (.int p3)] [(.ref a1)])) _
    refine XS.iconst X2.here hx rfl (hb hby d2_5) ?_
    show Steps p.tables e below (T2.setTop (mkF m 6 #[.val (.ref a1), .val (.int p2), .val (.int p3)] [(.int (4 : Int32)), (.ref a1)])) _
    exact κ)
  obtain ⟨T5, h5, k5, X5, e5, E5, A5, st5⟩ := newP X2 hx hZ (hw _ (List.mem_of_getElem? (i := 14) rfl)) e2 (g := (mkF m 6 #[.val (.ref a1), .val (.int p2), .val (.int p3)] [(.int (4 : Int32)), (.ref a1)])) rfl (hb hby d2_6) rfl (by decide) (cap := 4) (by decide) (by decide) (by decide) (by decide)
  obtain ⟨o, g5⟩ : ∃ z, z = h0.size := ⟨_, rfl⟩
  rw [← g5] at A5 st5
  have g_o : n0 ≤ o := Nat.le_trans Z0 (Nat.le_of_eq g5.symm)
  have ne_a1_o : a1 ≠ o := Nat.ne_of_lt (Nat.lt_of_lt_of_le E1.lt (Nat.le_of_eq g5.symm))
  have E1_5 : Exa Z h5 a1 "com/example/fettle/fettle/regex/Counts" := E1.ext E5
  have F_oldest_a1_5 : Fld Z h5 a1 "com/example/fettle/fettle/regex/Counts" "oldest" "[I" .null := F_oldest_a1.ext E5
  have F_newest_a1_5 : Fld Z h5 a1 "com/example/fettle/fettle/regex/Counts" "newest" "[I" .null := F_newest_a1.ext E5
  have F_first_a1_5 : Fld Z h5 a1 "com/example/fettle/fettle/regex/Counts" "first" "I" (.int (0 : Int32)) := F_first_a1.ext E5
  have F_runs_a1_5 : Fld Z h5 a1 "com/example/fettle/fettle/regex/Counts" "runs" "I" (.int (0 : Int32)) := F_runs_a1.ext E5
  have F_clock_a1_5 : Fld Z h5 a1 "com/example/fettle/fettle/regex/Counts" "clock" "I" (.int (0 : Int32)) := F_clock_a1.ext E5
  have F_starting_a1_5 : Fld Z h5 a1 "com/example/fettle/fettle/regex/Counts" "starting" "Z" (.int (0 : Int32)) := F_starting_a1.ext E5
  have F_least_a1_5 : Fld Z h5 a1 "com/example/fettle/fettle/regex/Counts" "least" "I" (.int (0 : Int32)) := F_least_a1.ext E5
  have F_most_a1_5 : Fld Z h5 a1 "com/example/fettle/fettle/regex/Counts" "most" "I" (.int (0 : Int32)) := F_most_a1.ext E5
  have sz_o : h0.size ≤ o := Nat.le_trans Kp0.1 (Nat.le_of_eq g5.symm)
  have Kp5 : Keep h0 h5 [a1] := Kp0.ext E5
  have Z5 : n0 ≤ h5.size := Nat.le_trans Z0 E5.1
  have V_o_5 : Arv Z h5 o k5 .int (4 : Int32) [(.int (0 : Int32)), (.int (0 : Int32)), (.int (0 : Int32)), (.int (0 : Int32))] (.int (0 : Int32)) := (Arv.new A5 (by decide)).pad (pad_rep [] (.int (0 : Int32)) 4)
  have pre6 := fun τ (κ : Steps p.tables e below (T5.setTop (mkF m 8 #[.val (.ref a1), .val (.int p2), .val (.int p3)] [(.ref o), (.ref a1)])) τ) => pre4 τ (st5 _ κ)
  obtain ⟨T7, h7, X7, e7, W7, st7⟩ := putF X5 hx hZ hown (host := "") (Or.inl (hw _ (List.mem_of_getElem? (i := 15) rfl))) Via.refl e5 F_oldest_a1_5 E1_5 (Or.inl (hw _ (List.mem_of_getElem? (i := 16) rfl))) (hw _ (List.mem_of_getElem? (i := 6) rfl)) (ty := (.array .int)) (by decide) rfl rfl (g := (mkF m 8 #[.val (.ref a1), .val (.int p2), .val (.int p3)] [(.ref o), (.ref a1)])) rfl rfl (hb hby d2_8)
  have E1_7 : Exa Z h7 a1 "com/example/fettle/fettle/regex/Counts" := E1_5.wr W7
  have F_newest_a1_7 : Fld Z h7 a1 "com/example/fettle/fettle/regex/Counts" "newest" "[I" .null := F_newest_a1_5.other W7 (Or.inr (slot_ne (Or.inl (hw _ (List.mem_of_getElem? (i := 18) rfl))) (Or.inl (hw _ (List.mem_of_getElem? (i := 16) rfl))) (by decide) (t := (.array .int)) (t' := (.array .int)) (by decide) (by decide)))
  have F_first_a1_7 : Fld Z h7 a1 "com/example/fettle/fettle/regex/Counts" "first" "I" (.int (0 : Int32)) := F_first_a1_5.other W7 (Or.inr (slot_ne (Or.inl (hw _ (List.mem_of_getElem? (i := 57) rfl))) (Or.inl (hw _ (List.mem_of_getElem? (i := 16) rfl))) (by decide) (t := .int) (t' := (.array .int)) (by decide) (by decide)))
  have F_runs_a1_7 : Fld Z h7 a1 "com/example/fettle/fettle/regex/Counts" "runs" "I" (.int (0 : Int32)) := F_runs_a1_5.other W7 (Or.inr (slot_ne (Or.inl (hw _ (List.mem_of_getElem? (i := 29) rfl))) (Or.inl (hw _ (List.mem_of_getElem? (i := 16) rfl))) (by decide) (t := .int) (t' := (.array .int)) (by decide) (by decide)))
  have F_clock_a1_7 : Fld Z h7 a1 "com/example/fettle/fettle/regex/Counts" "clock" "I" (.int (0 : Int32)) := F_clock_a1_5.other W7 (Or.inr (slot_ne (Or.inl (hw _ (List.mem_of_getElem? (i := 47) rfl))) (Or.inl (hw _ (List.mem_of_getElem? (i := 16) rfl))) (by decide) (t := .int) (t' := (.array .int)) (by decide) (by decide)))
  have F_starting_a1_7 : Fld Z h7 a1 "com/example/fettle/fettle/regex/Counts" "starting" "Z" (.int (0 : Int32)) := F_starting_a1_5.other W7 (Or.inr (slot_ne (Or.inl (hw _ (List.mem_of_getElem? (i := 31) rfl))) (Or.inl (hw _ (List.mem_of_getElem? (i := 16) rfl))) (by decide) (t := .boolean) (t' := (.array .int)) (by decide) (by decide)))
  have F_least_a1_7 : Fld Z h7 a1 "com/example/fettle/fettle/regex/Counts" "least" "I" (.int (0 : Int32)) := F_least_a1_5.other W7 (Or.inr (slot_ne (Or.inr (hw _ (List.mem_of_getElem? (i := 20) rfl))) (Or.inl (hw _ (List.mem_of_getElem? (i := 16) rfl))) (by decide) (t := .int) (t' := (.array .int)) (by decide) (by decide)))
  have F_most_a1_7 : Fld Z h7 a1 "com/example/fettle/fettle/regex/Counts" "most" "I" (.int (0 : Int32)) := F_most_a1_5.other W7 (Or.inr (slot_ne (Or.inr (hw _ (List.mem_of_getElem? (i := 22) rfl))) (Or.inl (hw _ (List.mem_of_getElem? (i := 16) rfl))) (by decide) (t := .int) (t' := (.array .int)) (by decide) (by decide)))
  have V_o_7 : Arv Z h7 o k5 .int (4 : Int32) [(.int (0 : Int32)), (.int (0 : Int32)), (.int (0 : Int32)), (.int (0 : Int32))] (.int (0 : Int32)) := V_o_5.other W7 (Ne.symm ne_a1_o)
  have Kp7 : Keep h0 h7 [a1] := Kp5.wr W7 (Or.inl (List.mem_of_getElem? (i := 0) rfl))
  have N7 := Fr.snoc X7 N0 g_a1
  have Z7 : n0 ≤ h7.size := Nat.le_trans Z5 (Keep.of_wr W7).1
  have F_oldest_a1_7 : Fld Z h7 a1 "com/example/fettle/fettle/regex/Counts" "oldest" "[I" (.ref o) := F_oldest_a1_5.same W7
  have pre8 := fun τ (κ : Steps p.tables e below (T7.setTop (mkF m 11 #[.val (.ref a1), .val (.int p2), .val (.int p3)] [])) τ) => pre6 τ (st7 _ κ)
  have pre9 := fun τ (κ : Steps p.tables e below (T7.setTop (mkF m 13 #[.val (.ref a1), .val (.int p2), .val (.int p3)] [(.int (4 : Int32)), (.ref a1)])) τ) => pre8 τ (by
    refine XS.aloadN X7.here hx rfl (hb hby d2_11) rfl rfl ?_
    show Steps p.tables e below (T7.setTop (mkF m 12 #[.val (.ref a1), .val (.int p2), .val (.int p3)] [(.ref a1)])) _
    refine XS.iconst X7.here hx rfl (hb hby d2_12) ?_
    show Steps p.tables e below (T7.setTop (mkF m 13 #[.val (.ref a1), .val (.int p2), .val (.int p3)] [(.int (4 : Int32)), (.ref a1)])) _
    exact κ)
  obtain ⟨T10, h10, k10, X10, e10, E10, A10, st10⟩ := newP X7 hx hZ (hw _ (List.mem_of_getElem? (i := 14) rfl)) e7 (g := (mkF m 13 #[.val (.ref a1), .val (.int p2), .val (.int p3)] [(.int (4 : Int32)), (.ref a1)])) rfl (hb hby d2_13) rfl (by decide) (cap := 4) (by decide) (by decide) (by decide) (by decide)
  obtain ⟨x, g10⟩ : ∃ z, z = h7.size := ⟨_, rfl⟩
  rw [← g10] at A10 st10
  have g_x : n0 ≤ x := Nat.le_trans Z7 (Nat.le_of_eq g10.symm)
  have ne_a1_x : a1 ≠ x := Nat.ne_of_lt (Nat.lt_of_lt_of_le E1_7.lt (Nat.le_of_eq g10.symm))
  have ne_o_x : o ≠ x := Nat.ne_of_lt (Nat.lt_of_lt_of_le V_o_7.lt (Nat.le_of_eq g10.symm))
  have E1_10 : Exa Z h10 a1 "com/example/fettle/fettle/regex/Counts" := E1_7.ext E10
  have F_newest_a1_10 : Fld Z h10 a1 "com/example/fettle/fettle/regex/Counts" "newest" "[I" .null := F_newest_a1_7.ext E10
  have F_first_a1_10 : Fld Z h10 a1 "com/example/fettle/fettle/regex/Counts" "first" "I" (.int (0 : Int32)) := F_first_a1_7.ext E10
  have F_runs_a1_10 : Fld Z h10 a1 "com/example/fettle/fettle/regex/Counts" "runs" "I" (.int (0 : Int32)) := F_runs_a1_7.ext E10
  have F_clock_a1_10 : Fld Z h10 a1 "com/example/fettle/fettle/regex/Counts" "clock" "I" (.int (0 : Int32)) := F_clock_a1_7.ext E10
  have F_starting_a1_10 : Fld Z h10 a1 "com/example/fettle/fettle/regex/Counts" "starting" "Z" (.int (0 : Int32)) := F_starting_a1_7.ext E10
  have F_least_a1_10 : Fld Z h10 a1 "com/example/fettle/fettle/regex/Counts" "least" "I" (.int (0 : Int32)) := F_least_a1_7.ext E10
  have F_most_a1_10 : Fld Z h10 a1 "com/example/fettle/fettle/regex/Counts" "most" "I" (.int (0 : Int32)) := F_most_a1_7.ext E10
  have V_o_10 : Arv Z h10 o k5 .int (4 : Int32) [(.int (0 : Int32)), (.int (0 : Int32)), (.int (0 : Int32)), (.int (0 : Int32))] (.int (0 : Int32)) := V_o_7.ext E10
  have F_oldest_a1_10 : Fld Z h10 a1 "com/example/fettle/fettle/regex/Counts" "oldest" "[I" (.ref o) := F_oldest_a1_7.ext E10
  have sz_x : h0.size ≤ x := Nat.le_trans Kp7.1 (Nat.le_of_eq g10.symm)
  have Kp10 : Keep h0 h10 [a1] := Kp7.ext E10
  have Z10 : n0 ≤ h10.size := Nat.le_trans Z7 E10.1
  have V_x_10 : Arv Z h10 x k10 .int (4 : Int32) [(.int (0 : Int32)), (.int (0 : Int32)), (.int (0 : Int32)), (.int (0 : Int32))] (.int (0 : Int32)) := (Arv.new A10 (by decide)).pad (pad_rep [] (.int (0 : Int32)) 4)
  have pre11 := fun τ (κ : Steps p.tables e below (T10.setTop (mkF m 15 #[.val (.ref a1), .val (.int p2), .val (.int p3)] [(.ref x), (.ref a1)])) τ) => pre9 τ (st10 _ κ)
  obtain ⟨T12, h12, X12, e12, W12, st12⟩ := putF X10 hx hZ hown (host := "") (Or.inl (hw _ (List.mem_of_getElem? (i := 17) rfl))) Via.refl e10 F_newest_a1_10 E1_10 (Or.inl (hw _ (List.mem_of_getElem? (i := 18) rfl))) (hw _ (List.mem_of_getElem? (i := 6) rfl)) (ty := (.array .int)) (by decide) rfl rfl (g := (mkF m 15 #[.val (.ref a1), .val (.int p2), .val (.int p3)] [(.ref x), (.ref a1)])) rfl rfl (hb hby d2_15)
  have E1_12 : Exa Z h12 a1 "com/example/fettle/fettle/regex/Counts" := E1_10.wr W12
  have F_first_a1_12 : Fld Z h12 a1 "com/example/fettle/fettle/regex/Counts" "first" "I" (.int (0 : Int32)) := F_first_a1_10.other W12 (Or.inr (slot_ne (Or.inl (hw _ (List.mem_of_getElem? (i := 57) rfl))) (Or.inl (hw _ (List.mem_of_getElem? (i := 18) rfl))) (by decide) (t := .int) (t' := (.array .int)) (by decide) (by decide)))
  have F_runs_a1_12 : Fld Z h12 a1 "com/example/fettle/fettle/regex/Counts" "runs" "I" (.int (0 : Int32)) := F_runs_a1_10.other W12 (Or.inr (slot_ne (Or.inl (hw _ (List.mem_of_getElem? (i := 29) rfl))) (Or.inl (hw _ (List.mem_of_getElem? (i := 18) rfl))) (by decide) (t := .int) (t' := (.array .int)) (by decide) (by decide)))
  have F_clock_a1_12 : Fld Z h12 a1 "com/example/fettle/fettle/regex/Counts" "clock" "I" (.int (0 : Int32)) := F_clock_a1_10.other W12 (Or.inr (slot_ne (Or.inl (hw _ (List.mem_of_getElem? (i := 47) rfl))) (Or.inl (hw _ (List.mem_of_getElem? (i := 18) rfl))) (by decide) (t := .int) (t' := (.array .int)) (by decide) (by decide)))
  have F_starting_a1_12 : Fld Z h12 a1 "com/example/fettle/fettle/regex/Counts" "starting" "Z" (.int (0 : Int32)) := F_starting_a1_10.other W12 (Or.inr (slot_ne (Or.inl (hw _ (List.mem_of_getElem? (i := 31) rfl))) (Or.inl (hw _ (List.mem_of_getElem? (i := 18) rfl))) (by decide) (t := .boolean) (t' := (.array .int)) (by decide) (by decide)))
  have F_least_a1_12 : Fld Z h12 a1 "com/example/fettle/fettle/regex/Counts" "least" "I" (.int (0 : Int32)) := F_least_a1_10.other W12 (Or.inr (slot_ne (Or.inr (hw _ (List.mem_of_getElem? (i := 20) rfl))) (Or.inl (hw _ (List.mem_of_getElem? (i := 18) rfl))) (by decide) (t := .int) (t' := (.array .int)) (by decide) (by decide)))
  have F_most_a1_12 : Fld Z h12 a1 "com/example/fettle/fettle/regex/Counts" "most" "I" (.int (0 : Int32)) := F_most_a1_10.other W12 (Or.inr (slot_ne (Or.inr (hw _ (List.mem_of_getElem? (i := 22) rfl))) (Or.inl (hw _ (List.mem_of_getElem? (i := 18) rfl))) (by decide) (t := .int) (t' := (.array .int)) (by decide) (by decide)))
  have V_o_12 : Arv Z h12 o k5 .int (4 : Int32) [(.int (0 : Int32)), (.int (0 : Int32)), (.int (0 : Int32)), (.int (0 : Int32))] (.int (0 : Int32)) := V_o_10.other W12 (Ne.symm ne_a1_o)
  have F_oldest_a1_12 : Fld Z h12 a1 "com/example/fettle/fettle/regex/Counts" "oldest" "[I" (.ref o) := F_oldest_a1_10.other W12 (Or.inr (slot_ne (Or.inl (hw _ (List.mem_of_getElem? (i := 16) rfl))) (Or.inl (hw _ (List.mem_of_getElem? (i := 18) rfl))) (by decide) (t := (.array .int)) (t' := (.array .int)) (by decide) (by decide)))
  have V_x_12 : Arv Z h12 x k10 .int (4 : Int32) [(.int (0 : Int32)), (.int (0 : Int32)), (.int (0 : Int32)), (.int (0 : Int32))] (.int (0 : Int32)) := V_x_10.other W12 (Ne.symm ne_a1_x)
  have Kp12 : Keep h0 h12 [a1] := Kp10.wr W12 (Or.inl (List.mem_of_getElem? (i := 0) rfl))
  have N12 := Fr.snoc X12 N7 g_a1
  have Z12 : n0 ≤ h12.size := Nat.le_trans Z10 (Keep.of_wr W12).1
  have F_newest_a1_12 : Fld Z h12 a1 "com/example/fettle/fettle/regex/Counts" "newest" "[I" (.ref x) := F_newest_a1_10.same W12
  have pre13 := fun τ (κ : Steps p.tables e below (T12.setTop (mkF m 18 #[.val (.ref a1), .val (.int p2), .val (.int p3)] [])) τ) => pre11 τ (st12 _ κ)
  have pre14 := fun τ (κ : Steps p.tables e below (T12.setTop (mkF m 20 #[.val (.ref a1), .val (.int p2), .val (.int p3)] [(.int p2), (.ref a1)])) τ) => pre13 τ (by
    refine XS.aloadN X12.here hx rfl (hb hby d2_18) rfl rfl ?_
    show Steps p.tables e below (T12.setTop (mkF m 19 #[.val (.ref a1), .val (.int p2), .val (.int p3)] [(.ref a1)])) _
    refine XS.iloadN X12.here hx rfl (hb hby d2_19) rfl ?_
    show Steps p.tables e below (T12.setTop (mkF m 20 #[.val (.ref a1), .val (.int p2), .val (.int p3)] [(.int p2), (.ref a1)])) _
    exact κ)
  obtain ⟨T15, h15, X15, e15, W15, st15⟩ := putF X12 hx hZ hown (host := "") (Or.inl (hw _ (List.mem_of_getElem? (i := 19) rfl))) Via.refl e12 F_least_a1_12 E1_12 (Or.inr ⟨(hw _ (List.mem_of_getElem? (i := 20) rfl)), rfl, hnm⟩) (hw _ (List.mem_of_getElem? (i := 6) rfl)) (ty := .int) (by decide) rfl rfl (g := (mkF m 20 #[.val (.ref a1), .val (.int p2), .val (.int p3)] [(.int p2), (.ref a1)])) rfl rfl (hb hby d2_20)
  have E1_15 : Exa Z h15 a1 "com/example/fettle/fettle/regex/Counts" := E1_12.wr W15
  have F_first_a1_15 : Fld Z h15 a1 "com/example/fettle/fettle/regex/Counts" "first" "I" (.int (0 : Int32)) := F_first_a1_12.other W15 (Or.inr (slot_ne (Or.inl (hw _ (List.mem_of_getElem? (i := 57) rfl))) (Or.inr (hw _ (List.mem_of_getElem? (i := 20) rfl))) (by decide) (t := .int) (t' := .int) (by decide) (by decide)))
  have F_runs_a1_15 : Fld Z h15 a1 "com/example/fettle/fettle/regex/Counts" "runs" "I" (.int (0 : Int32)) := F_runs_a1_12.other W15 (Or.inr (slot_ne (Or.inl (hw _ (List.mem_of_getElem? (i := 29) rfl))) (Or.inr (hw _ (List.mem_of_getElem? (i := 20) rfl))) (by decide) (t := .int) (t' := .int) (by decide) (by decide)))
  have F_clock_a1_15 : Fld Z h15 a1 "com/example/fettle/fettle/regex/Counts" "clock" "I" (.int (0 : Int32)) := F_clock_a1_12.other W15 (Or.inr (slot_ne (Or.inl (hw _ (List.mem_of_getElem? (i := 47) rfl))) (Or.inr (hw _ (List.mem_of_getElem? (i := 20) rfl))) (by decide) (t := .int) (t' := .int) (by decide) (by decide)))
  have F_starting_a1_15 : Fld Z h15 a1 "com/example/fettle/fettle/regex/Counts" "starting" "Z" (.int (0 : Int32)) := F_starting_a1_12.other W15 (Or.inr (slot_ne (Or.inl (hw _ (List.mem_of_getElem? (i := 31) rfl))) (Or.inr (hw _ (List.mem_of_getElem? (i := 20) rfl))) (by decide) (t := .boolean) (t' := .int) (by decide) (by decide)))
  have F_most_a1_15 : Fld Z h15 a1 "com/example/fettle/fettle/regex/Counts" "most" "I" (.int (0 : Int32)) := F_most_a1_12.other W15 (Or.inr (slot_ne (Or.inr (hw _ (List.mem_of_getElem? (i := 22) rfl))) (Or.inr (hw _ (List.mem_of_getElem? (i := 20) rfl))) (by decide) (t := .int) (t' := .int) (by decide) (by decide)))
  have V_o_15 : Arv Z h15 o k5 .int (4 : Int32) [(.int (0 : Int32)), (.int (0 : Int32)), (.int (0 : Int32)), (.int (0 : Int32))] (.int (0 : Int32)) := V_o_12.other W15 (Ne.symm ne_a1_o)
  have F_oldest_a1_15 : Fld Z h15 a1 "com/example/fettle/fettle/regex/Counts" "oldest" "[I" (.ref o) := F_oldest_a1_12.other W15 (Or.inr (slot_ne (Or.inl (hw _ (List.mem_of_getElem? (i := 16) rfl))) (Or.inr (hw _ (List.mem_of_getElem? (i := 20) rfl))) (by decide) (t := (.array .int)) (t' := .int) (by decide) (by decide)))
  have V_x_15 : Arv Z h15 x k10 .int (4 : Int32) [(.int (0 : Int32)), (.int (0 : Int32)), (.int (0 : Int32)), (.int (0 : Int32))] (.int (0 : Int32)) := V_x_12.other W15 (Ne.symm ne_a1_x)
  have F_newest_a1_15 : Fld Z h15 a1 "com/example/fettle/fettle/regex/Counts" "newest" "[I" (.ref x) := F_newest_a1_12.other W15 (Or.inr (slot_ne (Or.inl (hw _ (List.mem_of_getElem? (i := 18) rfl))) (Or.inr (hw _ (List.mem_of_getElem? (i := 20) rfl))) (by decide) (t := (.array .int)) (t' := .int) (by decide) (by decide)))
  have Kp15 : Keep h0 h15 [a1] := Kp12.wr W15 (Or.inl (List.mem_of_getElem? (i := 0) rfl))
  have N15 := Fr.snoc X15 N12 g_a1
  have Z15 : n0 ≤ h15.size := Nat.le_trans Z12 (Keep.of_wr W15).1
  have F_least_a1_15 : Fld Z h15 a1 "com/example/fettle/fettle/regex/Counts" "least" "I" (.int p2) := F_least_a1_12.same W15
  have pre16 := fun τ (κ : Steps p.tables e below (T15.setTop (mkF m 23 #[.val (.ref a1), .val (.int p2), .val (.int p3)] [])) τ) => pre14 τ (st15 _ κ)
  have pre17 := fun τ (κ : Steps p.tables e below (T15.setTop (mkF m 25 #[.val (.ref a1), .val (.int p2), .val (.int p3)] [(.int p3), (.ref a1)])) τ) => pre16 τ (by
    refine XS.aloadN X15.here hx rfl (hb hby d2_23) rfl rfl ?_
    show Steps p.tables e below (T15.setTop (mkF m 24 #[.val (.ref a1), .val (.int p2), .val (.int p3)] [(.ref a1)])) _
    refine XS.iloadN X15.here hx rfl (hb hby d2_24) rfl ?_
    show Steps p.tables e below (T15.setTop (mkF m 25 #[.val (.ref a1), .val (.int p2), .val (.int p3)] [(.int p3), (.ref a1)])) _
    exact κ)
  obtain ⟨T18, h18, X18, e18, W18, st18⟩ := putF X15 hx hZ hown (host := "") (Or.inl (hw _ (List.mem_of_getElem? (i := 21) rfl))) Via.refl e15 F_most_a1_15 E1_15 (Or.inr ⟨(hw _ (List.mem_of_getElem? (i := 22) rfl)), rfl, hnm⟩) (hw _ (List.mem_of_getElem? (i := 6) rfl)) (ty := .int) (by decide) rfl rfl (g := (mkF m 25 #[.val (.ref a1), .val (.int p2), .val (.int p3)] [(.int p3), (.ref a1)])) rfl rfl (hb hby d2_25)
  have E1_18 : Exa Z h18 a1 "com/example/fettle/fettle/regex/Counts" := E1_15.wr W18
  have F_first_a1_18 : Fld Z h18 a1 "com/example/fettle/fettle/regex/Counts" "first" "I" (.int (0 : Int32)) := F_first_a1_15.other W18 (Or.inr (slot_ne (Or.inl (hw _ (List.mem_of_getElem? (i := 57) rfl))) (Or.inr (hw _ (List.mem_of_getElem? (i := 22) rfl))) (by decide) (t := .int) (t' := .int) (by decide) (by decide)))
  have F_runs_a1_18 : Fld Z h18 a1 "com/example/fettle/fettle/regex/Counts" "runs" "I" (.int (0 : Int32)) := F_runs_a1_15.other W18 (Or.inr (slot_ne (Or.inl (hw _ (List.mem_of_getElem? (i := 29) rfl))) (Or.inr (hw _ (List.mem_of_getElem? (i := 22) rfl))) (by decide) (t := .int) (t' := .int) (by decide) (by decide)))
  have F_clock_a1_18 : Fld Z h18 a1 "com/example/fettle/fettle/regex/Counts" "clock" "I" (.int (0 : Int32)) := F_clock_a1_15.other W18 (Or.inr (slot_ne (Or.inl (hw _ (List.mem_of_getElem? (i := 47) rfl))) (Or.inr (hw _ (List.mem_of_getElem? (i := 22) rfl))) (by decide) (t := .int) (t' := .int) (by decide) (by decide)))
  have F_starting_a1_18 : Fld Z h18 a1 "com/example/fettle/fettle/regex/Counts" "starting" "Z" (.int (0 : Int32)) := F_starting_a1_15.other W18 (Or.inr (slot_ne (Or.inl (hw _ (List.mem_of_getElem? (i := 31) rfl))) (Or.inr (hw _ (List.mem_of_getElem? (i := 22) rfl))) (by decide) (t := .boolean) (t' := .int) (by decide) (by decide)))
  have V_o_18 : Arv Z h18 o k5 .int (4 : Int32) [(.int (0 : Int32)), (.int (0 : Int32)), (.int (0 : Int32)), (.int (0 : Int32))] (.int (0 : Int32)) := V_o_15.other W18 (Ne.symm ne_a1_o)
  have F_oldest_a1_18 : Fld Z h18 a1 "com/example/fettle/fettle/regex/Counts" "oldest" "[I" (.ref o) := F_oldest_a1_15.other W18 (Or.inr (slot_ne (Or.inl (hw _ (List.mem_of_getElem? (i := 16) rfl))) (Or.inr (hw _ (List.mem_of_getElem? (i := 22) rfl))) (by decide) (t := (.array .int)) (t' := .int) (by decide) (by decide)))
  have V_x_18 : Arv Z h18 x k10 .int (4 : Int32) [(.int (0 : Int32)), (.int (0 : Int32)), (.int (0 : Int32)), (.int (0 : Int32))] (.int (0 : Int32)) := V_x_15.other W18 (Ne.symm ne_a1_x)
  have F_newest_a1_18 : Fld Z h18 a1 "com/example/fettle/fettle/regex/Counts" "newest" "[I" (.ref x) := F_newest_a1_15.other W18 (Or.inr (slot_ne (Or.inl (hw _ (List.mem_of_getElem? (i := 18) rfl))) (Or.inr (hw _ (List.mem_of_getElem? (i := 22) rfl))) (by decide) (t := (.array .int)) (t' := .int) (by decide) (by decide)))
  have F_least_a1_18 : Fld Z h18 a1 "com/example/fettle/fettle/regex/Counts" "least" "I" (.int p2) := F_least_a1_15.other W18 (Or.inr (slot_ne (Or.inr (hw _ (List.mem_of_getElem? (i := 20) rfl))) (Or.inr (hw _ (List.mem_of_getElem? (i := 22) rfl))) (by decide) (t := .int) (t' := .int) (by decide) (by decide)))
  have Kp18 : Keep h0 h18 [a1] := Kp15.wr W18 (Or.inl (List.mem_of_getElem? (i := 0) rfl))
  have N18 := Fr.snoc X18 N15 g_a1
  have Z18 : n0 ≤ h18.size := Nat.le_trans Z15 (Keep.of_wr W18).1
  have F_most_a1_18 : Fld Z h18 a1 "com/example/fettle/fettle/regex/Counts" "most" "I" (.int p3) := F_most_a1_15.same W18
  have pre19 := fun τ (κ : Steps p.tables e below (T18.setTop (mkF m 28 #[.val (.ref a1), .val (.int p2), .val (.int p3)] [])) τ) => pre17 τ (st18 _ κ)
  obtain ⟨fs, hr, hrun, hended, hW, hsame⟩ := X18.leave (v := none) (fun _ => rfl)
  refine ⟨_, _, pre19 _ ?_, hrun, hended, _, _, rfl, ?_, ⟨_, rfl⟩, hW, hsame.mono (by decide) (by decide)⟩
  · exact X18.returnOut hx Bd.returns (hb hby d2_28) hr
  · show Q2 Z a1 p2 p3 h0 n0 _ T18.heap _
    rw [e18]
    exact ⟨o, x, k5, k10, rfl, N18, Kp18, ⟨E1_18, F_oldest_a1_18, F_newest_a1_18, F_first_a1_18, F_runs_a1_18, F_clock_a1_18, F_starting_a1_18, F_least_a1_18, F_most_a1_18, V_o_18, V_x_18⟩, sz_o, sz_x, ne_o_x⟩
theorem ef_4 (m : MethodId) (a1 : Addr) (ru : Int32) (st : Int32) : entryFrame m #[(.ref a1)] 1 = mkF m 0 #[.val (.ref a1)] [] := by first | (simp [entryFrame, mkF, argsToLocals, Value.category]; done) | rfl
def Q4 (Z : State) (a1 : Addr) (ru : Int32) (st : Int32) (h0 : Heap) (n0 : Nat) (v : Option Value) (h : Heap) (L : List Loc) : Prop := v = some (.int (own_emp ru st)) ∧ Fr n0 L ∧ h = h0
set_option maxRecDepth 65536 in
set_option maxHeartbeats 40000000 in
theorem rm4 (l : Launch) (Z : State) (a0 : Array Value) (hw : ∀ d ∈ tables_1, d.before a0 Z = true) (ws : List Jvm.Cond) (a1 : Addr) (ru : Int32) (st : Int32) (h0 : Heap) (n0 : Nat) (Z0 : n0 ≤ h0.size) (Fr1 : Fld Z h0 a1 "com/example/fettle/fettle/regex/Counts" "runs" "I" (.int ru)) (Fs1 : Fld Z h0 a1 "com/example/fettle/fettle/regex/Counts" "starting" "Z" (.int st)) :
    MetFree l (⟨"com/example/fettle/fettle/regex/Counts", "isEmpty", "()Z"⟩ : MethodName) (head1 (Jvm.Cond.code (⟨"com/example/fettle/fettle/regex/Counts", "isEmpty", "()Z"⟩ : MethodName) prog_24_method_2_code 1 (some .boolean) :: ws) ({ frames := 0, cells := 0, slots := 0, locals := 0 } : Room)) (fun α υ => α = #[(.ref a1)] ∧ Z.Warmed39 υ.vm ∧ υ.heap = h0) (fun _ _ _ _ _ => True) (fun _ υ ω υ' => ∃ v L, ω = .returned v ∧ Q4 Z a1 ru st h0 n0 v υ'.heap L ∧ FrameEnd υ ω υ' L ({ frames := 0, cells := 0, slots := 0, locals := 0 } : Room).cells ({ frames := 0, cells := 0, slots := 0, locals := 0 } : Room).slots) := by
  refine MetFree.of_bodySF (plainFor_of_name pn_com_example_fettle_fettle_regex_Counts) hisR ?_
  intro p e s m args below meth c s₁ Bd hml0 hP hK
  obtain ⟨rfl, hZ, hh⟩ := hP
  have hx := Bd.exec
  have hby := Bd.bytes
  have hml : c.maxLocals = 1 := hml0
  have hown : s.vm.findClass "com/example/fettle/fettle/regex/Counts" = some m.cls := findClass_of_methodNamed Bd.named
  have hnm := (name_of_methodNamed Bd.named Bd.method).1
  have X0 : Stand p l e ({ frames := 0, cells := 0, slots := 0, locals := 0 } : Room) s m #[(.ref a1)] below meth c s₁ [] 0 0 := Stand.of_body Bd
  have e0 : s₁.heap = h0 := by rw [← hh, Bd.state]; rfl
  have N0 := Fr.nil n0
  have pre0 : ∀ τ, Steps p.tables e below (s₁.setTop (mkF m 0 #[.val (.ref a1)] [])) τ → Steps p.tables e below (s₁.setTop (entryFrame m #[(.ref a1)] 1)) τ := fun τ κ => castTop (ef_4 m a1 ru st) κ
  have pre1 := fun τ (κ : Steps p.tables e below (s₁.setTop (mkF m 1 #[.val (.ref a1)] [(.ref a1)])) τ) => pre0 τ (by
    refine XS.aloadN X0.here hx rfl (hb hby d4_0) rfl rfl ?_
    show Steps p.tables e below (s₁.setTop (mkF m 1 #[.val (.ref a1)] [(.ref a1)])) _
    exact κ)
  obtain ⟨T2, X2, e2, st2⟩ := getF X0 hx hZ hown (host := "") (Or.inl (hw _ (List.mem_of_getElem? (i := 28) rfl))) Via.refl e0 Fr1 (g := (mkF m 1 #[.val (.ref a1)] [(.ref a1)])) rfl rfl (hb hby d4_1)
  have pre3 := fun τ (κ : Steps p.tables e below (T2.setTop (mkF m 4 #[.val (.ref a1)] [(.int ru)])) τ) => pre1 τ (st2 _ κ)
  by_cases hc4 : ru = (0 : Int32)
  · have pre4 := fun τ (κ : Steps p.tables e below (T2.setTop (mkF m 8 #[.val (.ref a1)] [(.ref a1)])) τ) => pre3 τ (by
      refine XS.ifNo X2.here hx rfl (hb hby d4_4) rfl ((if0 _ _).trans (teq hc4).2) ?_
      show Steps p.tables e below (T2.setTop (mkF m 7 #[.val (.ref a1)] [])) _
      refine XS.aloadN X2.here hx rfl (hb hby d4_7) rfl rfl ?_
      show Steps p.tables e below (T2.setTop (mkF m 8 #[.val (.ref a1)] [(.ref a1)])) _
      exact κ)
    obtain ⟨T5, X5, e5, st5⟩ := getF X2 hx hZ hown (host := "") (Or.inl (hw _ (List.mem_of_getElem? (i := 30) rfl))) Via.refl e2 Fs1 (g := (mkF m 8 #[.val (.ref a1)] [(.ref a1)])) rfl rfl (hb hby d4_8)
    have pre6 := fun τ (κ : Steps p.tables e below (T5.setTop (mkF m 11 #[.val (.ref a1)] [(.int st)])) τ) => pre4 τ (st5 _ κ)
    by_cases hc11 : st = (0 : Int32)
    · have pre7 := fun τ (κ : Steps p.tables e below (T5.setTop (mkF m 19 #[.val (.ref a1)] [(.int (1 : Int32))])) τ) => pre6 τ (by
        refine XS.ifNo X5.here hx rfl (hb hby d4_11) rfl ((if0 _ _).trans (teq hc11).2) ?_
        show Steps p.tables e below (T5.setTop (mkF m 14 #[.val (.ref a1)] [])) _
        refine XS.iconst X5.here hx rfl (hb hby d4_14) ?_
        show Steps p.tables e below (T5.setTop (mkF m 15 #[.val (.ref a1)] [(.int (1 : Int32))])) _
        refine XS.goto X5.here hx rfl (pc0 := 15) (pc' := 19) rfl (hb hby d4_15) (by decide) (by decide) ?_
        show Steps p.tables e below (T5.setTop (mkF m 19 #[.val (.ref a1)] [(.int (1 : Int32))])) _
        exact κ)
      obtain ⟨fs, hr, hrun, hended, hW, hsame⟩ := X5.leave (v := some (.int (1 : Int32))) (fun h => by rw [Bd.returns] at h; cases h)
      refine ⟨_, _, pre7 _ ?_, hrun, hended, _, _, rfl, ?_, ⟨_, rfl⟩, hW, hsame.mono (by decide) (by decide)⟩
      · exact retN X5 hx (t := .boolean) Bd.returns (by simp) (hb hby d4_19) hr
      · show Q4 Z a1 ru st h0 n0 _ T5.heap _
        rw [e5]
        exact ⟨congrArg (fun z => some (Value.int z)) (if_pos ⟨hc4, hc11⟩).symm, N0, rfl⟩
    · have pre8 := fun τ (κ : Steps p.tables e below (T5.setTop (mkF m 19 #[.val (.ref a1)] [(.int (0 : Int32))])) τ) => pre6 τ (by
        refine XS.ifYes X5.here hx rfl (pc0 := 11) (pc' := 18) rfl (hb hby d4_11) rfl ((if0 _ _).trans (feq hc11).2) (by decide) (by decide) ?_
        show Steps p.tables e below (T5.setTop (mkF m 18 #[.val (.ref a1)] [])) _
        refine XS.iconst X5.here hx rfl (hb hby d4_18) ?_
        show Steps p.tables e below (T5.setTop (mkF m 19 #[.val (.ref a1)] [(.int (0 : Int32))])) _
        exact κ)
      obtain ⟨fs, hr, hrun, hended, hW, hsame⟩ := X5.leave (v := some (.int (0 : Int32))) (fun h => by rw [Bd.returns] at h; cases h)
      refine ⟨_, _, pre8 _ ?_, hrun, hended, _, _, rfl, ?_, ⟨_, rfl⟩, hW, hsame.mono (by decide) (by decide)⟩
      · exact retN X5 hx (t := .boolean) Bd.returns (by simp) (hb hby d4_19) hr
      · show Q4 Z a1 ru st h0 n0 _ T5.heap _
        rw [e5]
        exact ⟨congrArg (fun z => some (Value.int z)) (if_neg fun z => hc11 z.2).symm, N0, rfl⟩
  · have pre9 := fun τ (κ : Steps p.tables e below (T2.setTop (mkF m 19 #[.val (.ref a1)] [(.int (0 : Int32))])) τ) => pre3 τ (by
      refine XS.ifYes X2.here hx rfl (pc0 := 4) (pc' := 18) rfl (hb hby d4_4) rfl ((if0 _ _).trans (feq hc4).2) (by decide) (by decide) ?_
      show Steps p.tables e below (T2.setTop (mkF m 18 #[.val (.ref a1)] [])) _
      refine XS.iconst X2.here hx rfl (hb hby d4_18) ?_
      show Steps p.tables e below (T2.setTop (mkF m 19 #[.val (.ref a1)] [(.int (0 : Int32))])) _
      exact κ)
    obtain ⟨fs, hr, hrun, hended, hW, hsame⟩ := X2.leave (v := some (.int (0 : Int32))) (fun h => by rw [Bd.returns] at h; cases h)
    refine ⟨_, _, pre9 _ ?_, hrun, hended, _, _, rfl, ?_, ⟨_, rfl⟩, hW, hsame.mono (by decide) (by decide)⟩
    · exact retN X2 hx (t := .boolean) Bd.returns (by simp) (hb hby d4_19) hr
    · show Q4 Z a1 ru st h0 n0 _ T2.heap _
      rw [e2]
      exact ⟨congrArg (fun z => some (Value.int z)) (if_neg fun z => hc4 z.1).symm, N0, rfl⟩
theorem ef_5 (m : MethodId) (a1 : Addr) (o : Addr) (w : Addr) (fi : Int32) (ru : Int32) (cl : Int32) (st : Int32) (le : Int32) (mo : Int32) : entryFrame m #[(.ref a1)] 1 = mkF m 0 #[.val (.ref a1)] [] := by first | (simp [entryFrame, mkF, argsToLocals, Value.category]; done) | rfl
def Q5 (Z : State) (a1 : Addr) (o : Addr) (w : Addr) (ko : ClassId) (kw : ClassId) (fi : Int32) (ru : Int32) (cl : Int32) (st : Int32) (le : Int32) (mo : Int32) (lo : List Value) (lw : List Value) (h0 : Heap) (n0 : Nat) (v : Option Value) (h : Heap) (L : List Loc) : Prop := v = none ∧ Fr n0 L ∧ Keep h0 h [a1] ∧ own_C Z h a1 o w ko kw fi ru cl 1 le mo lo lw
set_option maxRecDepth 65536 in
set_option maxHeartbeats 40000000 in
theorem rm5 (l : Launch) (Z : State) (a0 : Array Value) (hw : ∀ d ∈ tables_1, d.before a0 Z = true) (ws : List Jvm.Cond) (a1 : Addr) (o : Addr) (w : Addr) (ko : ClassId) (kw : ClassId) (fi : Int32) (ru : Int32) (cl : Int32) (st : Int32) (le : Int32) (mo : Int32) (lo : List Value) (lw : List Value) (h0 : Heap) (n0 : Nat) (Z0 : n0 ≤ h0.size) (P0 : own_C Z h0 a1 o w ko kw fi ru cl st le mo lo lw) (n1 : a1 ≠ o) (n2 : a1 ≠ w) (n3 : o ≠ w) (g_a1 : n0 ≤ a1) :
    MetFree l (⟨"com/example/fettle/fettle/regex/Counts", "start", "()V"⟩ : MethodName) (head1 (Jvm.Cond.code (⟨"com/example/fettle/fettle/regex/Counts", "start", "()V"⟩ : MethodName) prog_24_method_3_code 1 none :: ws) ({ frames := 0, cells := 0, slots := 0, locals := 0 } : Room)) (fun α υ => α = #[(.ref a1)] ∧ Z.Warmed39 υ.vm ∧ υ.heap = h0) (fun _ _ _ _ _ => True) (fun _ υ ω υ' => ∃ v L, ω = .returned v ∧ Q5 Z a1 o w ko kw fi ru cl st le mo lo lw h0 n0 v υ'.heap L ∧ FrameEnd υ ω υ' L ({ frames := 0, cells := 0, slots := 0, locals := 0 } : Room).cells ({ frames := 0, cells := 0, slots := 0, locals := 0 } : Room).slots) := by
  refine MetFree.of_bodySF (plainFor_of_name pn_com_example_fettle_fettle_regex_Counts) hisR ?_
  intro p e s m args below meth c s₁ Bd hml0 hP hK
  obtain ⟨rfl, hZ, hh⟩ := hP
  have hx := Bd.exec
  have hby := Bd.bytes
  have hml : c.maxLocals = 1 := hml0
  have hown : s.vm.findClass "com/example/fettle/fettle/regex/Counts" = some m.cls := findClass_of_methodNamed Bd.named
  have hnm := (name_of_methodNamed Bd.named Bd.method).1
  have X0 : Stand p l e ({ frames := 0, cells := 0, slots := 0, locals := 0 } : Room) s m #[(.ref a1)] below meth c s₁ [] 0 0 := Stand.of_body Bd
  have e0 : s₁.heap = h0 := by rw [← hh, Bd.state]; rfl
  have N0 := Fr.nil n0
  have pre0 : ∀ τ, Steps p.tables e below (s₁.setTop (mkF m 0 #[.val (.ref a1)] [])) τ → Steps p.tables e below (s₁.setTop (entryFrame m #[(.ref a1)] 1)) τ := fun τ κ => castTop (ef_5 m a1 o w fi ru cl st le mo) κ
  obtain ⟨E_a1, F_oldest_a1, F_newest_a1, F_first_a1, F_runs_a1, F_clock_a1, F_starting_a1, F_least_a1, F_most_a1, V_o_a1, V_w_a1⟩ := P0
  have Kp0 : Keep h0 h0 [a1] := Keep.refl _ _
  have pre1 := fun τ (κ : Steps p.tables e below (s₁.setTop (mkF m 2 #[.val (.ref a1)] [(.int (1 : Int32)), (.ref a1)])) τ) => pre0 τ (by
    refine XS.aloadN X0.here hx rfl (hb hby d5_0) rfl rfl ?_
    show Steps p.tables e below (s₁.setTop (mkF m 1 #[.val (.ref a1)] [(.ref a1)])) _
    refine XS.iconst X0.here hx rfl (hb hby d5_1) ?_
    show Steps p.tables e below (s₁.setTop (mkF m 2 #[.val (.ref a1)] [(.int (1 : Int32)), (.ref a1)])) _
    exact κ)
  obtain ⟨T2, h2, X2, e2, W2, st2⟩ := putFN X0 hx hZ hown (hw _ (List.mem_of_getElem? (i := 30) rfl)) Via.refl e0 F_starting_a1 E_a1 (Or.inl (hw _ (List.mem_of_getElem? (i := 31) rfl))) (hw _ (List.mem_of_getElem? (i := 6) rfl)) (ty := .boolean) (v' := (.int (1 : Int32))) (by decide) rfl (by decide) (g := (mkF m 2 #[.val (.ref a1)] [(.int (1 : Int32)), (.ref a1)])) rfl rfl (hb hby d5_2)
  have E_a1_2 : Exa Z h2 a1 "com/example/fettle/fettle/regex/Counts" := E_a1.wr W2
  have F_oldest_a1_2 : Fld Z h2 a1 "com/example/fettle/fettle/regex/Counts" "oldest" "[I" (.ref o) := F_oldest_a1.other W2 (Or.inr (slot_ne (Or.inl (hw _ (List.mem_of_getElem? (i := 16) rfl))) (Or.inl (hw _ (List.mem_of_getElem? (i := 31) rfl))) (by decide) (t := (.array .int)) (t' := .boolean) (by decide) (by decide)))
  have F_newest_a1_2 : Fld Z h2 a1 "com/example/fettle/fettle/regex/Counts" "newest" "[I" (.ref w) := F_newest_a1.other W2 (Or.inr (slot_ne (Or.inl (hw _ (List.mem_of_getElem? (i := 18) rfl))) (Or.inl (hw _ (List.mem_of_getElem? (i := 31) rfl))) (by decide) (t := (.array .int)) (t' := .boolean) (by decide) (by decide)))
  have F_first_a1_2 : Fld Z h2 a1 "com/example/fettle/fettle/regex/Counts" "first" "I" (.int fi) := F_first_a1.other W2 (Or.inr (slot_ne (Or.inl (hw _ (List.mem_of_getElem? (i := 57) rfl))) (Or.inl (hw _ (List.mem_of_getElem? (i := 31) rfl))) (by decide) (t := .int) (t' := .boolean) (by decide) (by decide)))
  have F_runs_a1_2 : Fld Z h2 a1 "com/example/fettle/fettle/regex/Counts" "runs" "I" (.int ru) := F_runs_a1.other W2 (Or.inr (slot_ne (Or.inl (hw _ (List.mem_of_getElem? (i := 29) rfl))) (Or.inl (hw _ (List.mem_of_getElem? (i := 31) rfl))) (by decide) (t := .int) (t' := .boolean) (by decide) (by decide)))
  have F_clock_a1_2 : Fld Z h2 a1 "com/example/fettle/fettle/regex/Counts" "clock" "I" (.int cl) := F_clock_a1.other W2 (Or.inr (slot_ne (Or.inl (hw _ (List.mem_of_getElem? (i := 47) rfl))) (Or.inl (hw _ (List.mem_of_getElem? (i := 31) rfl))) (by decide) (t := .int) (t' := .boolean) (by decide) (by decide)))
  have F_least_a1_2 : Fld Z h2 a1 "com/example/fettle/fettle/regex/Counts" "least" "I" (.int le) := F_least_a1.other W2 (Or.inr (slot_ne (Or.inr (hw _ (List.mem_of_getElem? (i := 20) rfl))) (Or.inl (hw _ (List.mem_of_getElem? (i := 31) rfl))) (by decide) (t := .int) (t' := .boolean) (by decide) (by decide)))
  have F_most_a1_2 : Fld Z h2 a1 "com/example/fettle/fettle/regex/Counts" "most" "I" (.int mo) := F_most_a1.other W2 (Or.inr (slot_ne (Or.inr (hw _ (List.mem_of_getElem? (i := 22) rfl))) (Or.inl (hw _ (List.mem_of_getElem? (i := 31) rfl))) (by decide) (t := .int) (t' := .boolean) (by decide) (by decide)))
  have V_o_a1_2 : Arv Z h2 o ko .int (4 : Int32) lo (.int (0 : Int32)) := V_o_a1.other W2 (Ne.symm n1)
  have V_w_a1_2 : Arv Z h2 w kw .int (4 : Int32) lw (.int (0 : Int32)) := V_w_a1.other W2 (Ne.symm n2)
  have Kp2 : Keep h0 h2 [a1] := Kp0.wr W2 (Or.inl (List.mem_of_getElem? (i := 0) rfl))
  have N2 := Fr.snoc X2 N0 g_a1
  have Z2 : n0 ≤ h2.size := Nat.le_trans Z0 (Keep.of_wr W2).1
  have F_starting_a1_2 : Fld Z h2 a1 "com/example/fettle/fettle/regex/Counts" "starting" "Z" (.int (1 : Int32)) := F_starting_a1.same W2
  have pre3 := fun τ (κ : Steps p.tables e below (T2.setTop (mkF m 5 #[.val (.ref a1)] [])) τ) => pre1 τ (st2 _ κ)
  obtain ⟨fs, hr, hrun, hended, hW, hsame⟩ := X2.leave (v := none) (fun _ => rfl)
  refine ⟨_, _, pre3 _ ?_, hrun, hended, _, _, rfl, ?_, ⟨_, rfl⟩, hW, hsame.mono (by decide) (by decide)⟩
  · exact X2.returnOut hx Bd.returns (hb hby d5_5) hr
  · show Q5 Z a1 o w ko kw fi ru cl st le mo lo lw h0 n0 _ T2.heap _
    rw [e2]
    exact ⟨rfl, N2, Kp2, ⟨E_a1_2, F_oldest_a1_2, F_newest_a1_2, F_first_a1_2, F_runs_a1_2, F_clock_a1_2, F_starting_a1_2, F_least_a1_2, F_most_a1_2, V_o_a1_2, V_w_a1_2⟩⟩
theorem ef_15 (m : MethodId) (a1 : Addr) (o : Addr) (w : Addr) (fi : Int32) (ru : Int32) (cl : Int32) (st : Int32) (le : Int32) (mo : Int32) : entryFrame m #[(.ref a1)] 1 = mkF m 0 #[.val (.ref a1)] [] := by first | (simp [entryFrame, mkF, argsToLocals, Value.category]; done) | rfl
def Q15 (Z : State) (a1 : Addr) (o : Addr) (w : Addr) (ko : ClassId) (kw : ClassId) (fi : Int32) (ru : Int32) (cl : Int32) (st : Int32) (le : Int32) (mo : Int32) (lo : List Value) (lw : List Value) (h0 : Heap) (n0 : Nat) (v : Option Value) (h : Heap) (L : List Loc) : Prop := v = none ∧ Fr n0 L ∧ Keep h0 h [a1] ∧ own_C Z h a1 o w ko kw fi 0 cl 0 le mo lo lw
set_option maxRecDepth 65536 in
set_option maxHeartbeats 40000000 in
theorem rm15 (l : Launch) (Z : State) (a0 : Array Value) (hw : ∀ d ∈ tables_1, d.before a0 Z = true) (ws : List Jvm.Cond) (a1 : Addr) (o : Addr) (w : Addr) (ko : ClassId) (kw : ClassId) (fi : Int32) (ru : Int32) (cl : Int32) (st : Int32) (le : Int32) (mo : Int32) (lo : List Value) (lw : List Value) (h0 : Heap) (n0 : Nat) (Z0 : n0 ≤ h0.size) (P0 : own_C Z h0 a1 o w ko kw fi ru cl st le mo lo lw) (n1 : a1 ≠ o) (n2 : a1 ≠ w) (n3 : o ≠ w) (g_a1 : n0 ≤ a1) :
    MetFree l (⟨"com/example/fettle/fettle/regex/Counts", "clear", "()V"⟩ : MethodName) (head1 (Jvm.Cond.code (⟨"com/example/fettle/fettle/regex/Counts", "clear", "()V"⟩ : MethodName) prog_24_method_4_code 1 none :: ws) ({ frames := 0, cells := 0, slots := 0, locals := 0 } : Room)) (fun α υ => α = #[(.ref a1)] ∧ Z.Warmed39 υ.vm ∧ υ.heap = h0) (fun _ _ _ _ _ => True) (fun _ υ ω υ' => ∃ v L, ω = .returned v ∧ Q15 Z a1 o w ko kw fi ru cl st le mo lo lw h0 n0 v υ'.heap L ∧ FrameEnd υ ω υ' L ({ frames := 0, cells := 0, slots := 0, locals := 0 } : Room).cells ({ frames := 0, cells := 0, slots := 0, locals := 0 } : Room).slots) := by
  refine MetFree.of_bodySF (plainFor_of_name pn_com_example_fettle_fettle_regex_Counts) hisR ?_
  intro p e s m args below meth c s₁ Bd hml0 hP hK
  obtain ⟨rfl, hZ, hh⟩ := hP
  have hx := Bd.exec
  have hby := Bd.bytes
  have hml : c.maxLocals = 1 := hml0
  have hown : s.vm.findClass "com/example/fettle/fettle/regex/Counts" = some m.cls := findClass_of_methodNamed Bd.named
  have hnm := (name_of_methodNamed Bd.named Bd.method).1
  have X0 : Stand p l e ({ frames := 0, cells := 0, slots := 0, locals := 0 } : Room) s m #[(.ref a1)] below meth c s₁ [] 0 0 := Stand.of_body Bd
  have e0 : s₁.heap = h0 := by rw [← hh, Bd.state]; rfl
  have N0 := Fr.nil n0
  have pre0 : ∀ τ, Steps p.tables e below (s₁.setTop (mkF m 0 #[.val (.ref a1)] [])) τ → Steps p.tables e below (s₁.setTop (entryFrame m #[(.ref a1)] 1)) τ := fun τ κ => castTop (ef_15 m a1 o w fi ru cl st le mo) κ
  obtain ⟨E_a1, F_oldest_a1, F_newest_a1, F_first_a1, F_runs_a1, F_clock_a1, F_starting_a1, F_least_a1, F_most_a1, V_o_a1, V_w_a1⟩ := P0
  have Kp0 : Keep h0 h0 [a1] := Keep.refl _ _
  have pre1 := fun τ (κ : Steps p.tables e below (s₁.setTop (mkF m 2 #[.val (.ref a1)] [(.int (0 : Int32)), (.ref a1)])) τ) => pre0 τ (by
    refine XS.aloadN X0.here hx rfl (hb hby d15_0) rfl rfl ?_
    show Steps p.tables e below (s₁.setTop (mkF m 1 #[.val (.ref a1)] [(.ref a1)])) _
    refine XS.iconst X0.here hx rfl (hb hby d15_1) ?_
    show Steps p.tables e below (s₁.setTop (mkF m 2 #[.val (.ref a1)] [(.int (0 : Int32)), (.ref a1)])) _
    exact κ)
  obtain ⟨T2, h2, X2, e2, W2, st2⟩ := putF X0 hx hZ hown (host := "") (Or.inl (hw _ (List.mem_of_getElem? (i := 28) rfl))) Via.refl e0 F_runs_a1 E_a1 (Or.inl (hw _ (List.mem_of_getElem? (i := 29) rfl))) (hw _ (List.mem_of_getElem? (i := 6) rfl)) (ty := .int) (by decide) rfl rfl (g := (mkF m 2 #[.val (.ref a1)] [(.int (0 : Int32)), (.ref a1)])) rfl rfl (hb hby d15_2)
  have E_a1_2 : Exa Z h2 a1 "com/example/fettle/fettle/regex/Counts" := E_a1.wr W2
  have F_oldest_a1_2 : Fld Z h2 a1 "com/example/fettle/fettle/regex/Counts" "oldest" "[I" (.ref o) := F_oldest_a1.other W2 (Or.inr (slot_ne (Or.inl (hw _ (List.mem_of_getElem? (i := 16) rfl))) (Or.inl (hw _ (List.mem_of_getElem? (i := 29) rfl))) (by decide) (t := (.array .int)) (t' := .int) (by decide) (by decide)))
  have F_newest_a1_2 : Fld Z h2 a1 "com/example/fettle/fettle/regex/Counts" "newest" "[I" (.ref w) := F_newest_a1.other W2 (Or.inr (slot_ne (Or.inl (hw _ (List.mem_of_getElem? (i := 18) rfl))) (Or.inl (hw _ (List.mem_of_getElem? (i := 29) rfl))) (by decide) (t := (.array .int)) (t' := .int) (by decide) (by decide)))
  have F_first_a1_2 : Fld Z h2 a1 "com/example/fettle/fettle/regex/Counts" "first" "I" (.int fi) := F_first_a1.other W2 (Or.inr (slot_ne (Or.inl (hw _ (List.mem_of_getElem? (i := 57) rfl))) (Or.inl (hw _ (List.mem_of_getElem? (i := 29) rfl))) (by decide) (t := .int) (t' := .int) (by decide) (by decide)))
  have F_clock_a1_2 : Fld Z h2 a1 "com/example/fettle/fettle/regex/Counts" "clock" "I" (.int cl) := F_clock_a1.other W2 (Or.inr (slot_ne (Or.inl (hw _ (List.mem_of_getElem? (i := 47) rfl))) (Or.inl (hw _ (List.mem_of_getElem? (i := 29) rfl))) (by decide) (t := .int) (t' := .int) (by decide) (by decide)))
  have F_starting_a1_2 : Fld Z h2 a1 "com/example/fettle/fettle/regex/Counts" "starting" "Z" (.int st) := F_starting_a1.other W2 (Or.inr (slot_ne (Or.inl (hw _ (List.mem_of_getElem? (i := 31) rfl))) (Or.inl (hw _ (List.mem_of_getElem? (i := 29) rfl))) (by decide) (t := .boolean) (t' := .int) (by decide) (by decide)))
  have F_least_a1_2 : Fld Z h2 a1 "com/example/fettle/fettle/regex/Counts" "least" "I" (.int le) := F_least_a1.other W2 (Or.inr (slot_ne (Or.inr (hw _ (List.mem_of_getElem? (i := 20) rfl))) (Or.inl (hw _ (List.mem_of_getElem? (i := 29) rfl))) (by decide) (t := .int) (t' := .int) (by decide) (by decide)))
  have F_most_a1_2 : Fld Z h2 a1 "com/example/fettle/fettle/regex/Counts" "most" "I" (.int mo) := F_most_a1.other W2 (Or.inr (slot_ne (Or.inr (hw _ (List.mem_of_getElem? (i := 22) rfl))) (Or.inl (hw _ (List.mem_of_getElem? (i := 29) rfl))) (by decide) (t := .int) (t' := .int) (by decide) (by decide)))
  have V_o_a1_2 : Arv Z h2 o ko .int (4 : Int32) lo (.int (0 : Int32)) := V_o_a1.other W2 (Ne.symm n1)
  have V_w_a1_2 : Arv Z h2 w kw .int (4 : Int32) lw (.int (0 : Int32)) := V_w_a1.other W2 (Ne.symm n2)
  have Kp2 : Keep h0 h2 [a1] := Kp0.wr W2 (Or.inl (List.mem_of_getElem? (i := 0) rfl))
  have N2 := Fr.snoc X2 N0 g_a1
  have Z2 : n0 ≤ h2.size := Nat.le_trans Z0 (Keep.of_wr W2).1
  have F_runs_a1_2 : Fld Z h2 a1 "com/example/fettle/fettle/regex/Counts" "runs" "I" (.int (0 : Int32)) := F_runs_a1.same W2
  have pre3 := fun τ (κ : Steps p.tables e below (T2.setTop (mkF m 5 #[.val (.ref a1)] [])) τ) => pre1 τ (st2 _ κ)
  have pre4 := fun τ (κ : Steps p.tables e below (T2.setTop (mkF m 7 #[.val (.ref a1)] [(.int (0 : Int32)), (.ref a1)])) τ) => pre3 τ (by
    refine XS.aloadN X2.here hx rfl (hb hby d15_5) rfl rfl ?_
    show Steps p.tables e below (T2.setTop (mkF m 6 #[.val (.ref a1)] [(.ref a1)])) _
    refine XS.iconst X2.here hx rfl (hb hby d15_6) ?_
    show Steps p.tables e below (T2.setTop (mkF m 7 #[.val (.ref a1)] [(.int (0 : Int32)), (.ref a1)])) _
    exact κ)
  obtain ⟨T5, h5, X5, e5, W5, st5⟩ := putFN X2 hx hZ hown (hw _ (List.mem_of_getElem? (i := 30) rfl)) Via.refl e2 F_starting_a1_2 E_a1_2 (Or.inl (hw _ (List.mem_of_getElem? (i := 31) rfl))) (hw _ (List.mem_of_getElem? (i := 6) rfl)) (ty := .boolean) (v' := (.int (0 : Int32))) (by decide) rfl (by decide) (g := (mkF m 7 #[.val (.ref a1)] [(.int (0 : Int32)), (.ref a1)])) rfl rfl (hb hby d15_7)
  have E_a1_5 : Exa Z h5 a1 "com/example/fettle/fettle/regex/Counts" := E_a1_2.wr W5
  have F_oldest_a1_5 : Fld Z h5 a1 "com/example/fettle/fettle/regex/Counts" "oldest" "[I" (.ref o) := F_oldest_a1_2.other W5 (Or.inr (slot_ne (Or.inl (hw _ (List.mem_of_getElem? (i := 16) rfl))) (Or.inl (hw _ (List.mem_of_getElem? (i := 31) rfl))) (by decide) (t := (.array .int)) (t' := .boolean) (by decide) (by decide)))
  have F_newest_a1_5 : Fld Z h5 a1 "com/example/fettle/fettle/regex/Counts" "newest" "[I" (.ref w) := F_newest_a1_2.other W5 (Or.inr (slot_ne (Or.inl (hw _ (List.mem_of_getElem? (i := 18) rfl))) (Or.inl (hw _ (List.mem_of_getElem? (i := 31) rfl))) (by decide) (t := (.array .int)) (t' := .boolean) (by decide) (by decide)))
  have F_first_a1_5 : Fld Z h5 a1 "com/example/fettle/fettle/regex/Counts" "first" "I" (.int fi) := F_first_a1_2.other W5 (Or.inr (slot_ne (Or.inl (hw _ (List.mem_of_getElem? (i := 57) rfl))) (Or.inl (hw _ (List.mem_of_getElem? (i := 31) rfl))) (by decide) (t := .int) (t' := .boolean) (by decide) (by decide)))
  have F_clock_a1_5 : Fld Z h5 a1 "com/example/fettle/fettle/regex/Counts" "clock" "I" (.int cl) := F_clock_a1_2.other W5 (Or.inr (slot_ne (Or.inl (hw _ (List.mem_of_getElem? (i := 47) rfl))) (Or.inl (hw _ (List.mem_of_getElem? (i := 31) rfl))) (by decide) (t := .int) (t' := .boolean) (by decide) (by decide)))
  have F_least_a1_5 : Fld Z h5 a1 "com/example/fettle/fettle/regex/Counts" "least" "I" (.int le) := F_least_a1_2.other W5 (Or.inr (slot_ne (Or.inr (hw _ (List.mem_of_getElem? (i := 20) rfl))) (Or.inl (hw _ (List.mem_of_getElem? (i := 31) rfl))) (by decide) (t := .int) (t' := .boolean) (by decide) (by decide)))
  have F_most_a1_5 : Fld Z h5 a1 "com/example/fettle/fettle/regex/Counts" "most" "I" (.int mo) := F_most_a1_2.other W5 (Or.inr (slot_ne (Or.inr (hw _ (List.mem_of_getElem? (i := 22) rfl))) (Or.inl (hw _ (List.mem_of_getElem? (i := 31) rfl))) (by decide) (t := .int) (t' := .boolean) (by decide) (by decide)))
  have V_o_a1_5 : Arv Z h5 o ko .int (4 : Int32) lo (.int (0 : Int32)) := V_o_a1_2.other W5 (Ne.symm n1)
  have V_w_a1_5 : Arv Z h5 w kw .int (4 : Int32) lw (.int (0 : Int32)) := V_w_a1_2.other W5 (Ne.symm n2)
  have F_runs_a1_5 : Fld Z h5 a1 "com/example/fettle/fettle/regex/Counts" "runs" "I" (.int (0 : Int32)) := F_runs_a1_2.other W5 (Or.inr (slot_ne (Or.inl (hw _ (List.mem_of_getElem? (i := 29) rfl))) (Or.inl (hw _ (List.mem_of_getElem? (i := 31) rfl))) (by decide) (t := .int) (t' := .boolean) (by decide) (by decide)))
  have Kp5 : Keep h0 h5 [a1] := Kp2.wr W5 (Or.inl (List.mem_of_getElem? (i := 0) rfl))
  have N5 := Fr.snoc X5 N2 g_a1
  have Z5 : n0 ≤ h5.size := Nat.le_trans Z2 (Keep.of_wr W5).1
  have F_starting_a1_5 : Fld Z h5 a1 "com/example/fettle/fettle/regex/Counts" "starting" "Z" (.int (0 : Int32)) := F_starting_a1_2.same W5
  have pre6 := fun τ (κ : Steps p.tables e below (T5.setTop (mkF m 10 #[.val (.ref a1)] [])) τ) => pre4 τ (st5 _ κ)
  obtain ⟨fs, hr, hrun, hended, hW, hsame⟩ := X5.leave (v := none) (fun _ => rfl)
  refine ⟨_, _, pre6 _ ?_, hrun, hended, _, _, rfl, ?_, ⟨_, rfl⟩, hW, hsame.mono (by decide) (by decide)⟩
  · exact X5.returnOut hx Bd.returns (hb hby d15_10) hr
  · show Q15 Z a1 o w ko kw fi ru cl st le mo lo lw h0 n0 _ T5.heap _
    rw [e5]
    exact ⟨rfl, N5, Kp5, ⟨E_a1_5, F_oldest_a1_5, F_newest_a1_5, F_first_a1_5, F_runs_a1_5, F_clock_a1_5, F_starting_a1_5, F_least_a1_5, F_most_a1_5, V_o_a1_5, V_w_a1_5⟩⟩
theorem ef_9 (m : MethodId) (a1 : Addr) (k : Int32) (o : Addr) (fi : Int32) : entryFrame m #[(.ref a1), (.int k)] 2 = mkF m 0 #[.val (.ref a1), .val (.int k)] [] := by first | (simp [entryFrame, mkF, argsToLocals, Value.category]; done) | rfl
def Q9 (Z : State) (a1 : Addr) (k : Int32) (o : Addr) (ko : ClassId) (fi : Int32) (lo : List Value) (h0 : Heap) (n0 : Nat) (v : Option Value) (h : Heap) (L : List Loc) : Prop := v = some (.int ((fi + k) &&& ((4 : Int32) - (1 : Int32)))) ∧ Fr n0 L ∧ h = h0
set_option maxRecDepth 65536 in
set_option maxHeartbeats 40000000 in
theorem rm9 (l : Launch) (Z : State) (a0 : Array Value) (hw : ∀ d ∈ tables_1, d.before a0 Z = true) (ws : List Jvm.Cond) (a1 : Addr) (k : Int32) (o : Addr) (ko : ClassId) (fi : Int32) (lo : List Value) (h0 : Heap) (n0 : Nat) (Z0 : n0 ≤ h0.size) (F1 : Fld Z h0 a1 "com/example/fettle/fettle/regex/Counts" "first" "I" (.int fi)) (F2 : Fld Z h0 a1 "com/example/fettle/fettle/regex/Counts" "oldest" "[I" (.ref o)) (V1 : Arv Z h0 o ko .int (4 : Int32) lo (.int (0 : Int32))) :
    MetFree l (⟨"com/example/fettle/fettle/regex/Counts", "index", "(I)I"⟩ : MethodName) (head1 (Jvm.Cond.code (⟨"com/example/fettle/fettle/regex/Counts", "index", "(I)I"⟩ : MethodName) prog_24_method_12_code 2 (some .int) :: ws) ({ frames := 0, cells := 0, slots := 0, locals := 0 } : Room)) (fun α υ => α = #[(.ref a1), (.int k)] ∧ Z.Warmed39 υ.vm ∧ υ.heap = h0) (fun _ _ _ _ _ => True) (fun _ υ ω υ' => ∃ v L, ω = .returned v ∧ Q9 Z a1 k o ko fi lo h0 n0 v υ'.heap L ∧ FrameEnd υ ω υ' L ({ frames := 0, cells := 0, slots := 0, locals := 0 } : Room).cells ({ frames := 0, cells := 0, slots := 0, locals := 0 } : Room).slots) := by
  refine MetFree.of_bodySF (plainFor_of_name pn_com_example_fettle_fettle_regex_Counts) hisR ?_
  intro p e s m args below meth c s₁ Bd hml0 hP hK
  obtain ⟨rfl, hZ, hh⟩ := hP
  have hx := Bd.exec
  have hby := Bd.bytes
  have hml : c.maxLocals = 2 := hml0
  have hown : s.vm.findClass "com/example/fettle/fettle/regex/Counts" = some m.cls := findClass_of_methodNamed Bd.named
  have hnm := (name_of_methodNamed Bd.named Bd.method).1
  have X0 : Stand p l e ({ frames := 0, cells := 0, slots := 0, locals := 0 } : Room) s m #[(.ref a1), (.int k)] below meth c s₁ [] 0 0 := Stand.of_body Bd
  have e0 : s₁.heap = h0 := by rw [← hh, Bd.state]; rfl
  have N0 := Fr.nil n0
  have pre0 : ∀ τ, Steps p.tables e below (s₁.setTop (mkF m 0 #[.val (.ref a1), .val (.int k)] [])) τ → Steps p.tables e below (s₁.setTop (entryFrame m #[(.ref a1), (.int k)] 2)) τ := fun τ κ => castTop (ef_9 m a1 k o fi) κ
  have pre1 := fun τ (κ : Steps p.tables e below (s₁.setTop (mkF m 1 #[.val (.ref a1), .val (.int k)] [(.ref a1)])) τ) => pre0 τ (by
    refine XS.aloadN X0.here hx rfl (hb hby d9_0) rfl rfl ?_
    show Steps p.tables e below (s₁.setTop (mkF m 1 #[.val (.ref a1), .val (.int k)] [(.ref a1)])) _
    exact κ)
  obtain ⟨T2, X2, e2, st2⟩ := getF X0 hx hZ hown (host := "") (Or.inl (hw _ (List.mem_of_getElem? (i := 56) rfl))) Via.refl e0 F1 (g := (mkF m 1 #[.val (.ref a1), .val (.int k)] [(.ref a1)])) rfl rfl (hb hby d9_1)
  have pre3 := fun τ (κ : Steps p.tables e below (T2.setTop (mkF m 4 #[.val (.ref a1), .val (.int k)] [(.int fi)])) τ) => pre1 τ (st2 _ κ)
  have pre4 := fun τ (κ : Steps p.tables e below (T2.setTop (mkF m 7 #[.val (.ref a1), .val (.int k)] [(.ref a1), (.int (fi + k))])) τ) => pre3 τ (by
    refine XS.iloadN X2.here hx rfl (hb hby d9_4) rfl ?_
    show Steps p.tables e below (T2.setTop (mkF m 5 #[.val (.ref a1), .val (.int k)] [(.int k), (.int fi)])) _
    refine XS.iadd X2.here hx rfl (hb hby d9_5) rfl ?_
    show Steps p.tables e below (T2.setTop (mkF m 6 #[.val (.ref a1), .val (.int k)] [(.int (fi + k))])) _
    refine XS.aloadN X2.here hx rfl (hb hby d9_6) rfl rfl ?_
    show Steps p.tables e below (T2.setTop (mkF m 7 #[.val (.ref a1), .val (.int k)] [(.ref a1), (.int (fi + k))])) _
    exact κ)
  obtain ⟨T5, X5, e5, st5⟩ := getF X2 hx hZ hown (host := "") (Or.inl (hw _ (List.mem_of_getElem? (i := 15) rfl))) Via.refl e2 F2 (g := (mkF m 7 #[.val (.ref a1), .val (.int k)] [(.ref a1), (.int (fi + k))])) rfl rfl (hb hby d9_7)
  have pre6 := fun τ (κ : Steps p.tables e below (T5.setTop (mkF m 10 #[.val (.ref a1), .val (.int k)] [(.ref o), (.int (fi + k))])) τ) => pre4 τ (st5 _ κ)
  obtain ⟨cl7, Ar7, -, S7, M7, -, -⟩ := id V1
  have pre8 := fun τ (κ : Steps p.tables e below (T5.setTop (mkF m 14 #[.val (.ref a1), .val (.int k)] [(.int ((fi + k) &&& ((4 : Int32) - (1 : Int32))))])) τ) => pre6 τ (by
    refine X5.arraylength hx (by rw [e5]; exact Ar7.1) (State.isArrayOf_alike hZ.alike Ar7.2.1) (g := (mkF m 10 #[.val (.ref a1), .val (.int k)] [(.ref o), (.int (fi + k))])) rfl rfl (hb hby d9_10) _ ?_
    rw [len_of S7 M7]
    show Steps p.tables e below (T5.setTop (mkF m 11 #[.val (.ref a1), .val (.int k)] [(.int (4 : Int32)), (.int (fi + k))])) _
    refine XS.iconst X5.here hx rfl (hb hby d9_11) ?_
    show Steps p.tables e below (T5.setTop (mkF m 12 #[.val (.ref a1), .val (.int k)] [(.int (1 : Int32)), (.int (4 : Int32)), (.int (fi + k))])) _
    refine XS.isub X5.here hx rfl (hb hby d9_12) rfl ?_
    show Steps p.tables e below (T5.setTop (mkF m 13 #[.val (.ref a1), .val (.int k)] [(.int ((4 : Int32) - (1 : Int32))), (.int (fi + k))])) _
    refine XS.iand X5.here hx rfl (hb hby d9_13) rfl ?_
    show Steps p.tables e below (T5.setTop (mkF m 14 #[.val (.ref a1), .val (.int k)] [(.int ((fi + k) &&& ((4 : Int32) - (1 : Int32))))])) _
    exact κ)
  obtain ⟨fs, hr, hrun, hended, hW, hsame⟩ := X5.leave (v := some (.int ((fi + k) &&& ((4 : Int32) - (1 : Int32))))) (fun h => by rw [Bd.returns] at h; cases h)
  refine ⟨_, _, pre8 _ ?_, hrun, hended, _, _, rfl, ?_, ⟨_, rfl⟩, hW, hsame.mono (by decide) (by decide)⟩
  · exact retI X5 hx Bd.returns (hb hby d9_14) hr
  · show Q9 Z a1 k o ko fi lo h0 n0 _ T5.heap _
    rw [e5]
    exact ⟨rfl, N0, rfl⟩
theorem ef_8 (m : MethodId) (a1 : Addr) (x : Int32) (y : Int32) (o : Addr) (w : Addr) (fi : Int32) (ru : Int32) (cl : Int32) (st : Int32) (le : Int32) (mo : Int32) : entryFrame m #[(.ref a1), (.int x), (.int y)] 6 = mkF m 0 #[.val (.ref a1), .val (.int x), .val (.int y), .unset, .unset, .unset] [] := by first | (simp [entryFrame, mkF, argsToLocals, Value.category]; done) | rfl
def Q8 (Z : State) (a1 : Addr) (x : Int32) (y : Int32) (o : Addr) (w : Addr) (ko : ClassId) (kw : ClassId) (fi : Int32) (ru : Int32) (cl : Int32) (st : Int32) (le : Int32) (mo : Int32) (lo : List Value) (lw : List Value) (h0 : Heap) (n0 : Nat) (v : Option Value) (h : Heap) (L : List Loc) : Prop := v = none ∧ Fr n0 L ∧ Keep h0 h [a1, o, w] ∧ own_C Z h a1 o w ko kw fi 1 cl st le mo (lo.set fi.toNatClampNeg (.int x)) (lw.set fi.toNatClampNeg (.int y))
set_option maxRecDepth 65536 in
set_option maxHeartbeats 40000000 in
theorem rm8 (l : Launch) (Z : State) (a0 : Array Value) (hw : ∀ d ∈ tables_1, d.before a0 Z = true) (ws : List Jvm.Cond) (a1 : Addr) (x : Int32) (y : Int32) (o : Addr) (w : Addr) (ko : ClassId) (kw : ClassId) (fi : Int32) (ru : Int32) (cl : Int32) (st : Int32) (le : Int32) (mo : Int32) (lo : List Value) (lw : List Value) (h0 : Heap) (n0 : Nat) (Z0 : n0 ≤ h0.size) (P0 : own_C Z h0 a1 o w ko kw fi ru cl st le mo lo lw) (hru : ru = 0) (hfi : fi = 0 ∨ fi = 1) (hlo : lo.length = 4) (hlw : lw.length = 4) (n1 : a1 ≠ o) (n2 : a1 ≠ w) (n3 : o ≠ w) (g_a1 : n0 ≤ a1) (g_o : n0 ≤ o) (g_w : n0 ≤ w) :
    MetFree l (⟨"com/example/fettle/fettle/regex/Counts", "addRun", "(II)V"⟩ : MethodName) (head1 (Jvm.Cond.code (⟨"com/example/fettle/fettle/regex/Counts", "addRun", "(II)V"⟩ : MethodName) prog_24_method_11_code 6 none :: ws) ({ frames := 1, cells := 0, slots := 0, locals := 14 } : Room)) (fun α υ => α = #[(.ref a1), (.int x), (.int y)] ∧ Z.Warmed39 υ.vm ∧ υ.heap = h0) (fun _ _ _ _ _ => True) (fun _ υ ω υ' => ∃ v L, ω = .returned v ∧ Q8 Z a1 x y o w ko kw fi ru cl st le mo lo lw h0 n0 v υ'.heap L ∧ FrameEnd υ ω υ' L ({ frames := 1, cells := 0, slots := 0, locals := 14 } : Room).cells ({ frames := 1, cells := 0, slots := 0, locals := 14 } : Room).slots) := by
  refine MetFree.of_bodySF (plainFor_of_name pn_com_example_fettle_fettle_regex_Counts) hisR ?_
  intro p e s m args below meth c s₁ Bd hml0 hP hK
  obtain ⟨rfl, hZ, hh⟩ := hP
  have hx := Bd.exec
  have hby := Bd.bytes
  have hml : c.maxLocals = 6 := hml0
  have hown : s.vm.findClass "com/example/fettle/fettle/regex/Counts" = some m.cls := findClass_of_methodNamed Bd.named
  have hnm := (name_of_methodNamed Bd.named Bd.method).1
  have X0 : Stand p l e ({ frames := 1, cells := 0, slots := 0, locals := 14 } : Room) s m #[(.ref a1), (.int x), (.int y)] below meth c s₁ [] 0 0 := Stand.of_body Bd
  have e0 : s₁.heap = h0 := by rw [← hh, Bd.state]; rfl
  have N0 := Fr.nil n0
  have pre0 : ∀ τ, Steps p.tables e below (s₁.setTop (mkF m 0 #[.val (.ref a1), .val (.int x), .val (.int y), .unset, .unset, .unset] [])) τ → Steps p.tables e below (s₁.setTop (entryFrame m #[(.ref a1), (.int x), (.int y)] 6)) τ := fun τ κ => castTop (ef_8 m a1 x y o w fi ru cl st le mo) κ
  obtain ⟨E_a1, F_oldest_a1, F_newest_a1, F_first_a1, F_runs_a1, F_clock_a1, F_starting_a1, F_least_a1, F_most_a1, V_o_a1, V_w_a1⟩ := P0
  have Kp0 : Keep h0 h0 [a1, o, w] := Keep.refl _ _
  have Fx_runs_a1 : Fld Z h0 a1 "com/example/fettle/fettle/regex/Counts" "runs" "I" (.int (0 : Int32)) := by have q := F_runs_a1; rw [hru] at q; exact q
  have pre1 := fun τ (κ : Steps p.tables e below (s₁.setTop (mkF m 1 #[.val (.ref a1), .val (.int x), .val (.int y), .unset, .unset, .unset] [(.ref a1)])) τ) => pre0 τ (by
    refine XS.aloadN X0.here hx rfl (hb hby d8_0) rfl rfl ?_
    show Steps p.tables e below (s₁.setTop (mkF m 1 #[.val (.ref a1), .val (.int x), .val (.int y), .unset, .unset, .unset] [(.ref a1)])) _
    exact κ)
  obtain ⟨T2, X2, e2, st2⟩ := getF X0 hx hZ hown (host := "") (Or.inl (hw _ (List.mem_of_getElem? (i := 28) rfl))) Via.refl e0 Fx_runs_a1 (g := (mkF m 1 #[.val (.ref a1), .val (.int x), .val (.int y), .unset, .unset, .unset] [(.ref a1)])) rfl rfl (hb hby d8_1)
  have pre3 := fun τ (κ : Steps p.tables e below (T2.setTop (mkF m 4 #[.val (.ref a1), .val (.int x), .val (.int y), .unset, .unset, .unset] [(.int (0 : Int32))])) τ) => pre1 τ (st2 _ κ)
  have pre4 := fun τ (κ : Steps p.tables e below (T2.setTop (mkF m 5 #[.val (.ref a1), .val (.int x), .val (.int y), .unset, .unset, .unset] [(.ref a1), (.int (0 : Int32))])) τ) => pre3 τ (by
    refine XS.aloadN X2.here hx rfl (hb hby d8_4) rfl rfl ?_
    show Steps p.tables e below (T2.setTop (mkF m 5 #[.val (.ref a1), .val (.int x), .val (.int y), .unset, .unset, .unset] [(.ref a1), (.int (0 : Int32))])) _
    exact κ)
  obtain ⟨T5, X5, e5, st5⟩ := getF X2 hx hZ hown (host := "") (Or.inl (hw _ (List.mem_of_getElem? (i := 15) rfl))) Via.refl e2 F_oldest_a1 (g := (mkF m 5 #[.val (.ref a1), .val (.int x), .val (.int y), .unset, .unset, .unset] [(.ref a1), (.int (0 : Int32))])) rfl rfl (hb hby d8_5)
  have pre6 := fun τ (κ : Steps p.tables e below (T5.setTop (mkF m 8 #[.val (.ref a1), .val (.int x), .val (.int y), .unset, .unset, .unset] [(.ref o), (.int (0 : Int32))])) τ) => pre4 τ (st5 _ κ)
  obtain ⟨cl7, Ar7, -, S7, M7, -, -⟩ := id V_o_a1
  have pre8 := fun τ (κ : Steps p.tables e below (T5.setTop (mkF m 97 #[.val (.ref a1), .val (.int x), .val (.int y), .unset, .unset, .unset] [(.ref a1)])) τ) => pre6 τ (by
    refine X5.arraylength hx (by rw [e5]; exact Ar7.1) (State.isArrayOf_alike hZ.alike Ar7.2.1) (g := (mkF m 8 #[.val (.ref a1), .val (.int x), .val (.int y), .unset, .unset, .unset] [(.ref o), (.int (0 : Int32))])) rfl rfl (hb hby d8_8) _ ?_
    rw [len_of S7 M7]
    show Steps p.tables e below (T5.setTop (mkF m 9 #[.val (.ref a1), .val (.int x), .val (.int y), .unset, .unset, .unset] [(.int (4 : Int32)), (.int (0 : Int32))])) _
    refine XS.icmpYes X5.here hx rfl (pc0 := 9) (pc' := 96) rfl (hb hby d8_9) rfl (feq (by decide)).2 (by decide) (by decide) ?_
    show Steps p.tables e below (T5.setTop (mkF m 96 #[.val (.ref a1), .val (.int x), .val (.int y), .unset, .unset, .unset] [])) _
    refine XS.aloadN X5.here hx rfl (hb hby d8_96) rfl rfl ?_
    show Steps p.tables e below (T5.setTop (mkF m 97 #[.val (.ref a1), .val (.int x), .val (.int y), .unset, .unset, .unset] [(.ref a1)])) _
    exact κ)
  obtain ⟨T9, X9, e9, st9⟩ := getF X5 hx hZ hown (host := "") (Or.inl (hw _ (List.mem_of_getElem? (i := 15) rfl))) Via.refl e5 F_oldest_a1 (g := (mkF m 97 #[.val (.ref a1), .val (.int x), .val (.int y), .unset, .unset, .unset] [(.ref a1)])) rfl rfl (hb hby d8_97)
  have pre10 := fun τ (κ : Steps p.tables e below (T9.setTop (mkF m 100 #[.val (.ref a1), .val (.int x), .val (.int y), .unset, .unset, .unset] [(.ref o)])) τ) => pre8 τ (st9 _ κ)
  have pre11 := fun τ (κ : Steps p.tables e below (T9.setTop (mkF m 102 #[.val (.ref a1), .val (.int x), .val (.int y), .unset, .unset, .unset] [(.ref a1), (.ref a1), (.ref o)])) τ) => pre10 τ (by
    refine XS.aloadN X9.here hx rfl (hb hby d8_100) rfl rfl ?_
    show Steps p.tables e below (T9.setTop (mkF m 101 #[.val (.ref a1), .val (.int x), .val (.int y), .unset, .unset, .unset] [(.ref a1), (.ref o)])) _
    refine XS.aloadN X9.here hx rfl (hb hby d8_101) rfl rfl ?_
    show Steps p.tables e below (T9.setTop (mkF m 102 #[.val (.ref a1), .val (.int x), .val (.int y), .unset, .unset, .unset] [(.ref a1), (.ref a1), (.ref o)])) _
    exact κ)
  obtain ⟨T12, X12, e12, st12⟩ := getF X9 hx hZ hown (host := "") (Or.inl (hw _ (List.mem_of_getElem? (i := 28) rfl))) Via.refl e9 Fx_runs_a1 (g := (mkF m 102 #[.val (.ref a1), .val (.int x), .val (.int y), .unset, .unset, .unset] [(.ref a1), (.ref a1), (.ref o)])) rfl rfl (hb hby d8_102)
  have pre13 := fun τ (κ : Steps p.tables e below (T12.setTop (mkF m 105 #[.val (.ref a1), .val (.int x), .val (.int y), .unset, .unset, .unset] [(.int (0 : Int32)), (.ref a1), (.ref o)])) τ) => pre11 τ (st12 _ κ)
  obtain ⟨cq14, q14, q14'⟩ := E_a1.cell
  obtain ⟨_, _, ⟨T14, L14, k14, n14⟩, -, X14, ⟨Lc14, hQ14, l14, y14, z14⟩, st14⟩ := X12.privateBack hx (y := (⟨"com/example/fettle/fettle/regex/Counts", "index", "(I)I"⟩ : MethodName)) hown (mvT hZ (hw _ (List.mem_of_getElem? (i := 52) rfl))) (mvT hZ (hw _ (List.mem_of_getElem? (i := 53) rfl))) (own_sel hZ (hw _ (List.mem_of_getElem? (i := 6) rfl)) (hw _ (List.mem_of_getElem? (i := 54) rfl)) (hw _ (List.mem_of_getElem? (i := 53) rfl)) (by decide)) (Cond.privateMethod_at (mvP hZ (hw _ (List.mem_of_getElem? (i := 54) rfl)) (args := #[]))) (mvT hZ (hw _ (List.mem_of_getElem? (i := 55) rfl))) (by decide) (backOf (W := 1) (rm9 l Z a0 hw [] a1 (0 : Int32) o ko fi lo h0 n0 Z0 F_first_a1 F_oldest_a1 V_o_a1) hZ (hw _ (List.mem_of_getElem? (i := 55) rfl)) (hw _ (List.mem_of_getElem? (i := 7) rfl)) (by decide) (by decide)) (g := (mkF m 105 #[.val (.ref a1), .val (.int x), .val (.int y), .unset, .unset, .unset] [(.int (0 : Int32)), (.ref a1), (.ref o)])) rfl (by rw [hml]; rfl) (Steps.refl _) (a := a1) (by rw [e12]; exact q14) q14' (argsL := [(.int (0 : Int32))]) (rest := [(.ref o)]) (lenOf pd_0 rfl) rfl (by show 2 * 0 + _ ≤ _; exact Nat.le_of_eq rfl) (hb hby d8_105) (fun _ _ => ⟨rfl, e12, (by decide : 0 + 0 ≤ _), (by decide : 0 + 0 ≤ _)⟩)
  dsimp only [Pt.U, Pt.locs, Pt.cells, Pt.slots] at X14 l14 y14 z14 st14 hQ14
  subst l14 y14 z14
  obtain ⟨rfl, Nq14, hh14⟩ := hQ14
  have E_a1_14 : Exa Z T14.heap a1 "com/example/fettle/fettle/regex/Counts" := by rw [hh14]; exact E_a1
  have F_oldest_a1_14 : Fld Z T14.heap a1 "com/example/fettle/fettle/regex/Counts" "oldest" "[I" (.ref o) := by rw [hh14]; exact F_oldest_a1
  have F_newest_a1_14 : Fld Z T14.heap a1 "com/example/fettle/fettle/regex/Counts" "newest" "[I" (.ref w) := by rw [hh14]; exact F_newest_a1
  have F_first_a1_14 : Fld Z T14.heap a1 "com/example/fettle/fettle/regex/Counts" "first" "I" (.int fi) := by rw [hh14]; exact F_first_a1
  have Fx_runs_a1_14 : Fld Z T14.heap a1 "com/example/fettle/fettle/regex/Counts" "runs" "I" (.int (0 : Int32)) := by rw [hh14]; exact Fx_runs_a1
  have F_clock_a1_14 : Fld Z T14.heap a1 "com/example/fettle/fettle/regex/Counts" "clock" "I" (.int cl) := by rw [hh14]; exact F_clock_a1
  have F_starting_a1_14 : Fld Z T14.heap a1 "com/example/fettle/fettle/regex/Counts" "starting" "Z" (.int st) := by rw [hh14]; exact F_starting_a1
  have F_least_a1_14 : Fld Z T14.heap a1 "com/example/fettle/fettle/regex/Counts" "least" "I" (.int le) := by rw [hh14]; exact F_least_a1
  have F_most_a1_14 : Fld Z T14.heap a1 "com/example/fettle/fettle/regex/Counts" "most" "I" (.int mo) := by rw [hh14]; exact F_most_a1
  have V_o_a1_14 : Arv Z T14.heap o ko .int (4 : Int32) lo (.int (0 : Int32)) := by rw [hh14]; exact V_o_a1
  have V_w_a1_14 : Arv Z T14.heap w kw .int (4 : Int32) lw (.int (0 : Int32)) := by rw [hh14]; exact V_w_a1
  have Z14 : n0 ≤ T14.heap.size := by rw [hh14]; exact Z0
  have Kp14 : Keep h0 T14.heap [a1, o, w] := by rw [hh14]; exact Kp0
  have N14 := Fr.app N0 Nq14
  have pre15 := fun τ (κ : Steps p.tables e below (T14.setTop (mkF m 108 #[.val (.ref a1), .val (.int x), .val (.int y), .unset, .unset, .unset] [(.int ((fi + (0 : Int32)) &&& ((4 : Int32) - (1 : Int32)))), (.ref o)])) τ) => pre13 τ (st14.trans κ)
  rw [show ((fi + (0 : Int32)) &&& ((4 : Int32) - (1 : Int32))) = fi from (own_fi0 hfi)] at pre15
  have pre16 := fun τ (κ : Steps p.tables e below (T14.setTop (mkF m 109 #[.val (.ref a1), .val (.int x), .val (.int y), .unset, .unset, .unset] [(.int x), (.int fi), (.ref o)])) τ) => pre15 τ (by
    refine XS.iloadN X14.here hx rfl (hb hby d8_108) rfl ?_
    show Steps p.tables e below (T14.setTop (mkF m 109 #[.val (.ref a1), .val (.int x), .val (.int y), .unset, .unset, .unset] [(.int x), (.int fi), (.ref o)])) _
    exact κ)
  have hi1 := own_fin hfi hlo
  obtain ⟨cl17, Ar17, q17, S17, M17, H17, G17⟩ := id V_o_a1_14
  have in17 : ¬ (fi < 0 ∨ cl17.slots.size ≤ (fi).toNatClampNeg) := inb_of S17 (own_fi hfi)
  obtain ⟨T18, h18, X18, e18, W18, st18⟩ := stI X14 hx hZ rfl Ar17 (j := fi) in17 (g := (mkF m 109 #[.val (.ref a1), .val (.int x), .val (.int y), .unset, .unset, .unset] [(.int x), (.int fi), (.ref o)])) rfl rfl (hb hby d8_109)
  have E_a1_18 : Exa Z h18 a1 "com/example/fettle/fettle/regex/Counts" := E_a1_14.wr W18
  have F_oldest_a1_18 : Fld Z h18 a1 "com/example/fettle/fettle/regex/Counts" "oldest" "[I" (.ref o) := F_oldest_a1_14.other W18 (Or.inl n1)
  have F_newest_a1_18 : Fld Z h18 a1 "com/example/fettle/fettle/regex/Counts" "newest" "[I" (.ref w) := F_newest_a1_14.other W18 (Or.inl n1)
  have F_first_a1_18 : Fld Z h18 a1 "com/example/fettle/fettle/regex/Counts" "first" "I" (.int fi) := F_first_a1_14.other W18 (Or.inl n1)
  have Fx_runs_a1_18 : Fld Z h18 a1 "com/example/fettle/fettle/regex/Counts" "runs" "I" (.int (0 : Int32)) := Fx_runs_a1_14.other W18 (Or.inl n1)
  have F_clock_a1_18 : Fld Z h18 a1 "com/example/fettle/fettle/regex/Counts" "clock" "I" (.int cl) := F_clock_a1_14.other W18 (Or.inl n1)
  have F_starting_a1_18 : Fld Z h18 a1 "com/example/fettle/fettle/regex/Counts" "starting" "Z" (.int st) := F_starting_a1_14.other W18 (Or.inl n1)
  have F_least_a1_18 : Fld Z h18 a1 "com/example/fettle/fettle/regex/Counts" "least" "I" (.int le) := F_least_a1_14.other W18 (Or.inl n1)
  have F_most_a1_18 : Fld Z h18 a1 "com/example/fettle/fettle/regex/Counts" "most" "I" (.int mo) := F_most_a1_14.other W18 (Or.inl n1)
  have V_w_a1_18 : Arv Z h18 w kw .int (4 : Int32) lw (.int (0 : Int32)) := V_w_a1_14.other W18 (Ne.symm n3)
  have Kp18 : Keep h0 h18 [a1, o, w] := Kp14.wr W18 (Or.inl (List.mem_of_getElem? (i := 1) rfl))
  have N18 := Fr.snoc X18 N14 g_o
  have Z18 : n0 ≤ h18.size := Nat.le_trans Z14 (Keep.of_wr W18).1
  have V_o_18 : Arv Z h18 o ko .int (4 : Int32) (lo.set fi.toNatClampNeg (.int x)) (.int (0 : Int32)) := Arv.set Ar17 q17 S17 M17 H17 G17 rfl W18 fi.toNatClampNeg (by first | rfl | assumption) (by assumption)
  have pre19 := fun τ (κ : Steps p.tables e below (T18.setTop (mkF m 110 #[.val (.ref a1), .val (.int x), .val (.int y), .unset, .unset, .unset] [])) τ) => pre16 τ (st18 _ κ)
  have pre20 := fun τ (κ : Steps p.tables e below (T18.setTop (mkF m 111 #[.val (.ref a1), .val (.int x), .val (.int y), .unset, .unset, .unset] [(.ref a1)])) τ) => pre19 τ (by
    refine XS.aloadN X18.here hx rfl (hb hby d8_110) rfl rfl ?_
    show Steps p.tables e below (T18.setTop (mkF m 111 #[.val (.ref a1), .val (.int x), .val (.int y), .unset, .unset, .unset] [(.ref a1)])) _
    exact κ)
  obtain ⟨T21, X21, e21, st21⟩ := getF X18 hx hZ hown (host := "") (Or.inl (hw _ (List.mem_of_getElem? (i := 17) rfl))) Via.refl e18 F_newest_a1_18 (g := (mkF m 111 #[.val (.ref a1), .val (.int x), .val (.int y), .unset, .unset, .unset] [(.ref a1)])) rfl rfl (hb hby d8_111)
  have pre22 := fun τ (κ : Steps p.tables e below (T21.setTop (mkF m 114 #[.val (.ref a1), .val (.int x), .val (.int y), .unset, .unset, .unset] [(.ref w)])) τ) => pre20 τ (st21 _ κ)
  have pre23 := fun τ (κ : Steps p.tables e below (T21.setTop (mkF m 116 #[.val (.ref a1), .val (.int x), .val (.int y), .unset, .unset, .unset] [(.ref a1), (.ref a1), (.ref w)])) τ) => pre22 τ (by
    refine XS.aloadN X21.here hx rfl (hb hby d8_114) rfl rfl ?_
    show Steps p.tables e below (T21.setTop (mkF m 115 #[.val (.ref a1), .val (.int x), .val (.int y), .unset, .unset, .unset] [(.ref a1), (.ref w)])) _
    refine XS.aloadN X21.here hx rfl (hb hby d8_115) rfl rfl ?_
    show Steps p.tables e below (T21.setTop (mkF m 116 #[.val (.ref a1), .val (.int x), .val (.int y), .unset, .unset, .unset] [(.ref a1), (.ref a1), (.ref w)])) _
    exact κ)
  obtain ⟨T24, X24, e24, st24⟩ := getF X21 hx hZ hown (host := "") (Or.inl (hw _ (List.mem_of_getElem? (i := 28) rfl))) Via.refl e21 Fx_runs_a1_18 (g := (mkF m 116 #[.val (.ref a1), .val (.int x), .val (.int y), .unset, .unset, .unset] [(.ref a1), (.ref a1), (.ref w)])) rfl rfl (hb hby d8_116)
  have pre25 := fun τ (κ : Steps p.tables e below (T24.setTop (mkF m 119 #[.val (.ref a1), .val (.int x), .val (.int y), .unset, .unset, .unset] [(.int (0 : Int32)), (.ref a1), (.ref w)])) τ) => pre23 τ (st24 _ κ)
  obtain ⟨cq26, q26, q26'⟩ := E_a1_18.cell
  obtain ⟨_, _, ⟨T26, L26, k26, n26⟩, -, X26, ⟨Lc26, hQ26, l26, y26, z26⟩, st26⟩ := X24.privateBack hx (y := (⟨"com/example/fettle/fettle/regex/Counts", "index", "(I)I"⟩ : MethodName)) hown (mvT hZ (hw _ (List.mem_of_getElem? (i := 52) rfl))) (mvT hZ (hw _ (List.mem_of_getElem? (i := 53) rfl))) (own_sel hZ (hw _ (List.mem_of_getElem? (i := 6) rfl)) (hw _ (List.mem_of_getElem? (i := 54) rfl)) (hw _ (List.mem_of_getElem? (i := 53) rfl)) (by decide)) (Cond.privateMethod_at (mvP hZ (hw _ (List.mem_of_getElem? (i := 54) rfl)) (args := #[]))) (mvT hZ (hw _ (List.mem_of_getElem? (i := 55) rfl))) (by decide) (backOf (W := 1) (rm9 l Z a0 hw [] a1 (0 : Int32) o ko fi (lo.set fi.toNatClampNeg (.int x)) h18 n0 Z18 F_first_a1_18 F_oldest_a1_18 V_o_18) hZ (hw _ (List.mem_of_getElem? (i := 55) rfl)) (hw _ (List.mem_of_getElem? (i := 7) rfl)) (by decide) (by decide)) (g := (mkF m 119 #[.val (.ref a1), .val (.int x), .val (.int y), .unset, .unset, .unset] [(.int (0 : Int32)), (.ref a1), (.ref w)])) rfl (by rw [hml]; rfl) (Steps.refl _) (a := a1) (by rw [e24]; exact q26) q26' (argsL := [(.int (0 : Int32))]) (rest := [(.ref w)]) (lenOf pd_0 rfl) rfl (by show 2 * 0 + _ ≤ _; exact Nat.le_of_eq rfl) (hb hby d8_119) (fun _ _ => ⟨rfl, e24, (by decide : 0 + 0 ≤ _), (by decide : 0 + 0 ≤ _)⟩)
  dsimp only [Pt.U, Pt.locs, Pt.cells, Pt.slots] at X26 l26 y26 z26 st26 hQ26
  subst l26 y26 z26
  obtain ⟨rfl, Nq26, hh26⟩ := hQ26
  have E_a1_26 : Exa Z T26.heap a1 "com/example/fettle/fettle/regex/Counts" := by rw [hh26]; exact E_a1_18
  have F_oldest_a1_26 : Fld Z T26.heap a1 "com/example/fettle/fettle/regex/Counts" "oldest" "[I" (.ref o) := by rw [hh26]; exact F_oldest_a1_18
  have F_newest_a1_26 : Fld Z T26.heap a1 "com/example/fettle/fettle/regex/Counts" "newest" "[I" (.ref w) := by rw [hh26]; exact F_newest_a1_18
  have F_first_a1_26 : Fld Z T26.heap a1 "com/example/fettle/fettle/regex/Counts" "first" "I" (.int fi) := by rw [hh26]; exact F_first_a1_18
  have Fx_runs_a1_26 : Fld Z T26.heap a1 "com/example/fettle/fettle/regex/Counts" "runs" "I" (.int (0 : Int32)) := by rw [hh26]; exact Fx_runs_a1_18
  have F_clock_a1_26 : Fld Z T26.heap a1 "com/example/fettle/fettle/regex/Counts" "clock" "I" (.int cl) := by rw [hh26]; exact F_clock_a1_18
  have F_starting_a1_26 : Fld Z T26.heap a1 "com/example/fettle/fettle/regex/Counts" "starting" "Z" (.int st) := by rw [hh26]; exact F_starting_a1_18
  have F_least_a1_26 : Fld Z T26.heap a1 "com/example/fettle/fettle/regex/Counts" "least" "I" (.int le) := by rw [hh26]; exact F_least_a1_18
  have F_most_a1_26 : Fld Z T26.heap a1 "com/example/fettle/fettle/regex/Counts" "most" "I" (.int mo) := by rw [hh26]; exact F_most_a1_18
  have V_w_a1_26 : Arv Z T26.heap w kw .int (4 : Int32) lw (.int (0 : Int32)) := by rw [hh26]; exact V_w_a1_18
  have V_o_26 : Arv Z T26.heap o ko .int (4 : Int32) (lo.set fi.toNatClampNeg (.int x)) (.int (0 : Int32)) := by rw [hh26]; exact V_o_18
  have Z26 : n0 ≤ T26.heap.size := by rw [hh26]; exact Z18
  have Kp26 : Keep h0 T26.heap [a1, o, w] := by rw [hh26]; exact Kp18
  have N26 := Fr.app N18 Nq26
  have pre27 := fun τ (κ : Steps p.tables e below (T26.setTop (mkF m 122 #[.val (.ref a1), .val (.int x), .val (.int y), .unset, .unset, .unset] [(.int ((fi + (0 : Int32)) &&& ((4 : Int32) - (1 : Int32)))), (.ref w)])) τ) => pre25 τ (st26.trans κ)
  rw [show ((fi + (0 : Int32)) &&& ((4 : Int32) - (1 : Int32))) = fi from (own_fi0 hfi)] at pre27
  have pre28 := fun τ (κ : Steps p.tables e below (T26.setTop (mkF m 123 #[.val (.ref a1), .val (.int x), .val (.int y), .unset, .unset, .unset] [(.int y), (.int fi), (.ref w)])) τ) => pre27 τ (by
    refine XS.iloadN X26.here hx rfl (hb hby d8_122) rfl ?_
    show Steps p.tables e below (T26.setTop (mkF m 123 #[.val (.ref a1), .val (.int x), .val (.int y), .unset, .unset, .unset] [(.int y), (.int fi), (.ref w)])) _
    exact κ)
  have hi2 := own_fin hfi hlw
  obtain ⟨cl29, Ar29, q29, S29, M29, H29, G29⟩ := id V_w_a1_26
  have in29 : ¬ (fi < 0 ∨ cl29.slots.size ≤ (fi).toNatClampNeg) := inb_of S29 (own_fi hfi)
  obtain ⟨T30, h30, X30, e30, W30, st30⟩ := stI X26 hx hZ rfl Ar29 (j := fi) in29 (g := (mkF m 123 #[.val (.ref a1), .val (.int x), .val (.int y), .unset, .unset, .unset] [(.int y), (.int fi), (.ref w)])) rfl rfl (hb hby d8_123)
  have E_a1_30 : Exa Z h30 a1 "com/example/fettle/fettle/regex/Counts" := E_a1_26.wr W30
  have F_oldest_a1_30 : Fld Z h30 a1 "com/example/fettle/fettle/regex/Counts" "oldest" "[I" (.ref o) := F_oldest_a1_26.other W30 (Or.inl n2)
  have F_newest_a1_30 : Fld Z h30 a1 "com/example/fettle/fettle/regex/Counts" "newest" "[I" (.ref w) := F_newest_a1_26.other W30 (Or.inl n2)
  have F_first_a1_30 : Fld Z h30 a1 "com/example/fettle/fettle/regex/Counts" "first" "I" (.int fi) := F_first_a1_26.other W30 (Or.inl n2)
  have Fx_runs_a1_30 : Fld Z h30 a1 "com/example/fettle/fettle/regex/Counts" "runs" "I" (.int (0 : Int32)) := Fx_runs_a1_26.other W30 (Or.inl n2)
  have F_clock_a1_30 : Fld Z h30 a1 "com/example/fettle/fettle/regex/Counts" "clock" "I" (.int cl) := F_clock_a1_26.other W30 (Or.inl n2)
  have F_starting_a1_30 : Fld Z h30 a1 "com/example/fettle/fettle/regex/Counts" "starting" "Z" (.int st) := F_starting_a1_26.other W30 (Or.inl n2)
  have F_least_a1_30 : Fld Z h30 a1 "com/example/fettle/fettle/regex/Counts" "least" "I" (.int le) := F_least_a1_26.other W30 (Or.inl n2)
  have F_most_a1_30 : Fld Z h30 a1 "com/example/fettle/fettle/regex/Counts" "most" "I" (.int mo) := F_most_a1_26.other W30 (Or.inl n2)
  have V_o_30 : Arv Z h30 o ko .int (4 : Int32) (lo.set fi.toNatClampNeg (.int x)) (.int (0 : Int32)) := V_o_26.other W30 n3
  have Kp30 : Keep h0 h30 [a1, o, w] := Kp26.wr W30 (Or.inl (List.mem_of_getElem? (i := 2) rfl))
  have N30 := Fr.snoc X30 N26 g_w
  have Z30 : n0 ≤ h30.size := Nat.le_trans Z26 (Keep.of_wr W30).1
  have V_w_30 : Arv Z h30 w kw .int (4 : Int32) (lw.set fi.toNatClampNeg (.int y)) (.int (0 : Int32)) := Arv.set Ar29 q29 S29 M29 H29 G29 rfl W30 fi.toNatClampNeg (by first | rfl | assumption) (by assumption)
  have pre31 := fun τ (κ : Steps p.tables e below (T30.setTop (mkF m 124 #[.val (.ref a1), .val (.int x), .val (.int y), .unset, .unset, .unset] [])) τ) => pre28 τ (st30 _ κ)
  have pre32 := fun τ (κ : Steps p.tables e below (T30.setTop (mkF m 126 #[.val (.ref a1), .val (.int x), .val (.int y), .unset, .unset, .unset] [(.ref a1), (.ref a1)])) τ) => pre31 τ (by
    refine XS.aloadN X30.here hx rfl (hb hby d8_124) rfl rfl ?_
    show Steps p.tables e below (T30.setTop (mkF m 125 #[.val (.ref a1), .val (.int x), .val (.int y), .unset, .unset, .unset] [(.ref a1)])) _
    refine XS.dup X30.here hx rfl (hb hby d8_125) rfl rfl ?_
    show Steps p.tables e below (T30.setTop (mkF m 126 #[.val (.ref a1), .val (.int x), .val (.int y), .unset, .unset, .unset] [(.ref a1), (.ref a1)])) _
    exact κ)
  obtain ⟨T33, X33, e33, st33⟩ := getF X30 hx hZ hown (host := "") (Or.inl (hw _ (List.mem_of_getElem? (i := 28) rfl))) Via.refl e30 Fx_runs_a1_30 (g := (mkF m 126 #[.val (.ref a1), .val (.int x), .val (.int y), .unset, .unset, .unset] [(.ref a1), (.ref a1)])) rfl rfl (hb hby d8_126)
  have pre34 := fun τ (κ : Steps p.tables e below (T33.setTop (mkF m 129 #[.val (.ref a1), .val (.int x), .val (.int y), .unset, .unset, .unset] [(.int (0 : Int32)), (.ref a1)])) τ) => pre32 τ (st33 _ κ)
  have pre35 := fun τ (κ : Steps p.tables e below (T33.setTop (mkF m 131 #[.val (.ref a1), .val (.int x), .val (.int y), .unset, .unset, .unset] [(.int ((0 : Int32) + (1 : Int32))), (.ref a1)])) τ) => pre34 τ (by
    refine XS.iconst X33.here hx rfl (hb hby d8_129) ?_
    show Steps p.tables e below (T33.setTop (mkF m 130 #[.val (.ref a1), .val (.int x), .val (.int y), .unset, .unset, .unset] [(.int (1 : Int32)), (.int (0 : Int32)), (.ref a1)])) _
    refine XS.iadd X33.here hx rfl (hb hby d8_130) rfl ?_
    show Steps p.tables e below (T33.setTop (mkF m 131 #[.val (.ref a1), .val (.int x), .val (.int y), .unset, .unset, .unset] [(.int ((0 : Int32) + (1 : Int32))), (.ref a1)])) _
    exact κ)
  rw [show ((0 : Int32) + (1 : Int32)) = (1 : Int32) from (by decide)] at pre35
  obtain ⟨T36, h36, X36, e36, W36, st36⟩ := putF X33 hx hZ hown (host := "") (Or.inl (hw _ (List.mem_of_getElem? (i := 28) rfl))) Via.refl e33 Fx_runs_a1_30 E_a1_30 (Or.inl (hw _ (List.mem_of_getElem? (i := 29) rfl))) (hw _ (List.mem_of_getElem? (i := 6) rfl)) (ty := .int) (by decide) rfl rfl (g := (mkF m 131 #[.val (.ref a1), .val (.int x), .val (.int y), .unset, .unset, .unset] [(.int (1 : Int32)), (.ref a1)])) rfl rfl (hb hby d8_131)
  have E_a1_36 : Exa Z h36 a1 "com/example/fettle/fettle/regex/Counts" := E_a1_30.wr W36
  have F_oldest_a1_36 : Fld Z h36 a1 "com/example/fettle/fettle/regex/Counts" "oldest" "[I" (.ref o) := F_oldest_a1_30.other W36 (Or.inr (slot_ne (Or.inl (hw _ (List.mem_of_getElem? (i := 16) rfl))) (Or.inl (hw _ (List.mem_of_getElem? (i := 29) rfl))) (by decide) (t := (.array .int)) (t' := .int) (by decide) (by decide)))
  have F_newest_a1_36 : Fld Z h36 a1 "com/example/fettle/fettle/regex/Counts" "newest" "[I" (.ref w) := F_newest_a1_30.other W36 (Or.inr (slot_ne (Or.inl (hw _ (List.mem_of_getElem? (i := 18) rfl))) (Or.inl (hw _ (List.mem_of_getElem? (i := 29) rfl))) (by decide) (t := (.array .int)) (t' := .int) (by decide) (by decide)))
  have F_first_a1_36 : Fld Z h36 a1 "com/example/fettle/fettle/regex/Counts" "first" "I" (.int fi) := F_first_a1_30.other W36 (Or.inr (slot_ne (Or.inl (hw _ (List.mem_of_getElem? (i := 57) rfl))) (Or.inl (hw _ (List.mem_of_getElem? (i := 29) rfl))) (by decide) (t := .int) (t' := .int) (by decide) (by decide)))
  have F_clock_a1_36 : Fld Z h36 a1 "com/example/fettle/fettle/regex/Counts" "clock" "I" (.int cl) := F_clock_a1_30.other W36 (Or.inr (slot_ne (Or.inl (hw _ (List.mem_of_getElem? (i := 47) rfl))) (Or.inl (hw _ (List.mem_of_getElem? (i := 29) rfl))) (by decide) (t := .int) (t' := .int) (by decide) (by decide)))
  have F_starting_a1_36 : Fld Z h36 a1 "com/example/fettle/fettle/regex/Counts" "starting" "Z" (.int st) := F_starting_a1_30.other W36 (Or.inr (slot_ne (Or.inl (hw _ (List.mem_of_getElem? (i := 31) rfl))) (Or.inl (hw _ (List.mem_of_getElem? (i := 29) rfl))) (by decide) (t := .boolean) (t' := .int) (by decide) (by decide)))
  have F_least_a1_36 : Fld Z h36 a1 "com/example/fettle/fettle/regex/Counts" "least" "I" (.int le) := F_least_a1_30.other W36 (Or.inr (slot_ne (Or.inr (hw _ (List.mem_of_getElem? (i := 20) rfl))) (Or.inl (hw _ (List.mem_of_getElem? (i := 29) rfl))) (by decide) (t := .int) (t' := .int) (by decide) (by decide)))
  have F_most_a1_36 : Fld Z h36 a1 "com/example/fettle/fettle/regex/Counts" "most" "I" (.int mo) := F_most_a1_30.other W36 (Or.inr (slot_ne (Or.inr (hw _ (List.mem_of_getElem? (i := 22) rfl))) (Or.inl (hw _ (List.mem_of_getElem? (i := 29) rfl))) (by decide) (t := .int) (t' := .int) (by decide) (by decide)))
  have V_o_36 : Arv Z h36 o ko .int (4 : Int32) (lo.set fi.toNatClampNeg (.int x)) (.int (0 : Int32)) := V_o_30.other W36 (Ne.symm n1)
  have V_w_36 : Arv Z h36 w kw .int (4 : Int32) (lw.set fi.toNatClampNeg (.int y)) (.int (0 : Int32)) := V_w_30.other W36 (Ne.symm n2)
  have Kp36 : Keep h0 h36 [a1, o, w] := Kp30.wr W36 (Or.inl (List.mem_of_getElem? (i := 0) rfl))
  have N36 := Fr.snoc X36 N30 g_a1
  have Z36 : n0 ≤ h36.size := Nat.le_trans Z30 (Keep.of_wr W36).1
  have F_runs_a1_36 : Fld Z h36 a1 "com/example/fettle/fettle/regex/Counts" "runs" "I" (.int (1 : Int32)) := Fx_runs_a1_30.same W36
  have pre37 := fun τ (κ : Steps p.tables e below (T36.setTop (mkF m 134 #[.val (.ref a1), .val (.int x), .val (.int y), .unset, .unset, .unset] [])) τ) => pre35 τ (st36 _ κ)
  obtain ⟨fs, hr, hrun, hended, hW, hsame⟩ := X36.leave (v := none) (fun _ => rfl)
  refine ⟨_, _, pre37 _ ?_, hrun, hended, _, _, rfl, ?_, ⟨_, rfl⟩, hW, hsame.mono (by decide) (by decide)⟩
  · exact X36.returnOut hx Bd.returns (hb hby d8_134) hr
  · show Q8 Z a1 x y o w ko kw fi ru cl st le mo lo lw h0 n0 _ T36.heap _
    rw [e36]
    exact ⟨rfl, N36, Kp36, ⟨E_a1_36, F_oldest_a1_36, F_newest_a1_36, F_first_a1_36, F_runs_a1_36, F_clock_a1_36, F_starting_a1_36, F_least_a1_36, F_most_a1_36, V_o_36, V_w_36⟩⟩
theorem ef_7a (m : MethodId) (a1 : Addr) (o : Addr) (w : Addr) (fi : Int32) (ru : Int32) (cl : Int32) (st : Int32) (le : Int32) (mo : Int32) : entryFrame m #[(.ref a1)] 1 = mkF m 0 #[.val (.ref a1)] [] := by first | (simp [entryFrame, mkF, argsToLocals, Value.category]; done) | rfl
def Q7a (Z : State) (a1 : Addr) (o : Addr) (w : Addr) (ko : ClassId) (kw : ClassId) (fi : Int32) (ru : Int32) (cl : Int32) (st : Int32) (le : Int32) (mo : Int32) (lo : List Value) (lw : List Value) (h0 : Heap) (n0 : Nat) (v : Option Value) (h : Heap) (L : List Loc) : Prop := v = none ∧ Fr n0 L ∧ Keep h0 h [a1, o, w] ∧ own_C Z h a1 o w ko kw fi 1 cl st le mo (lo.set fi.toNatClampNeg (.int cl)) (lw.set fi.toNatClampNeg (.int cl))
set_option maxRecDepth 65536 in
set_option maxHeartbeats 40000000 in
theorem rm7a (l : Launch) (Z : State) (a0 : Array Value) (hw : ∀ d ∈ tables_1, d.before a0 Z = true) (ws : List Jvm.Cond) (a1 : Addr) (o : Addr) (w : Addr) (ko : ClassId) (kw : ClassId) (fi : Int32) (ru : Int32) (cl : Int32) (st : Int32) (le : Int32) (mo : Int32) (lo : List Value) (lw : List Value) (h0 : Heap) (n0 : Nat) (Z0 : n0 ≤ h0.size) (P0 : own_C Z h0 a1 o w ko kw fi ru cl st le mo lo lw) (h7 : le = 0 ∨ ru = 0) (hfi : fi = 0 ∨ fi = 1) (hlo : lo.length = 4) (hlw : lw.length = 4) (n1 : a1 ≠ o) (n2 : a1 ≠ w) (n3 : o ≠ w) (g_a1 : n0 ≤ a1) (g_o : n0 ≤ o) (g_w : n0 ≤ w) :
    MetFree l (⟨"com/example/fettle/fettle/regex/Counts", "addStarted", "()V"⟩ : MethodName) (head1 (Jvm.Cond.code (⟨"com/example/fettle/fettle/regex/Counts", "addStarted", "()V"⟩ : MethodName) prog_24_method_6_code 1 none :: ws) ({ frames := 2, cells := 0, slots := 0, locals := 31 } : Room)) (fun α υ => α = #[(.ref a1)] ∧ Z.Warmed39 υ.vm ∧ υ.heap = h0) (fun _ _ _ _ _ => True) (fun _ υ ω υ' => ∃ v L, ω = .returned v ∧ Q7a Z a1 o w ko kw fi ru cl st le mo lo lw h0 n0 v υ'.heap L ∧ FrameEnd υ ω υ' L ({ frames := 2, cells := 0, slots := 0, locals := 31 } : Room).cells ({ frames := 2, cells := 0, slots := 0, locals := 31 } : Room).slots) := by
  refine MetFree.of_bodySF (plainFor_of_name pn_com_example_fettle_fettle_regex_Counts) hisR ?_
  intro p e s m args below meth c s₁ Bd hml0 hP hK
  obtain ⟨rfl, hZ, hh⟩ := hP
  have hx := Bd.exec
  have hby := Bd.bytes
  have hml : c.maxLocals = 1 := hml0
  have hown : s.vm.findClass "com/example/fettle/fettle/regex/Counts" = some m.cls := findClass_of_methodNamed Bd.named
  have hnm := (name_of_methodNamed Bd.named Bd.method).1
  have X0 : Stand p l e ({ frames := 2, cells := 0, slots := 0, locals := 31 } : Room) s m #[(.ref a1)] below meth c s₁ [] 0 0 := Stand.of_body Bd
  have e0 : s₁.heap = h0 := by rw [← hh, Bd.state]; rfl
  have N0 := Fr.nil n0
  have pre0 : ∀ τ, Steps p.tables e below (s₁.setTop (mkF m 0 #[.val (.ref a1)] [])) τ → Steps p.tables e below (s₁.setTop (entryFrame m #[(.ref a1)] 1)) τ := fun τ κ => castTop (ef_7a m a1 o w fi ru cl st le mo) κ
  obtain ⟨E_a1, F_oldest_a1, F_newest_a1, F_first_a1, F_runs_a1, F_clock_a1, F_starting_a1, F_least_a1, F_most_a1, V_o_a1, V_w_a1⟩ := P0
  have Kp0 : Keep h0 h0 [a1, o, w] := Keep.refl _ _
  have pre1 := fun τ (κ : Steps p.tables e below (s₁.setTop (mkF m 1 #[.val (.ref a1)] [(.ref a1)])) τ) => pre0 τ (by
    refine XS.aloadN X0.here hx rfl (hb hby d7_0) rfl rfl ?_
    show Steps p.tables e below (s₁.setTop (mkF m 1 #[.val (.ref a1)] [(.ref a1)])) _
    exact κ)
  obtain ⟨T2, X2, e2, st2⟩ := getF X0 hx hZ hown (host := "") (Or.inl (hw _ (List.mem_of_getElem? (i := 19) rfl))) Via.refl e0 F_least_a1 (g := (mkF m 1 #[.val (.ref a1)] [(.ref a1)])) rfl rfl (hb hby d7_1)
  have pre3 := fun τ (κ : Steps p.tables e below (T2.setTop (mkF m 4 #[.val (.ref a1)] [(.int le)])) τ) => pre1 τ (st2 _ κ)
  obtain ⟨T4, h4, lo4, X4, e4, N4, Z4, Kp4, E_a1_4, F_oldest_a1_4, F_newest_a1_4, F_first_a1_4, F_clock_a1_4, F_starting_a1_4, F_least_a1_4, F_most_a1_4, V_o_a1_4, V_w_a1_4, F_runs_a1_4, pre4⟩ : ∃ (T4 : State) (h4 : Heap) (lo4 : List Loc), Stand p l e ({ frames := 2, cells := 0, slots := 0, locals := 31 } : Room) s m #[(.ref a1)] below meth c T4 lo4 (0) (0) ∧ T4.heap = h4 ∧ Fr n0 lo4 ∧ n0 ≤ h4.size ∧ Keep h0 h4 [a1, o, w] ∧ (Exa Z h4 a1 "com/example/fettle/fettle/regex/Counts") ∧ (Fld Z h4 a1 "com/example/fettle/fettle/regex/Counts" "oldest" "[I" (.ref o)) ∧ (Fld Z h4 a1 "com/example/fettle/fettle/regex/Counts" "newest" "[I" (.ref w)) ∧ (Fld Z h4 a1 "com/example/fettle/fettle/regex/Counts" "first" "I" (.int fi)) ∧ (Fld Z h4 a1 "com/example/fettle/fettle/regex/Counts" "clock" "I" (.int cl)) ∧ (Fld Z h4 a1 "com/example/fettle/fettle/regex/Counts" "starting" "Z" (.int st)) ∧ (Fld Z h4 a1 "com/example/fettle/fettle/regex/Counts" "least" "I" (.int le)) ∧ (Fld Z h4 a1 "com/example/fettle/fettle/regex/Counts" "most" "I" (.int mo)) ∧ (Arv Z h4 o ko .int (4 : Int32) lo (.int (0 : Int32))) ∧ (Arv Z h4 w kw .int (4 : Int32) lw (.int (0 : Int32))) ∧ (Fld Z h4 a1 "com/example/fettle/fettle/regex/Counts" "runs" "I" (.int (0 : Int32))) ∧ ∀ τ, Steps p.tables e below (T4.setTop (mkF m 12 #[.val (.ref a1)] [])) τ → Steps p.tables e below (s₁.setTop (entryFrame m #[(.ref a1)] 1)) τ := by
    by_cases q1 : le = (0 : Int32)
    · have pre5 := fun τ (κ : Steps p.tables e below (T2.setTop (mkF m 9 #[.val (.ref a1)] [(.int (0 : Int32)), (.ref a1)])) τ) => pre3 τ (by
        refine XS.ifNo X2.here hx rfl (hb hby d7_4) rfl ((if0 _ _).trans (teq q1).2) ?_
        show Steps p.tables e below (T2.setTop (mkF m 7 #[.val (.ref a1)] [])) _
        refine XS.aloadN X2.here hx rfl (hb hby d7_7) rfl rfl ?_
        show Steps p.tables e below (T2.setTop (mkF m 8 #[.val (.ref a1)] [(.ref a1)])) _
        refine XS.iconst X2.here hx rfl (hb hby d7_8) ?_
        show Steps p.tables e below (T2.setTop (mkF m 9 #[.val (.ref a1)] [(.int (0 : Int32)), (.ref a1)])) _
        exact κ)
      obtain ⟨T6, h6, X6, e6, W6, st6⟩ := putF X2 hx hZ hown (host := "") (Or.inl (hw _ (List.mem_of_getElem? (i := 28) rfl))) Via.refl e2 F_runs_a1 E_a1 (Or.inl (hw _ (List.mem_of_getElem? (i := 29) rfl))) (hw _ (List.mem_of_getElem? (i := 6) rfl)) (ty := .int) (by decide) rfl rfl (g := (mkF m 9 #[.val (.ref a1)] [(.int (0 : Int32)), (.ref a1)])) rfl rfl (hb hby d7_9)
      have E_a1_6 : Exa Z h6 a1 "com/example/fettle/fettle/regex/Counts" := E_a1.wr W6
      have F_oldest_a1_6 : Fld Z h6 a1 "com/example/fettle/fettle/regex/Counts" "oldest" "[I" (.ref o) := F_oldest_a1.other W6 (Or.inr (slot_ne (Or.inl (hw _ (List.mem_of_getElem? (i := 16) rfl))) (Or.inl (hw _ (List.mem_of_getElem? (i := 29) rfl))) (by decide) (t := (.array .int)) (t' := .int) (by decide) (by decide)))
      have F_newest_a1_6 : Fld Z h6 a1 "com/example/fettle/fettle/regex/Counts" "newest" "[I" (.ref w) := F_newest_a1.other W6 (Or.inr (slot_ne (Or.inl (hw _ (List.mem_of_getElem? (i := 18) rfl))) (Or.inl (hw _ (List.mem_of_getElem? (i := 29) rfl))) (by decide) (t := (.array .int)) (t' := .int) (by decide) (by decide)))
      have F_first_a1_6 : Fld Z h6 a1 "com/example/fettle/fettle/regex/Counts" "first" "I" (.int fi) := F_first_a1.other W6 (Or.inr (slot_ne (Or.inl (hw _ (List.mem_of_getElem? (i := 57) rfl))) (Or.inl (hw _ (List.mem_of_getElem? (i := 29) rfl))) (by decide) (t := .int) (t' := .int) (by decide) (by decide)))
      have F_clock_a1_6 : Fld Z h6 a1 "com/example/fettle/fettle/regex/Counts" "clock" "I" (.int cl) := F_clock_a1.other W6 (Or.inr (slot_ne (Or.inl (hw _ (List.mem_of_getElem? (i := 47) rfl))) (Or.inl (hw _ (List.mem_of_getElem? (i := 29) rfl))) (by decide) (t := .int) (t' := .int) (by decide) (by decide)))
      have F_starting_a1_6 : Fld Z h6 a1 "com/example/fettle/fettle/regex/Counts" "starting" "Z" (.int st) := F_starting_a1.other W6 (Or.inr (slot_ne (Or.inl (hw _ (List.mem_of_getElem? (i := 31) rfl))) (Or.inl (hw _ (List.mem_of_getElem? (i := 29) rfl))) (by decide) (t := .boolean) (t' := .int) (by decide) (by decide)))
      have F_least_a1_6 : Fld Z h6 a1 "com/example/fettle/fettle/regex/Counts" "least" "I" (.int le) := F_least_a1.other W6 (Or.inr (slot_ne (Or.inr (hw _ (List.mem_of_getElem? (i := 20) rfl))) (Or.inl (hw _ (List.mem_of_getElem? (i := 29) rfl))) (by decide) (t := .int) (t' := .int) (by decide) (by decide)))
      have F_most_a1_6 : Fld Z h6 a1 "com/example/fettle/fettle/regex/Counts" "most" "I" (.int mo) := F_most_a1.other W6 (Or.inr (slot_ne (Or.inr (hw _ (List.mem_of_getElem? (i := 22) rfl))) (Or.inl (hw _ (List.mem_of_getElem? (i := 29) rfl))) (by decide) (t := .int) (t' := .int) (by decide) (by decide)))
      have V_o_a1_6 : Arv Z h6 o ko .int (4 : Int32) lo (.int (0 : Int32)) := V_o_a1.other W6 (Ne.symm n1)
      have V_w_a1_6 : Arv Z h6 w kw .int (4 : Int32) lw (.int (0 : Int32)) := V_w_a1.other W6 (Ne.symm n2)
      have Kp6 : Keep h0 h6 [a1, o, w] := Kp0.wr W6 (Or.inl (List.mem_of_getElem? (i := 0) rfl))
      have N6 := Fr.snoc X6 N0 g_a1
      have Z6 : n0 ≤ h6.size := Nat.le_trans Z0 (Keep.of_wr W6).1
      have F_runs_a1_6 : Fld Z h6 a1 "com/example/fettle/fettle/regex/Counts" "runs" "I" (.int (0 : Int32)) := F_runs_a1.same W6
      have pre7 := fun τ (κ : Steps p.tables e below (T6.setTop (mkF m 12 #[.val (.ref a1)] [])) τ) => pre5 τ (st6 _ κ)
      exact ⟨T6, h6, _, X6, e6, N6, Z6, Kp6, E_a1_6, F_oldest_a1_6, F_newest_a1_6, F_first_a1_6, F_clock_a1_6, F_starting_a1_6, F_least_a1_6, F_most_a1_6, V_o_a1_6, V_w_a1_6, F_runs_a1_6, pre7⟩
    · have hr0 := h7.resolve_left q1
      have pre8 := fun τ (κ : Steps p.tables e below (T2.setTop (mkF m 12 #[.val (.ref a1)] [])) τ) => pre3 τ (by
        refine XS.ifYes X2.here hx rfl (pc0 := 4) (pc' := 12) rfl (hb hby d7_4) rfl ((if0 _ _).trans (feq q1).2) (by decide) (by decide) ?_
        show Steps p.tables e below (T2.setTop (mkF m 12 #[.val (.ref a1)] [])) _
        exact κ)
      subst hr0
      exact ⟨T2, h0, _, X2, e2, N0, Z0, Kp0, E_a1, F_oldest_a1, F_newest_a1, F_first_a1, F_clock_a1, F_starting_a1, F_least_a1, F_most_a1, V_o_a1, V_w_a1, F_runs_a1, pre8⟩
  have pre9 := fun τ (κ : Steps p.tables e below (T4.setTop (mkF m 13 #[.val (.ref a1)] [(.ref a1)])) τ) => pre4 τ (by
    refine XS.aloadN X4.here hx rfl (hb hby d7_12) rfl rfl ?_
    show Steps p.tables e below (T4.setTop (mkF m 13 #[.val (.ref a1)] [(.ref a1)])) _
    exact κ)
  obtain ⟨T10, X10, e10, st10⟩ := getF X4 hx hZ hown (host := "") (Or.inl (hw _ (List.mem_of_getElem? (i := 28) rfl))) Via.refl e4 F_runs_a1_4 (g := (mkF m 13 #[.val (.ref a1)] [(.ref a1)])) rfl rfl (hb hby d7_13)
  have pre11 := fun τ (κ : Steps p.tables e below (T10.setTop (mkF m 16 #[.val (.ref a1)] [(.int (0 : Int32))])) τ) => pre9 τ (st10 _ κ)
  have pre12 := fun τ (κ : Steps p.tables e below (T10.setTop (mkF m 67 #[.val (.ref a1)] [(.ref a1), (.ref a1)])) τ) => pre11 τ (by
    refine XS.ifYes X10.here hx rfl (pc0 := 16) (pc' := 65) rfl (hb hby d7_16) rfl ((if0 _ _).trans (flt (by decide)).2.2.2) (by decide) (by decide) ?_
    show Steps p.tables e below (T10.setTop (mkF m 65 #[.val (.ref a1)] [])) _
    refine XS.aloadN X10.here hx rfl (hb hby d7_65) rfl rfl ?_
    show Steps p.tables e below (T10.setTop (mkF m 66 #[.val (.ref a1)] [(.ref a1)])) _
    refine XS.aloadN X10.here hx rfl (hb hby d7_66) rfl rfl ?_
    show Steps p.tables e below (T10.setTop (mkF m 67 #[.val (.ref a1)] [(.ref a1), (.ref a1)])) _
    exact κ)
  obtain ⟨T13, X13, e13, st13⟩ := getF X10 hx hZ hown (host := "") (Or.inl (hw _ (List.mem_of_getElem? (i := 46) rfl))) Via.refl e10 F_clock_a1_4 (g := (mkF m 67 #[.val (.ref a1)] [(.ref a1), (.ref a1)])) rfl rfl (hb hby d7_67)
  have pre14 := fun τ (κ : Steps p.tables e below (T13.setTop (mkF m 70 #[.val (.ref a1)] [(.int cl), (.ref a1)])) τ) => pre12 τ (st13 _ κ)
  have pre15 := fun τ (κ : Steps p.tables e below (T13.setTop (mkF m 71 #[.val (.ref a1)] [(.ref a1), (.int cl), (.ref a1)])) τ) => pre14 τ (by
    refine XS.aloadN X13.here hx rfl (hb hby d7_70) rfl rfl ?_
    show Steps p.tables e below (T13.setTop (mkF m 71 #[.val (.ref a1)] [(.ref a1), (.int cl), (.ref a1)])) _
    exact κ)
  obtain ⟨T16, X16, e16, st16⟩ := getF X13 hx hZ hown (host := "") (Or.inl (hw _ (List.mem_of_getElem? (i := 46) rfl))) Via.refl e13 F_clock_a1_4 (g := (mkF m 71 #[.val (.ref a1)] [(.ref a1), (.int cl), (.ref a1)])) rfl rfl (hb hby d7_71)
  have pre17 := fun τ (κ : Steps p.tables e below (T16.setTop (mkF m 74 #[.val (.ref a1)] [(.int cl), (.int cl), (.ref a1)])) τ) => pre15 τ (st16 _ κ)
  obtain ⟨cq18, q18, q18'⟩ := E_a1_4.cell
  obtain ⟨_, _, ⟨T18, L18, k18, n18⟩, -, X18, ⟨Lc18, hQ18, l18, y18, z18⟩, st18⟩ := X16.privateBack hx (y := (⟨"com/example/fettle/fettle/regex/Counts", "addRun", "(II)V"⟩ : MethodName)) hown (mvT hZ (hw _ (List.mem_of_getElem? (i := 48) rfl))) (mvT hZ (hw _ (List.mem_of_getElem? (i := 49) rfl))) (own_sel hZ (hw _ (List.mem_of_getElem? (i := 6) rfl)) (hw _ (List.mem_of_getElem? (i := 50) rfl)) (hw _ (List.mem_of_getElem? (i := 49) rfl)) (by decide)) (Cond.privateMethod_at (mvP hZ (hw _ (List.mem_of_getElem? (i := 50) rfl)) (args := #[]))) (mvT hZ (hw _ (List.mem_of_getElem? (i := 51) rfl))) (by decide) (backOf (W := 0) (rm8 l Z a0 hw [] a1 cl cl o w ko kw fi 0 cl st le mo lo lw h4 n0 Z4 ⟨E_a1_4, F_oldest_a1_4, F_newest_a1_4, F_first_a1_4, F_runs_a1_4, F_clock_a1_4, F_starting_a1_4, F_least_a1_4, F_most_a1_4, V_o_a1_4, V_w_a1_4⟩ rfl hfi hlo hlw n1 n2 n3 g_a1 g_o g_w) hZ (hw _ (List.mem_of_getElem? (i := 51) rfl)) (hw _ (List.mem_of_getElem? (i := 7) rfl)) (by decide) (by decide)) (g := (mkF m 74 #[.val (.ref a1)] [(.int cl), (.int cl), (.ref a1)])) rfl (by rw [hml]; rfl) (Steps.refl _) (a := a1) (by rw [e16]; exact q18) q18' (argsL := [(.int cl), (.int cl)]) (rest := []) (lenOf pd_1 rfl) rfl (by show 2 * 0 + _ ≤ _; exact Nat.le_of_eq rfl) (hb hby d7_74) (fun _ _ => ⟨rfl, e16, (by decide : 0 + 0 ≤ _), (by decide : 0 + 0 ≤ _)⟩)
  dsimp only [Pt.U, Pt.locs, Pt.cells, Pt.slots] at X18 l18 y18 z18 st18 hQ18
  subst l18 y18 z18
  obtain ⟨rfl, Nq18, K18, P18⟩ := hQ18
  have E_a1_18 : Exa Z T18.heap a1 "com/example/fettle/fettle/regex/Counts" := E_a1_4.keep K18
  have Z18 : n0 ≤ T18.heap.size := Nat.le_trans Z4 K18.1
  have Kp18 : Keep h0 T18.heap [a1, o, w] := Kp4.trans K18 (allS (Or.inl (List.mem_of_getElem? (i := 0) rfl)) (allS (Or.inl (List.mem_of_getElem? (i := 1) rfl)) (allS (Or.inl (List.mem_of_getElem? (i := 2) rfl)) all0)))
  have N18 := Fr.app N4 Nq18
  have pre19 := fun τ (κ : Steps p.tables e below (T18.setTop (mkF m 77 #[.val (.ref a1)] [])) τ) => pre17 τ (st18.trans κ)
  obtain ⟨fs, hr, hrun, hended, hW, hsame⟩ := X18.leave (v := none) (fun _ => rfl)
  refine ⟨_, _, pre19 _ ?_, hrun, hended, _, _, rfl, ?_, ⟨_, rfl⟩, hW, hsame.mono (by decide) (by decide)⟩
  · exact X18.returnOut hx Bd.returns (hb hby d7_77) hr
  · show Q7a Z a1 o w ko kw fi ru cl st le mo lo lw h0 n0 _ T18.heap _
    exact ⟨rfl, N18, Kp18, P18⟩
theorem ef_7b (m : MethodId) (a1 : Addr) (o : Addr) (w : Addr) (fi : Int32) (ru : Int32) (cl : Int32) (st : Int32) (le : Int32) (mo : Int32) : entryFrame m #[(.ref a1)] 1 = mkF m 0 #[.val (.ref a1)] [] := by first | (simp [entryFrame, mkF, argsToLocals, Value.category]; done) | rfl
def Q7b (Z : State) (a1 : Addr) (o : Addr) (w : Addr) (ko : ClassId) (kw : ClassId) (fi : Int32) (ru : Int32) (cl : Int32) (st : Int32) (le : Int32) (mo : Int32) (lo : List Value) (lw : List Value) (h0 : Heap) (n0 : Nat) (v : Option Value) (h : Heap) (L : List Loc) : Prop := v = none ∧ Fr n0 L ∧ Keep h0 h [a1, o, w] ∧ own_C Z h a1 o w ko kw fi 1 cl st le mo lo (lw.set fi.toNatClampNeg (.int cl))
set_option maxRecDepth 65536 in
set_option maxHeartbeats 40000000 in
theorem rm7b (l : Launch) (Z : State) (a0 : Array Value) (hw : ∀ d ∈ tables_1, d.before a0 Z = true) (ws : List Jvm.Cond) (a1 : Addr) (o : Addr) (w : Addr) (ko : ClassId) (kw : ClassId) (fi : Int32) (ru : Int32) (cl : Int32) (st : Int32) (le : Int32) (mo : Int32) (lo : List Value) (lw : List Value) (h0 : Heap) (n0 : Nat) (Z0 : n0 ≤ h0.size) (P0 : own_C Z h0 a1 o w ko kw fi ru cl st le mo lo lw) (hru : ru = 1) (hle : ¬ le = 0) (hfi : fi = 0 ∨ fi = 1) (hlw : lw.length = 4) (hnv : lw.getD fi.toNatClampNeg (.int (0 : Int32)) = .int (cl - 1)) (n1 : a1 ≠ o) (n2 : a1 ≠ w) (n3 : o ≠ w) (g_a1 : n0 ≤ a1) (g_o : n0 ≤ o) (g_w : n0 ≤ w) :
    MetFree l (⟨"com/example/fettle/fettle/regex/Counts", "addStarted", "()V"⟩ : MethodName) (head1 (Jvm.Cond.code (⟨"com/example/fettle/fettle/regex/Counts", "addStarted", "()V"⟩ : MethodName) prog_24_method_6_code 1 none :: ws) ({ frames := 1, cells := 0, slots := 0, locals := 14 } : Room)) (fun α υ => α = #[(.ref a1)] ∧ Z.Warmed39 υ.vm ∧ υ.heap = h0) (fun _ _ _ _ _ => True) (fun _ υ ω υ' => ∃ v L, ω = .returned v ∧ Q7b Z a1 o w ko kw fi ru cl st le mo lo lw h0 n0 v υ'.heap L ∧ FrameEnd υ ω υ' L ({ frames := 1, cells := 0, slots := 0, locals := 14 } : Room).cells ({ frames := 1, cells := 0, slots := 0, locals := 14 } : Room).slots) := by
  refine MetFree.of_bodySF (plainFor_of_name pn_com_example_fettle_fettle_regex_Counts) hisR ?_
  intro p e s m args below meth c s₁ Bd hml0 hP hK
  obtain ⟨rfl, hZ, hh⟩ := hP
  have hx := Bd.exec
  have hby := Bd.bytes
  have hml : c.maxLocals = 1 := hml0
  have hown : s.vm.findClass "com/example/fettle/fettle/regex/Counts" = some m.cls := findClass_of_methodNamed Bd.named
  have hnm := (name_of_methodNamed Bd.named Bd.method).1
  have X0 : Stand p l e ({ frames := 1, cells := 0, slots := 0, locals := 14 } : Room) s m #[(.ref a1)] below meth c s₁ [] 0 0 := Stand.of_body Bd
  have e0 : s₁.heap = h0 := by rw [← hh, Bd.state]; rfl
  have N0 := Fr.nil n0
  have pre0 : ∀ τ, Steps p.tables e below (s₁.setTop (mkF m 0 #[.val (.ref a1)] [])) τ → Steps p.tables e below (s₁.setTop (entryFrame m #[(.ref a1)] 1)) τ := fun τ κ => castTop (ef_7b m a1 o w fi ru cl st le mo) κ
  obtain ⟨E_a1, F_oldest_a1, F_newest_a1, F_first_a1, F_runs_a1, F_clock_a1, F_starting_a1, F_least_a1, F_most_a1, V_o_a1, V_w_a1⟩ := P0
  have Kp0 : Keep h0 h0 [a1, o, w] := Keep.refl _ _
  have Fx_runs_a1 : Fld Z h0 a1 "com/example/fettle/fettle/regex/Counts" "runs" "I" (.int (1 : Int32)) := by have q := F_runs_a1; rw [hru] at q; exact q
  have pre1 := fun τ (κ : Steps p.tables e below (s₁.setTop (mkF m 1 #[.val (.ref a1)] [(.ref a1)])) τ) => pre0 τ (by
    refine XS.aloadN X0.here hx rfl (hb hby d7_0) rfl rfl ?_
    show Steps p.tables e below (s₁.setTop (mkF m 1 #[.val (.ref a1)] [(.ref a1)])) _
    exact κ)
  obtain ⟨T2, X2, e2, st2⟩ := getF X0 hx hZ hown (host := "") (Or.inl (hw _ (List.mem_of_getElem? (i := 19) rfl))) Via.refl e0 F_least_a1 (g := (mkF m 1 #[.val (.ref a1)] [(.ref a1)])) rfl rfl (hb hby d7_1)
  have pre3 := fun τ (κ : Steps p.tables e below (T2.setTop (mkF m 4 #[.val (.ref a1)] [(.int le)])) τ) => pre1 τ (st2 _ κ)
  have pre4 := fun τ (κ : Steps p.tables e below (T2.setTop (mkF m 13 #[.val (.ref a1)] [(.ref a1)])) τ) => pre3 τ (by
    refine XS.ifYes X2.here hx rfl (pc0 := 4) (pc' := 12) rfl (hb hby d7_4) rfl ((if0 _ _).trans (feq hle).2) (by decide) (by decide) ?_
    show Steps p.tables e below (T2.setTop (mkF m 12 #[.val (.ref a1)] [])) _
    refine XS.aloadN X2.here hx rfl (hb hby d7_12) rfl rfl ?_
    show Steps p.tables e below (T2.setTop (mkF m 13 #[.val (.ref a1)] [(.ref a1)])) _
    exact κ)
  obtain ⟨T5, X5, e5, st5⟩ := getF X2 hx hZ hown (host := "") (Or.inl (hw _ (List.mem_of_getElem? (i := 28) rfl))) Via.refl e2 Fx_runs_a1 (g := (mkF m 13 #[.val (.ref a1)] [(.ref a1)])) rfl rfl (hb hby d7_13)
  have pre6 := fun τ (κ : Steps p.tables e below (T5.setTop (mkF m 16 #[.val (.ref a1)] [(.int (1 : Int32))])) τ) => pre4 τ (st5 _ κ)
  have pre7 := fun τ (κ : Steps p.tables e below (T5.setTop (mkF m 20 #[.val (.ref a1)] [(.ref a1)])) τ) => pre6 τ (by
    refine XS.ifNo X5.here hx rfl (hb hby d7_16) rfl ((if0 _ _).trans (tlt (by decide)).2.2.2) ?_
    show Steps p.tables e below (T5.setTop (mkF m 19 #[.val (.ref a1)] [])) _
    refine XS.aloadN X5.here hx rfl (hb hby d7_19) rfl rfl ?_
    show Steps p.tables e below (T5.setTop (mkF m 20 #[.val (.ref a1)] [(.ref a1)])) _
    exact κ)
  obtain ⟨T8, X8, e8, st8⟩ := getF X5 hx hZ hown (host := "") (Or.inl (hw _ (List.mem_of_getElem? (i := 17) rfl))) Via.refl e5 F_newest_a1 (g := (mkF m 20 #[.val (.ref a1)] [(.ref a1)])) rfl rfl (hb hby d7_20)
  have pre9 := fun τ (κ : Steps p.tables e below (T8.setTop (mkF m 23 #[.val (.ref a1)] [(.ref w)])) τ) => pre7 τ (st8 _ κ)
  have pre10 := fun τ (κ : Steps p.tables e below (T8.setTop (mkF m 25 #[.val (.ref a1)] [(.ref a1), (.ref a1), (.ref w)])) τ) => pre9 τ (by
    refine XS.aloadN X8.here hx rfl (hb hby d7_23) rfl rfl ?_
    show Steps p.tables e below (T8.setTop (mkF m 24 #[.val (.ref a1)] [(.ref a1), (.ref w)])) _
    refine XS.aloadN X8.here hx rfl (hb hby d7_24) rfl rfl ?_
    show Steps p.tables e below (T8.setTop (mkF m 25 #[.val (.ref a1)] [(.ref a1), (.ref a1), (.ref w)])) _
    exact κ)
  obtain ⟨T11, X11, e11, st11⟩ := getF X8 hx hZ hown (host := "") (Or.inl (hw _ (List.mem_of_getElem? (i := 28) rfl))) Via.refl e8 Fx_runs_a1 (g := (mkF m 25 #[.val (.ref a1)] [(.ref a1), (.ref a1), (.ref w)])) rfl rfl (hb hby d7_25)
  have pre12 := fun τ (κ : Steps p.tables e below (T11.setTop (mkF m 28 #[.val (.ref a1)] [(.int (1 : Int32)), (.ref a1), (.ref w)])) τ) => pre10 τ (st11 _ κ)
  have pre13 := fun τ (κ : Steps p.tables e below (T11.setTop (mkF m 30 #[.val (.ref a1)] [(.int ((1 : Int32) - (1 : Int32))), (.ref a1), (.ref w)])) τ) => pre12 τ (by
    refine XS.iconst X11.here hx rfl (hb hby d7_28) ?_
    show Steps p.tables e below (T11.setTop (mkF m 29 #[.val (.ref a1)] [(.int (1 : Int32)), (.int (1 : Int32)), (.ref a1), (.ref w)])) _
    refine XS.isub X11.here hx rfl (hb hby d7_29) rfl ?_
    show Steps p.tables e below (T11.setTop (mkF m 30 #[.val (.ref a1)] [(.int ((1 : Int32) - (1 : Int32))), (.ref a1), (.ref w)])) _
    exact κ)
  obtain ⟨cq14, q14, q14'⟩ := E_a1.cell
  obtain ⟨_, _, ⟨T14, L14, k14, n14⟩, -, X14, ⟨Lc14, hQ14, l14, y14, z14⟩, st14⟩ := X11.privateBack hx (y := (⟨"com/example/fettle/fettle/regex/Counts", "index", "(I)I"⟩ : MethodName)) hown (mvT hZ (hw _ (List.mem_of_getElem? (i := 52) rfl))) (mvT hZ (hw _ (List.mem_of_getElem? (i := 53) rfl))) (own_sel hZ (hw _ (List.mem_of_getElem? (i := 6) rfl)) (hw _ (List.mem_of_getElem? (i := 54) rfl)) (hw _ (List.mem_of_getElem? (i := 53) rfl)) (by decide)) (Cond.privateMethod_at (mvP hZ (hw _ (List.mem_of_getElem? (i := 54) rfl)) (args := #[]))) (mvT hZ (hw _ (List.mem_of_getElem? (i := 55) rfl))) (by decide) (backOf (W := 1) (rm9 l Z a0 hw [] a1 ((1 : Int32) - (1 : Int32)) o ko fi lo h0 n0 Z0 F_first_a1 F_oldest_a1 V_o_a1) hZ (hw _ (List.mem_of_getElem? (i := 55) rfl)) (hw _ (List.mem_of_getElem? (i := 7) rfl)) (by decide) (by decide)) (g := (mkF m 30 #[.val (.ref a1)] [(.int ((1 : Int32) - (1 : Int32))), (.ref a1), (.ref w)])) rfl (by rw [hml]; rfl) (Steps.refl _) (a := a1) (by rw [e11]; exact q14) q14' (argsL := [(.int ((1 : Int32) - (1 : Int32)))]) (rest := [(.ref w)]) (lenOf pd_0 rfl) rfl (by show 2 * 0 + _ ≤ _; exact Nat.le_of_eq rfl) (hb hby d7_30) (fun _ _ => ⟨rfl, e11, (by decide : 0 + 0 ≤ _), (by decide : 0 + 0 ≤ _)⟩)
  dsimp only [Pt.U, Pt.locs, Pt.cells, Pt.slots] at X14 l14 y14 z14 st14 hQ14
  subst l14 y14 z14
  obtain ⟨rfl, Nq14, hh14⟩ := hQ14
  have E_a1_14 : Exa Z T14.heap a1 "com/example/fettle/fettle/regex/Counts" := by rw [hh14]; exact E_a1
  have F_oldest_a1_14 : Fld Z T14.heap a1 "com/example/fettle/fettle/regex/Counts" "oldest" "[I" (.ref o) := by rw [hh14]; exact F_oldest_a1
  have F_newest_a1_14 : Fld Z T14.heap a1 "com/example/fettle/fettle/regex/Counts" "newest" "[I" (.ref w) := by rw [hh14]; exact F_newest_a1
  have F_first_a1_14 : Fld Z T14.heap a1 "com/example/fettle/fettle/regex/Counts" "first" "I" (.int fi) := by rw [hh14]; exact F_first_a1
  have Fx_runs_a1_14 : Fld Z T14.heap a1 "com/example/fettle/fettle/regex/Counts" "runs" "I" (.int (1 : Int32)) := by rw [hh14]; exact Fx_runs_a1
  have F_clock_a1_14 : Fld Z T14.heap a1 "com/example/fettle/fettle/regex/Counts" "clock" "I" (.int cl) := by rw [hh14]; exact F_clock_a1
  have F_starting_a1_14 : Fld Z T14.heap a1 "com/example/fettle/fettle/regex/Counts" "starting" "Z" (.int st) := by rw [hh14]; exact F_starting_a1
  have F_least_a1_14 : Fld Z T14.heap a1 "com/example/fettle/fettle/regex/Counts" "least" "I" (.int le) := by rw [hh14]; exact F_least_a1
  have F_most_a1_14 : Fld Z T14.heap a1 "com/example/fettle/fettle/regex/Counts" "most" "I" (.int mo) := by rw [hh14]; exact F_most_a1
  have V_o_a1_14 : Arv Z T14.heap o ko .int (4 : Int32) lo (.int (0 : Int32)) := by rw [hh14]; exact V_o_a1
  have V_w_a1_14 : Arv Z T14.heap w kw .int (4 : Int32) lw (.int (0 : Int32)) := by rw [hh14]; exact V_w_a1
  have Z14 : n0 ≤ T14.heap.size := by rw [hh14]; exact Z0
  have Kp14 : Keep h0 T14.heap [a1, o, w] := by rw [hh14]; exact Kp0
  have N14 := Fr.app N0 Nq14
  have pre15 := fun τ (κ : Steps p.tables e below (T14.setTop (mkF m 33 #[.val (.ref a1)] [(.int ((fi + ((1 : Int32) - (1 : Int32))) &&& ((4 : Int32) - (1 : Int32)))), (.ref w)])) τ) => pre13 τ (st14.trans κ)
  rw [show ((fi + ((1 : Int32) - (1 : Int32))) &&& ((4 : Int32) - (1 : Int32))) = fi from (own_fi1 hfi)] at pre15
  obtain ⟨cl16, Ar16, -, S16, M16, H16, -⟩ := id V_w_a1_14
  have in16 : ¬ (fi < 0 ∨ cl16.slots.size ≤ (fi).toNatClampNeg) := inb_of S16 (own_fi hfi)
  have at16 : cl16.slots[(fi).toNatClampNeg]? = some (.int (cl - 1)) := H16.at in16 hnv
  have pre17 := fun τ (κ : Steps p.tables e below (T14.setTop (mkF m 35 #[.val (.ref a1)] [(.ref a1), (.int (cl - 1))])) τ) => pre15 τ (by
    refine X14.iaload hx (j := fi) (v := (.int (cl - 1))) Ar16.1 (State.isArrayOf_alike hZ.alike Ar16.2.1) Ar16.2.2 in16 at16 (g := (mkF m 33 #[.val (.ref a1)] [(.int fi), (.ref w)])) rfl rfl (hb hby d7_33) _ ?_
    show Steps p.tables e below (T14.setTop (mkF m 34 #[.val (.ref a1)] [(.int (cl - 1))])) _
    refine XS.aloadN X14.here hx rfl (hb hby d7_34) rfl rfl ?_
    show Steps p.tables e below (T14.setTop (mkF m 35 #[.val (.ref a1)] [(.ref a1), (.int (cl - 1))])) _
    exact κ)
  obtain ⟨T18, X18, e18, st18⟩ := getF X14 hx hZ hown (host := "") (Or.inl (hw _ (List.mem_of_getElem? (i := 46) rfl))) Via.refl rfl F_clock_a1_14 (g := (mkF m 35 #[.val (.ref a1)] [(.ref a1), (.int (cl - 1))])) rfl rfl (hb hby d7_35)
  have pre19 := fun τ (κ : Steps p.tables e below (T18.setTop (mkF m 38 #[.val (.ref a1)] [(.int cl), (.int (cl - 1))])) τ) => pre17 τ (st18 _ κ)
  have pre20 := fun τ (κ : Steps p.tables e below (T18.setTop (mkF m 44 #[.val (.ref a1)] [(.ref a1)])) τ) => pre19 τ (by
    refine XS.iconst X18.here hx rfl (hb hby d7_38) ?_
    show Steps p.tables e below (T18.setTop (mkF m 39 #[.val (.ref a1)] [(.int (1 : Int32)), (.int cl), (.int (cl - 1))])) _
    refine XS.isub X18.here hx rfl (hb hby d7_39) rfl ?_
    show Steps p.tables e below (T18.setTop (mkF m 40 #[.val (.ref a1)] [(.int (cl - (1 : Int32))), (.int (cl - 1))])) _
    refine XS.icmpNo X18.here hx rfl (hb hby d7_40) rfl (teq rfl).2 ?_
    show Steps p.tables e below (T18.setTop (mkF m 43 #[.val (.ref a1)] [])) _
    refine XS.aloadN X18.here hx rfl (hb hby d7_43) rfl rfl ?_
    show Steps p.tables e below (T18.setTop (mkF m 44 #[.val (.ref a1)] [(.ref a1)])) _
    exact κ)
  obtain ⟨T21, X21, e21, st21⟩ := getF X18 hx hZ hown (host := "") (Or.inl (hw _ (List.mem_of_getElem? (i := 17) rfl))) Via.refl e18 F_newest_a1_14 (g := (mkF m 44 #[.val (.ref a1)] [(.ref a1)])) rfl rfl (hb hby d7_44)
  have pre22 := fun τ (κ : Steps p.tables e below (T21.setTop (mkF m 47 #[.val (.ref a1)] [(.ref w)])) τ) => pre20 τ (st21 _ κ)
  have pre23 := fun τ (κ : Steps p.tables e below (T21.setTop (mkF m 49 #[.val (.ref a1)] [(.ref a1), (.ref a1), (.ref w)])) τ) => pre22 τ (by
    refine XS.aloadN X21.here hx rfl (hb hby d7_47) rfl rfl ?_
    show Steps p.tables e below (T21.setTop (mkF m 48 #[.val (.ref a1)] [(.ref a1), (.ref w)])) _
    refine XS.aloadN X21.here hx rfl (hb hby d7_48) rfl rfl ?_
    show Steps p.tables e below (T21.setTop (mkF m 49 #[.val (.ref a1)] [(.ref a1), (.ref a1), (.ref w)])) _
    exact κ)
  obtain ⟨T24, X24, e24, st24⟩ := getF X21 hx hZ hown (host := "") (Or.inl (hw _ (List.mem_of_getElem? (i := 28) rfl))) Via.refl e21 Fx_runs_a1_14 (g := (mkF m 49 #[.val (.ref a1)] [(.ref a1), (.ref a1), (.ref w)])) rfl rfl (hb hby d7_49)
  have pre25 := fun τ (κ : Steps p.tables e below (T24.setTop (mkF m 52 #[.val (.ref a1)] [(.int (1 : Int32)), (.ref a1), (.ref w)])) τ) => pre23 τ (st24 _ κ)
  have pre26 := fun τ (κ : Steps p.tables e below (T24.setTop (mkF m 54 #[.val (.ref a1)] [(.int ((1 : Int32) - (1 : Int32))), (.ref a1), (.ref w)])) τ) => pre25 τ (by
    refine XS.iconst X24.here hx rfl (hb hby d7_52) ?_
    show Steps p.tables e below (T24.setTop (mkF m 53 #[.val (.ref a1)] [(.int (1 : Int32)), (.int (1 : Int32)), (.ref a1), (.ref w)])) _
    refine XS.isub X24.here hx rfl (hb hby d7_53) rfl ?_
    show Steps p.tables e below (T24.setTop (mkF m 54 #[.val (.ref a1)] [(.int ((1 : Int32) - (1 : Int32))), (.ref a1), (.ref w)])) _
    exact κ)
  obtain ⟨cq27, q27, q27'⟩ := E_a1_14.cell
  obtain ⟨_, _, ⟨T27, L27, k27, n27⟩, -, X27, ⟨Lc27, hQ27, l27, y27, z27⟩, st27⟩ := X24.privateBack hx (y := (⟨"com/example/fettle/fettle/regex/Counts", "index", "(I)I"⟩ : MethodName)) hown (mvT hZ (hw _ (List.mem_of_getElem? (i := 52) rfl))) (mvT hZ (hw _ (List.mem_of_getElem? (i := 53) rfl))) (own_sel hZ (hw _ (List.mem_of_getElem? (i := 6) rfl)) (hw _ (List.mem_of_getElem? (i := 54) rfl)) (hw _ (List.mem_of_getElem? (i := 53) rfl)) (by decide)) (Cond.privateMethod_at (mvP hZ (hw _ (List.mem_of_getElem? (i := 54) rfl)) (args := #[]))) (mvT hZ (hw _ (List.mem_of_getElem? (i := 55) rfl))) (by decide) (backOf (W := 1) (rm9 l Z a0 hw [] a1 ((1 : Int32) - (1 : Int32)) o ko fi lo T14.heap n0 Z14 F_first_a1_14 F_oldest_a1_14 V_o_a1_14) hZ (hw _ (List.mem_of_getElem? (i := 55) rfl)) (hw _ (List.mem_of_getElem? (i := 7) rfl)) (by decide) (by decide)) (g := (mkF m 54 #[.val (.ref a1)] [(.int ((1 : Int32) - (1 : Int32))), (.ref a1), (.ref w)])) rfl (by rw [hml]; rfl) (Steps.refl _) (a := a1) (by rw [e24]; exact q27) q27' (argsL := [(.int ((1 : Int32) - (1 : Int32)))]) (rest := [(.ref w)]) (lenOf pd_0 rfl) rfl (by show 2 * 0 + _ ≤ _; exact Nat.le_of_eq rfl) (hb hby d7_54) (fun _ _ => ⟨rfl, e24, (by decide : 0 + 0 ≤ _), (by decide : 0 + 0 ≤ _)⟩)
  dsimp only [Pt.U, Pt.locs, Pt.cells, Pt.slots] at X27 l27 y27 z27 st27 hQ27
  subst l27 y27 z27
  obtain ⟨rfl, Nq27, hh27⟩ := hQ27
  have E_a1_27 : Exa Z T27.heap a1 "com/example/fettle/fettle/regex/Counts" := by rw [hh27]; exact E_a1_14
  have F_oldest_a1_27 : Fld Z T27.heap a1 "com/example/fettle/fettle/regex/Counts" "oldest" "[I" (.ref o) := by rw [hh27]; exact F_oldest_a1_14
  have F_newest_a1_27 : Fld Z T27.heap a1 "com/example/fettle/fettle/regex/Counts" "newest" "[I" (.ref w) := by rw [hh27]; exact F_newest_a1_14
  have F_first_a1_27 : Fld Z T27.heap a1 "com/example/fettle/fettle/regex/Counts" "first" "I" (.int fi) := by rw [hh27]; exact F_first_a1_14
  have Fx_runs_a1_27 : Fld Z T27.heap a1 "com/example/fettle/fettle/regex/Counts" "runs" "I" (.int (1 : Int32)) := by rw [hh27]; exact Fx_runs_a1_14
  have F_clock_a1_27 : Fld Z T27.heap a1 "com/example/fettle/fettle/regex/Counts" "clock" "I" (.int cl) := by rw [hh27]; exact F_clock_a1_14
  have F_starting_a1_27 : Fld Z T27.heap a1 "com/example/fettle/fettle/regex/Counts" "starting" "Z" (.int st) := by rw [hh27]; exact F_starting_a1_14
  have F_least_a1_27 : Fld Z T27.heap a1 "com/example/fettle/fettle/regex/Counts" "least" "I" (.int le) := by rw [hh27]; exact F_least_a1_14
  have F_most_a1_27 : Fld Z T27.heap a1 "com/example/fettle/fettle/regex/Counts" "most" "I" (.int mo) := by rw [hh27]; exact F_most_a1_14
  have V_o_a1_27 : Arv Z T27.heap o ko .int (4 : Int32) lo (.int (0 : Int32)) := by rw [hh27]; exact V_o_a1_14
  have V_w_a1_27 : Arv Z T27.heap w kw .int (4 : Int32) lw (.int (0 : Int32)) := by rw [hh27]; exact V_w_a1_14
  have Z27 : n0 ≤ T27.heap.size := by rw [hh27]; exact Z14
  have Kp27 : Keep h0 T27.heap [a1, o, w] := by rw [hh27]; exact Kp14
  have N27 := Fr.app N14 Nq27
  have pre28 := fun τ (κ : Steps p.tables e below (T27.setTop (mkF m 57 #[.val (.ref a1)] [(.int ((fi + ((1 : Int32) - (1 : Int32))) &&& ((4 : Int32) - (1 : Int32)))), (.ref w)])) τ) => pre26 τ (st27.trans κ)
  rw [show ((fi + ((1 : Int32) - (1 : Int32))) &&& ((4 : Int32) - (1 : Int32))) = fi from (own_fi1 hfi)] at pre28
  have pre29 := fun τ (κ : Steps p.tables e below (T27.setTop (mkF m 58 #[.val (.ref a1)] [(.ref a1), (.int fi), (.ref w)])) τ) => pre28 τ (by
    refine XS.aloadN X27.here hx rfl (hb hby d7_57) rfl rfl ?_
    show Steps p.tables e below (T27.setTop (mkF m 58 #[.val (.ref a1)] [(.ref a1), (.int fi), (.ref w)])) _
    exact κ)
  obtain ⟨T30, X30, e30, st30⟩ := getF X27 hx hZ hown (host := "") (Or.inl (hw _ (List.mem_of_getElem? (i := 46) rfl))) Via.refl rfl F_clock_a1_27 (g := (mkF m 58 #[.val (.ref a1)] [(.ref a1), (.int fi), (.ref w)])) rfl rfl (hb hby d7_58)
  have pre31 := fun τ (κ : Steps p.tables e below (T30.setTop (mkF m 61 #[.val (.ref a1)] [(.int cl), (.int fi), (.ref w)])) τ) => pre29 τ (st30 _ κ)
  have hi2 := own_fin hfi hlw
  obtain ⟨cl32, Ar32, q32, S32, M32, H32, G32⟩ := id V_w_a1_27
  have in32 : ¬ (fi < 0 ∨ cl32.slots.size ≤ (fi).toNatClampNeg) := inb_of S32 (own_fi hfi)
  obtain ⟨T33, h33, X33, e33, W33, st33⟩ := stI X30 hx hZ e30 Ar32 (j := fi) in32 (g := (mkF m 61 #[.val (.ref a1)] [(.int cl), (.int fi), (.ref w)])) rfl rfl (hb hby d7_61)
  have E_a1_33 : Exa Z h33 a1 "com/example/fettle/fettle/regex/Counts" := E_a1_27.wr W33
  have F_oldest_a1_33 : Fld Z h33 a1 "com/example/fettle/fettle/regex/Counts" "oldest" "[I" (.ref o) := F_oldest_a1_27.other W33 (Or.inl n2)
  have F_newest_a1_33 : Fld Z h33 a1 "com/example/fettle/fettle/regex/Counts" "newest" "[I" (.ref w) := F_newest_a1_27.other W33 (Or.inl n2)
  have F_first_a1_33 : Fld Z h33 a1 "com/example/fettle/fettle/regex/Counts" "first" "I" (.int fi) := F_first_a1_27.other W33 (Or.inl n2)
  have Fx_runs_a1_33 : Fld Z h33 a1 "com/example/fettle/fettle/regex/Counts" "runs" "I" (.int (1 : Int32)) := Fx_runs_a1_27.other W33 (Or.inl n2)
  have F_clock_a1_33 : Fld Z h33 a1 "com/example/fettle/fettle/regex/Counts" "clock" "I" (.int cl) := F_clock_a1_27.other W33 (Or.inl n2)
  have F_starting_a1_33 : Fld Z h33 a1 "com/example/fettle/fettle/regex/Counts" "starting" "Z" (.int st) := F_starting_a1_27.other W33 (Or.inl n2)
  have F_least_a1_33 : Fld Z h33 a1 "com/example/fettle/fettle/regex/Counts" "least" "I" (.int le) := F_least_a1_27.other W33 (Or.inl n2)
  have F_most_a1_33 : Fld Z h33 a1 "com/example/fettle/fettle/regex/Counts" "most" "I" (.int mo) := F_most_a1_27.other W33 (Or.inl n2)
  have V_o_a1_33 : Arv Z h33 o ko .int (4 : Int32) lo (.int (0 : Int32)) := V_o_a1_27.other W33 n3
  have Kp33 : Keep h0 h33 [a1, o, w] := Kp27.wr W33 (Or.inl (List.mem_of_getElem? (i := 2) rfl))
  have N33 := Fr.snoc X33 N27 g_w
  have Z33 : n0 ≤ h33.size := Nat.le_trans Z27 (Keep.of_wr W33).1
  have V_w_33 : Arv Z h33 w kw .int (4 : Int32) (lw.set fi.toNatClampNeg (.int cl)) (.int (0 : Int32)) := Arv.set Ar32 q32 S32 M32 H32 G32 rfl W33 fi.toNatClampNeg (by first | rfl | assumption) (by assumption)
  have pre34 := fun τ (κ : Steps p.tables e below (T33.setTop (mkF m 62 #[.val (.ref a1)] [])) τ) => pre31 τ (st33 _ κ)
  have pre35 := fun τ (κ : Steps p.tables e below (T33.setTop (mkF m 77 #[.val (.ref a1)] [])) τ) => pre34 τ (by
    refine XS.goto X33.here hx rfl (pc0 := 62) (pc' := 77) rfl (hb hby d7_62) (by decide) (by decide) ?_
    show Steps p.tables e below (T33.setTop (mkF m 77 #[.val (.ref a1)] [])) _
    exact κ)
  obtain ⟨fs, hr, hrun, hended, hW, hsame⟩ := X33.leave (v := none) (fun _ => rfl)
  refine ⟨_, _, pre35 _ ?_, hrun, hended, _, _, rfl, ?_, ⟨_, rfl⟩, hW, hsame.mono (by decide) (by decide)⟩
  · exact X33.returnOut hx Bd.returns (hb hby d7_77) hr
  · show Q7b Z a1 o w ko kw fi ru cl st le mo lo lw h0 n0 _ T33.heap _
    rw [e33]
    exact ⟨rfl, N33, Kp33, ⟨E_a1_33, F_oldest_a1_33, F_newest_a1_33, F_first_a1_33, Fx_runs_a1_33, F_clock_a1_33, F_starting_a1_33, F_least_a1_33, F_most_a1_33, V_o_a1_33, V_w_33⟩⟩
theorem ef_10 (m : MethodId) (a1 : Addr) (o : Addr) (fi : Int32) (cl : Int32) (ov : Int32) : entryFrame m #[(.ref a1)] 1 = mkF m 0 #[.val (.ref a1)] [] := by first | (simp [entryFrame, mkF, argsToLocals, Value.category]; done) | rfl
def Q10 (Z : State) (a1 : Addr) (o : Addr) (ko : ClassId) (fi : Int32) (cl : Int32) (ov : Int32) (lo : List Value) (h0 : Heap) (n0 : Nat) (v : Option Value) (h : Heap) (L : List Loc) : Prop := v = some (.int (cl - ov)) ∧ Fr n0 L ∧ h = h0
set_option maxRecDepth 65536 in
set_option maxHeartbeats 40000000 in
theorem rm10 (l : Launch) (Z : State) (a0 : Array Value) (hw : ∀ d ∈ tables_1, d.before a0 Z = true) (ws : List Jvm.Cond) (a1 : Addr) (o : Addr) (ko : ClassId) (fi : Int32) (cl : Int32) (ov : Int32) (lo : List Value) (h0 : Heap) (n0 : Nat) (Z0 : n0 ≤ h0.size) (F1 : Fld Z h0 a1 "com/example/fettle/fettle/regex/Counts" "clock" "I" (.int cl)) (F2 : Fld Z h0 a1 "com/example/fettle/fettle/regex/Counts" "oldest" "[I" (.ref o)) (F3 : Fld Z h0 a1 "com/example/fettle/fettle/regex/Counts" "first" "I" (.int fi)) (V1 : Arv Z h0 o ko .int (4 : Int32) lo (.int (0 : Int32))) (hfi : fi = 0 ∨ fi = 1) (hov : lo.getD fi.toNatClampNeg (.int (0 : Int32)) = .int ov) :
    MetFree l (⟨"com/example/fettle/fettle/regex/Counts", "largest", "()I"⟩ : MethodName) (head1 (Jvm.Cond.code (⟨"com/example/fettle/fettle/regex/Counts", "largest", "()I"⟩ : MethodName) prog_24_method_8_code 1 (some .int) :: ws) ({ frames := 0, cells := 0, slots := 0, locals := 0 } : Room)) (fun α υ => α = #[(.ref a1)] ∧ Z.Warmed39 υ.vm ∧ υ.heap = h0) (fun _ _ _ _ _ => True) (fun _ υ ω υ' => ∃ v L, ω = .returned v ∧ Q10 Z a1 o ko fi cl ov lo h0 n0 v υ'.heap L ∧ FrameEnd υ ω υ' L ({ frames := 0, cells := 0, slots := 0, locals := 0 } : Room).cells ({ frames := 0, cells := 0, slots := 0, locals := 0 } : Room).slots) := by
  refine MetFree.of_bodySF (plainFor_of_name pn_com_example_fettle_fettle_regex_Counts) hisR ?_
  intro p e s m args below meth c s₁ Bd hml0 hP hK
  obtain ⟨rfl, hZ, hh⟩ := hP
  have hx := Bd.exec
  have hby := Bd.bytes
  have hml : c.maxLocals = 1 := hml0
  have hown : s.vm.findClass "com/example/fettle/fettle/regex/Counts" = some m.cls := findClass_of_methodNamed Bd.named
  have hnm := (name_of_methodNamed Bd.named Bd.method).1
  have X0 : Stand p l e ({ frames := 0, cells := 0, slots := 0, locals := 0 } : Room) s m #[(.ref a1)] below meth c s₁ [] 0 0 := Stand.of_body Bd
  have e0 : s₁.heap = h0 := by rw [← hh, Bd.state]; rfl
  have N0 := Fr.nil n0
  have pre0 : ∀ τ, Steps p.tables e below (s₁.setTop (mkF m 0 #[.val (.ref a1)] [])) τ → Steps p.tables e below (s₁.setTop (entryFrame m #[(.ref a1)] 1)) τ := fun τ κ => castTop (ef_10 m a1 o fi cl ov) κ
  have pre1 := fun τ (κ : Steps p.tables e below (s₁.setTop (mkF m 1 #[.val (.ref a1)] [(.ref a1)])) τ) => pre0 τ (by
    refine XS.aloadN X0.here hx rfl (hb hby d10_0) rfl rfl ?_
    show Steps p.tables e below (s₁.setTop (mkF m 1 #[.val (.ref a1)] [(.ref a1)])) _
    exact κ)
  obtain ⟨T2, X2, e2, st2⟩ := getF X0 hx hZ hown (host := "") (Or.inl (hw _ (List.mem_of_getElem? (i := 46) rfl))) Via.refl e0 F1 (g := (mkF m 1 #[.val (.ref a1)] [(.ref a1)])) rfl rfl (hb hby d10_1)
  have pre3 := fun τ (κ : Steps p.tables e below (T2.setTop (mkF m 4 #[.val (.ref a1)] [(.int cl)])) τ) => pre1 τ (st2 _ κ)
  have pre4 := fun τ (κ : Steps p.tables e below (T2.setTop (mkF m 5 #[.val (.ref a1)] [(.ref a1), (.int cl)])) τ) => pre3 τ (by
    refine XS.aloadN X2.here hx rfl (hb hby d10_4) rfl rfl ?_
    show Steps p.tables e below (T2.setTop (mkF m 5 #[.val (.ref a1)] [(.ref a1), (.int cl)])) _
    exact κ)
  obtain ⟨T5, X5, e5, st5⟩ := getF X2 hx hZ hown (host := "") (Or.inl (hw _ (List.mem_of_getElem? (i := 15) rfl))) Via.refl e2 F2 (g := (mkF m 5 #[.val (.ref a1)] [(.ref a1), (.int cl)])) rfl rfl (hb hby d10_5)
  have pre6 := fun τ (κ : Steps p.tables e below (T5.setTop (mkF m 8 #[.val (.ref a1)] [(.ref o), (.int cl)])) τ) => pre4 τ (st5 _ κ)
  have pre7 := fun τ (κ : Steps p.tables e below (T5.setTop (mkF m 9 #[.val (.ref a1)] [(.ref a1), (.ref o), (.int cl)])) τ) => pre6 τ (by
    refine XS.aloadN X5.here hx rfl (hb hby d10_8) rfl rfl ?_
    show Steps p.tables e below (T5.setTop (mkF m 9 #[.val (.ref a1)] [(.ref a1), (.ref o), (.int cl)])) _
    exact κ)
  obtain ⟨T8, X8, e8, st8⟩ := getF X5 hx hZ hown (host := "") (Or.inl (hw _ (List.mem_of_getElem? (i := 56) rfl))) Via.refl e5 F3 (g := (mkF m 9 #[.val (.ref a1)] [(.ref a1), (.ref o), (.int cl)])) rfl rfl (hb hby d10_9)
  have pre9 := fun τ (κ : Steps p.tables e below (T8.setTop (mkF m 12 #[.val (.ref a1)] [(.int fi), (.ref o), (.int cl)])) τ) => pre7 τ (st8 _ κ)
  obtain ⟨cl10, Ar10, -, S10, M10, H10, -⟩ := id V1
  have in10 : ¬ (fi < 0 ∨ cl10.slots.size ≤ (fi).toNatClampNeg) := inb_of S10 (own_fi hfi)
  have at10 : cl10.slots[(fi).toNatClampNeg]? = some (.int ov) := H10.at in10 hov
  have pre11 := fun τ (κ : Steps p.tables e below (T8.setTop (mkF m 14 #[.val (.ref a1)] [(.int (cl - ov))])) τ) => pre9 τ (by
    refine X8.iaload hx (j := fi) (v := (.int ov)) (by rw [e8]; exact Ar10.1) (State.isArrayOf_alike hZ.alike Ar10.2.1) Ar10.2.2 in10 at10 (g := (mkF m 12 #[.val (.ref a1)] [(.int fi), (.ref o), (.int cl)])) rfl rfl (hb hby d10_12) _ ?_
    show Steps p.tables e below (T8.setTop (mkF m 13 #[.val (.ref a1)] [(.int ov), (.int cl)])) _
    refine XS.isub X8.here hx rfl (hb hby d10_13) rfl ?_
    show Steps p.tables e below (T8.setTop (mkF m 14 #[.val (.ref a1)] [(.int (cl - ov))])) _
    exact κ)
  obtain ⟨fs, hr, hrun, hended, hW, hsame⟩ := X8.leave (v := some (.int (cl - ov))) (fun h => by rw [Bd.returns] at h; cases h)
  refine ⟨_, _, pre11 _ ?_, hrun, hended, _, _, rfl, ?_, ⟨_, rfl⟩, hW, hsame.mono (by decide) (by decide)⟩
  · exact retI X8 hx Bd.returns (hb hby d10_14) hr
  · show Q10 Z a1 o ko fi cl ov lo h0 n0 _ T8.heap _
    rw [e8]
    exact ⟨rfl, N0, rfl⟩
theorem ef_11 (m : MethodId) (a1 : Addr) (o : Addr) (w : Addr) (fi : Int32) (ru : Int32) (cl : Int32) (st : Int32) (le : Int32) (mo : Int32) (ov : Int32) (nv : Int32) : entryFrame m #[(.ref a1)] 1 = mkF m 0 #[.val (.ref a1)] [] := by first | (simp [entryFrame, mkF, argsToLocals, Value.category]; done) | rfl
def Q11 (Z : State) (a1 : Addr) (o : Addr) (w : Addr) (ko : ClassId) (kw : ClassId) (fi : Int32) (ru : Int32) (cl : Int32) (st : Int32) (le : Int32) (mo : Int32) (lo : List Value) (lw : List Value) (ov : Int32) (nv : Int32) (h0 : Heap) (n0 : Nat) (v : Option Value) (h : Heap) (L : List Loc) : Prop := v = some (.int (own_sec ru ov nv cl)) ∧ Fr n0 L ∧ h = h0
set_option maxRecDepth 65536 in
set_option maxHeartbeats 40000000 in
theorem rm11 (l : Launch) (Z : State) (a0 : Array Value) (hw : ∀ d ∈ tables_1, d.before a0 Z = true) (ws : List Jvm.Cond) (a1 : Addr) (o : Addr) (w : Addr) (ko : ClassId) (kw : ClassId) (fi : Int32) (ru : Int32) (cl : Int32) (st : Int32) (le : Int32) (mo : Int32) (lo : List Value) (lw : List Value) (ov : Int32) (nv : Int32) (h0 : Heap) (n0 : Nat) (Z0 : n0 ≤ h0.size) (P0 : own_C Z h0 a1 o w ko kw fi ru cl st le mo lo lw) (hru : ru = 0 ∨ ru = 1) (hfi : fi = 0 ∨ fi = 1) (hov : lo.getD fi.toNatClampNeg (.int (0 : Int32)) = .int ov) (hnv : lw.getD fi.toNatClampNeg (.int (0 : Int32)) = .int nv) (n1 : a1 ≠ o) (n2 : a1 ≠ w) (n3 : o ≠ w) :
    MetFree l (⟨"com/example/fettle/fettle/regex/Counts", "secondLargest", "()I"⟩ : MethodName) (head1 (Jvm.Cond.code (⟨"com/example/fettle/fettle/regex/Counts", "secondLargest", "()I"⟩ : MethodName) prog_24_method_9_code 1 (some .int) :: ws) ({ frames := 1, cells := 0, slots := 0, locals := 12 } : Room)) (fun α υ => α = #[(.ref a1)] ∧ Z.Warmed39 υ.vm ∧ υ.heap = h0) (fun _ _ _ _ _ => True) (fun _ υ ω υ' => ∃ v L, ω = .returned v ∧ Q11 Z a1 o w ko kw fi ru cl st le mo lo lw ov nv h0 n0 v υ'.heap L ∧ FrameEnd υ ω υ' L ({ frames := 1, cells := 0, slots := 0, locals := 12 } : Room).cells ({ frames := 1, cells := 0, slots := 0, locals := 12 } : Room).slots) := by
  refine MetFree.of_bodySF (plainFor_of_name pn_com_example_fettle_fettle_regex_Counts) hisR ?_
  intro p e s m args below meth c s₁ Bd hml0 hP hK
  obtain ⟨rfl, hZ, hh⟩ := hP
  have hx := Bd.exec
  have hby := Bd.bytes
  have hml : c.maxLocals = 1 := hml0
  have hown : s.vm.findClass "com/example/fettle/fettle/regex/Counts" = some m.cls := findClass_of_methodNamed Bd.named
  have hnm := (name_of_methodNamed Bd.named Bd.method).1
  have X0 : Stand p l e ({ frames := 1, cells := 0, slots := 0, locals := 12 } : Room) s m #[(.ref a1)] below meth c s₁ [] 0 0 := Stand.of_body Bd
  have e0 : s₁.heap = h0 := by rw [← hh, Bd.state]; rfl
  have N0 := Fr.nil n0
  have pre0 : ∀ τ, Steps p.tables e below (s₁.setTop (mkF m 0 #[.val (.ref a1)] [])) τ → Steps p.tables e below (s₁.setTop (entryFrame m #[(.ref a1)] 1)) τ := fun τ κ => castTop (ef_11 m a1 o w fi ru cl st le mo ov nv) κ
  obtain ⟨E_a1, F_oldest_a1, F_newest_a1, F_first_a1, F_runs_a1, F_clock_a1, F_starting_a1, F_least_a1, F_most_a1, V_o_a1, V_w_a1⟩ := P0
  have Kp0 : Keep h0 h0 [] := Keep.refl _ _
  have pre1 := fun τ (κ : Steps p.tables e below (s₁.setTop (mkF m 1 #[.val (.ref a1)] [(.ref a1)])) τ) => pre0 τ (by
    refine XS.aloadN X0.here hx rfl (hb hby d11_0) rfl rfl ?_
    show Steps p.tables e below (s₁.setTop (mkF m 1 #[.val (.ref a1)] [(.ref a1)])) _
    exact κ)
  obtain ⟨T2, X2, e2, st2⟩ := getF X0 hx hZ hown (host := "") (Or.inl (hw _ (List.mem_of_getElem? (i := 28) rfl))) Via.refl e0 F_runs_a1 (g := (mkF m 1 #[.val (.ref a1)] [(.ref a1)])) rfl rfl (hb hby d11_1)
  have pre3 := fun τ (κ : Steps p.tables e below (T2.setTop (mkF m 4 #[.val (.ref a1)] [(.int ru)])) τ) => pre1 τ (st2 _ κ)
  by_cases q1 : (0 : Int32) < ru
  · have hr1 : ru = 1 := hru.resolve_left fun z => by rw [z] at q1; exact absurd q1 (by decide)
    have pre4 := fun τ (κ : Steps p.tables e below (T2.setTop (mkF m 8 #[.val (.ref a1)] [(.ref a1)])) τ) => pre3 τ (by
      refine XS.ifNo X2.here hx rfl (hb hby d11_4) rfl ((if0 _ _).trans (tlt q1).2.2.2) ?_
      show Steps p.tables e below (T2.setTop (mkF m 7 #[.val (.ref a1)] [])) _
      refine XS.aloadN X2.here hx rfl (hb hby d11_7) rfl rfl ?_
      show Steps p.tables e below (T2.setTop (mkF m 8 #[.val (.ref a1)] [(.ref a1)])) _
      exact κ)
    obtain ⟨T5, X5, e5, st5⟩ := getF X2 hx hZ hown (host := "") (Or.inl (hw _ (List.mem_of_getElem? (i := 15) rfl))) Via.refl e2 F_oldest_a1 (g := (mkF m 8 #[.val (.ref a1)] [(.ref a1)])) rfl rfl (hb hby d11_8)
    have pre6 := fun τ (κ : Steps p.tables e below (T5.setTop (mkF m 11 #[.val (.ref a1)] [(.ref o)])) τ) => pre4 τ (st5 _ κ)
    have pre7 := fun τ (κ : Steps p.tables e below (T5.setTop (mkF m 12 #[.val (.ref a1)] [(.ref a1), (.ref o)])) τ) => pre6 τ (by
      refine XS.aloadN X5.here hx rfl (hb hby d11_11) rfl rfl ?_
      show Steps p.tables e below (T5.setTop (mkF m 12 #[.val (.ref a1)] [(.ref a1), (.ref o)])) _
      exact κ)
    obtain ⟨T8, X8, e8, st8⟩ := getF X5 hx hZ hown (host := "") (Or.inl (hw _ (List.mem_of_getElem? (i := 56) rfl))) Via.refl e5 F_first_a1 (g := (mkF m 12 #[.val (.ref a1)] [(.ref a1), (.ref o)])) rfl rfl (hb hby d11_12)
    have pre9 := fun τ (κ : Steps p.tables e below (T8.setTop (mkF m 15 #[.val (.ref a1)] [(.int fi), (.ref o)])) τ) => pre7 τ (st8 _ κ)
    obtain ⟨cl10, Ar10, -, S10, M10, H10, -⟩ := id V_o_a1
    have in10 : ¬ (fi < 0 ∨ cl10.slots.size ≤ (fi).toNatClampNeg) := inb_of S10 (own_fi hfi)
    have at10 : cl10.slots[(fi).toNatClampNeg]? = some (.int ov) := H10.at in10 hov
    have pre11 := fun τ (κ : Steps p.tables e below (T8.setTop (mkF m 17 #[.val (.ref a1)] [(.ref a1), (.int ov)])) τ) => pre9 τ (by
      refine X8.iaload hx (j := fi) (v := (.int ov)) (by rw [e8]; exact Ar10.1) (State.isArrayOf_alike hZ.alike Ar10.2.1) Ar10.2.2 in10 at10 (g := (mkF m 15 #[.val (.ref a1)] [(.int fi), (.ref o)])) rfl rfl (hb hby d11_15) _ ?_
      show Steps p.tables e below (T8.setTop (mkF m 16 #[.val (.ref a1)] [(.int ov)])) _
      refine XS.aloadN X8.here hx rfl (hb hby d11_16) rfl rfl ?_
      show Steps p.tables e below (T8.setTop (mkF m 17 #[.val (.ref a1)] [(.ref a1), (.int ov)])) _
      exact κ)
    obtain ⟨T12, X12, e12, st12⟩ := getF X8 hx hZ hown (host := "") (Or.inl (hw _ (List.mem_of_getElem? (i := 17) rfl))) Via.refl e8 F_newest_a1 (g := (mkF m 17 #[.val (.ref a1)] [(.ref a1), (.int ov)])) rfl rfl (hb hby d11_17)
    have pre13 := fun τ (κ : Steps p.tables e below (T12.setTop (mkF m 20 #[.val (.ref a1)] [(.ref w), (.int ov)])) τ) => pre11 τ (st12 _ κ)
    have pre14 := fun τ (κ : Steps p.tables e below (T12.setTop (mkF m 21 #[.val (.ref a1)] [(.ref a1), (.ref w), (.int ov)])) τ) => pre13 τ (by
      refine XS.aloadN X12.here hx rfl (hb hby d11_20) rfl rfl ?_
      show Steps p.tables e below (T12.setTop (mkF m 21 #[.val (.ref a1)] [(.ref a1), (.ref w), (.int ov)])) _
      exact κ)
    obtain ⟨T15, X15, e15, st15⟩ := getF X12 hx hZ hown (host := "") (Or.inl (hw _ (List.mem_of_getElem? (i := 56) rfl))) Via.refl e12 F_first_a1 (g := (mkF m 21 #[.val (.ref a1)] [(.ref a1), (.ref w), (.int ov)])) rfl rfl (hb hby d11_21)
    have pre16 := fun τ (κ : Steps p.tables e below (T15.setTop (mkF m 24 #[.val (.ref a1)] [(.int fi), (.ref w), (.int ov)])) τ) => pre14 τ (st15 _ κ)
    obtain ⟨cl17, Ar17, -, S17, M17, H17, -⟩ := id V_w_a1
    have in17 : ¬ (fi < 0 ∨ cl17.slots.size ≤ (fi).toNatClampNeg) := inb_of S17 (own_fi hfi)
    have at17 : cl17.slots[(fi).toNatClampNeg]? = some (.int nv) := H17.at in17 hnv
    have pre18 := fun τ (κ : Steps p.tables e below (T15.setTop (mkF m 25 #[.val (.ref a1)] [(.int nv), (.int ov)])) τ) => pre16 τ (by
      refine X15.iaload hx (j := fi) (v := (.int nv)) (by rw [e15]; exact Ar17.1) (State.isArrayOf_alike hZ.alike Ar17.2.1) Ar17.2.2 in17 at17 (g := (mkF m 24 #[.val (.ref a1)] [(.int fi), (.ref w), (.int ov)])) rfl rfl (hb hby d11_24) _ ?_
      show Steps p.tables e below (T15.setTop (mkF m 25 #[.val (.ref a1)] [(.int nv), (.int ov)])) _
      exact κ)
    by_cases q2 : ov = nv
    · have pre19 := fun τ (κ : Steps p.tables e below (T15.setTop (mkF m 36 #[.val (.ref a1)] [(.ref a1)])) τ) => pre18 τ (by
        refine XS.icmpYes X15.here hx rfl (pc0 := 25) (pc' := 35) rfl (hb hby d11_25) rfl (teq q2).1 (by decide) (by decide) ?_
        show Steps p.tables e below (T15.setTop (mkF m 35 #[.val (.ref a1)] [])) _
        refine XS.aloadN X15.here hx rfl (hb hby d11_35) rfl rfl ?_
        show Steps p.tables e below (T15.setTop (mkF m 36 #[.val (.ref a1)] [(.ref a1)])) _
        exact κ)
      obtain ⟨T20, X20, e20, st20⟩ := getF X15 hx hZ hown (host := "") (Or.inl (hw _ (List.mem_of_getElem? (i := 28) rfl))) Via.refl e15 F_runs_a1 (g := (mkF m 36 #[.val (.ref a1)] [(.ref a1)])) rfl rfl (hb hby d11_36)
      have pre21 := fun τ (κ : Steps p.tables e below (T20.setTop (mkF m 39 #[.val (.ref a1)] [(.int ru)])) τ) => pre19 τ (st20 _ κ)
      have pre22 := fun τ (κ : Steps p.tables e below (T20.setTop (mkF m 62 #[.val (.ref a1)] [(.int (-1 : Int32))])) τ) => pre21 τ (by
        refine XS.iconst X20.here hx rfl (hb hby d11_39) ?_
        show Steps p.tables e below (T20.setTop (mkF m 40 #[.val (.ref a1)] [(.int (1 : Int32)), (.int ru)])) _
        refine XS.icmpYes X20.here hx rfl (pc0 := 40) (pc' := 61) rfl (hb hby d11_40) rfl (flt (by rw [hr1]; decide)).2.2.2 (by decide) (by decide) ?_
        show Steps p.tables e below (T20.setTop (mkF m 61 #[.val (.ref a1)] [])) _
        refine XS.iconst X20.here hx rfl (hb hby d11_61) ?_
        show Steps p.tables e below (T20.setTop (mkF m 62 #[.val (.ref a1)] [(.int (-1 : Int32))])) _
        exact κ)
      obtain ⟨fs, hr, hrun, hended, hW, hsame⟩ := X20.leave (v := some (.int (-1 : Int32))) (fun h => by rw [Bd.returns] at h; cases h)
      refine ⟨_, _, pre22 _ ?_, hrun, hended, _, _, rfl, ?_, ⟨_, rfl⟩, hW, hsame.mono (by decide) (by decide)⟩
      · exact retI X20 hx Bd.returns (hb hby d11_62) hr
      · show Q11 Z a1 o w ko kw fi ru cl st le mo lo lw ov nv h0 n0 _ T20.heap _
        rw [e20]
        exact ⟨congrArg (fun z => some (Value.int z)) (if_neg fun z => z.2 q2).symm, N0, rfl⟩
    · have pre23 := fun τ (κ : Steps p.tables e below (T15.setTop (mkF m 29 #[.val (.ref a1)] [(.ref a1)])) τ) => pre18 τ (by
        refine XS.icmpNo X15.here hx rfl (hb hby d11_25) rfl (feq q2).1 ?_
        show Steps p.tables e below (T15.setTop (mkF m 28 #[.val (.ref a1)] [])) _
        refine XS.aloadN X15.here hx rfl (hb hby d11_28) rfl rfl ?_
        show Steps p.tables e below (T15.setTop (mkF m 29 #[.val (.ref a1)] [(.ref a1)])) _
        exact κ)
      obtain ⟨cq24, q24, q24'⟩ := E_a1.cell
      obtain ⟨_, _, ⟨T24, L24, k24, n24⟩, -, X24, ⟨Lc24, hQ24, l24, y24, z24⟩, st24⟩ := X15.privateBack hx (y := (⟨"com/example/fettle/fettle/regex/Counts", "largest", "()I"⟩ : MethodName)) hown (mvT hZ (hw _ (List.mem_of_getElem? (i := 58) rfl))) (mvT hZ (hw _ (List.mem_of_getElem? (i := 59) rfl))) (own_sel hZ (hw _ (List.mem_of_getElem? (i := 6) rfl)) (hw _ (List.mem_of_getElem? (i := 60) rfl)) (hw _ (List.mem_of_getElem? (i := 59) rfl)) (by decide)) (Cond.privateMethod_at (mvP hZ (hw _ (List.mem_of_getElem? (i := 60) rfl)) (args := #[]))) (mvT hZ (hw _ (List.mem_of_getElem? (i := 61) rfl))) (by decide) (backOf (W := 0) (rm10 l Z a0 hw [] a1 o ko fi cl ov lo h0 n0 Z0 F_clock_a1 F_oldest_a1 F_first_a1 V_o_a1 hfi hov) hZ (hw _ (List.mem_of_getElem? (i := 61) rfl)) (hw _ (List.mem_of_getElem? (i := 7) rfl)) (by decide) (by decide)) (g := (mkF m 29 #[.val (.ref a1)] [(.ref a1)])) rfl (by rw [hml]; rfl) (Steps.refl _) (a := a1) (by rw [e15]; exact q24) q24' (argsL := []) (rest := []) (lenOf pd_2 rfl) rfl (by show 2 * 0 + _ ≤ _; exact Nat.le_of_eq rfl) (hb hby d11_29) (fun _ _ => ⟨rfl, e15, (by decide : 0 + 0 ≤ _), (by decide : 0 + 0 ≤ _)⟩)
      dsimp only [Pt.U, Pt.locs, Pt.cells, Pt.slots] at X24 l24 y24 z24 st24 hQ24
      subst l24 y24 z24
      obtain ⟨rfl, Nq24, hh24⟩ := hQ24
      have E_a1_24 : Exa Z T24.heap a1 "com/example/fettle/fettle/regex/Counts" := by rw [hh24]; exact E_a1
      have F_oldest_a1_24 : Fld Z T24.heap a1 "com/example/fettle/fettle/regex/Counts" "oldest" "[I" (.ref o) := by rw [hh24]; exact F_oldest_a1
      have F_newest_a1_24 : Fld Z T24.heap a1 "com/example/fettle/fettle/regex/Counts" "newest" "[I" (.ref w) := by rw [hh24]; exact F_newest_a1
      have F_first_a1_24 : Fld Z T24.heap a1 "com/example/fettle/fettle/regex/Counts" "first" "I" (.int fi) := by rw [hh24]; exact F_first_a1
      have F_runs_a1_24 : Fld Z T24.heap a1 "com/example/fettle/fettle/regex/Counts" "runs" "I" (.int ru) := by rw [hh24]; exact F_runs_a1
      have F_clock_a1_24 : Fld Z T24.heap a1 "com/example/fettle/fettle/regex/Counts" "clock" "I" (.int cl) := by rw [hh24]; exact F_clock_a1
      have F_starting_a1_24 : Fld Z T24.heap a1 "com/example/fettle/fettle/regex/Counts" "starting" "Z" (.int st) := by rw [hh24]; exact F_starting_a1
      have F_least_a1_24 : Fld Z T24.heap a1 "com/example/fettle/fettle/regex/Counts" "least" "I" (.int le) := by rw [hh24]; exact F_least_a1
      have F_most_a1_24 : Fld Z T24.heap a1 "com/example/fettle/fettle/regex/Counts" "most" "I" (.int mo) := by rw [hh24]; exact F_most_a1
      have V_o_a1_24 : Arv Z T24.heap o ko .int (4 : Int32) lo (.int (0 : Int32)) := by rw [hh24]; exact V_o_a1
      have V_w_a1_24 : Arv Z T24.heap w kw .int (4 : Int32) lw (.int (0 : Int32)) := by rw [hh24]; exact V_w_a1
      have Z24 : n0 ≤ T24.heap.size := by rw [hh24]; exact Z0
      have Kp24 : Keep h0 T24.heap [] := by rw [hh24]; exact Kp0
      have N24 := Fr.app N0 Nq24
      have pre25 := fun τ (κ : Steps p.tables e below (T24.setTop (mkF m 32 #[.val (.ref a1)] [(.int (cl - ov))])) τ) => pre23 τ (st24.trans κ)
      have pre26 := fun τ (κ : Steps p.tables e below (T24.setTop (mkF m 34 #[.val (.ref a1)] [(.int ((cl - ov) - (1 : Int32)))])) τ) => pre25 τ (by
        refine XS.iconst X24.here hx rfl (hb hby d11_32) ?_
        show Steps p.tables e below (T24.setTop (mkF m 33 #[.val (.ref a1)] [(.int (1 : Int32)), (.int (cl - ov))])) _
        refine XS.isub X24.here hx rfl (hb hby d11_33) rfl ?_
        show Steps p.tables e below (T24.setTop (mkF m 34 #[.val (.ref a1)] [(.int ((cl - ov) - (1 : Int32)))])) _
        exact κ)
      obtain ⟨fs, hr, hrun, hended, hW, hsame⟩ := X24.leave (v := some (.int ((cl - ov) - (1 : Int32)))) (fun h => by rw [Bd.returns] at h; cases h)
      refine ⟨_, _, pre26 _ ?_, hrun, hended, _, _, rfl, ?_, ⟨_, rfl⟩, hW, hsame.mono (by decide) (by decide)⟩
      · exact retI X24 hx Bd.returns (hb hby d11_34) hr
      · show Q11 Z a1 o w ko kw fi ru cl st le mo lo lw ov nv h0 n0 _ T24.heap _
        exact ⟨congrArg (fun z => some (Value.int z)) (if_pos ⟨hr1, q2⟩).symm, N24, hh24⟩
  · have hr0 : ru = 0 := hru.resolve_right fun z => q1 (by rw [z]; decide)
    have pre27 := fun τ (κ : Steps p.tables e below (T2.setTop (mkF m 36 #[.val (.ref a1)] [(.ref a1)])) τ) => pre3 τ (by
      refine XS.ifYes X2.here hx rfl (pc0 := 4) (pc' := 35) rfl (hb hby d11_4) rfl ((if0 _ _).trans (flt q1).2.2.2) (by decide) (by decide) ?_
      show Steps p.tables e below (T2.setTop (mkF m 35 #[.val (.ref a1)] [])) _
      refine XS.aloadN X2.here hx rfl (hb hby d11_35) rfl rfl ?_
      show Steps p.tables e below (T2.setTop (mkF m 36 #[.val (.ref a1)] [(.ref a1)])) _
      exact κ)
    obtain ⟨T28, X28, e28, st28⟩ := getF X2 hx hZ hown (host := "") (Or.inl (hw _ (List.mem_of_getElem? (i := 28) rfl))) Via.refl e2 F_runs_a1 (g := (mkF m 36 #[.val (.ref a1)] [(.ref a1)])) rfl rfl (hb hby d11_36)
    have pre29 := fun τ (κ : Steps p.tables e below (T28.setTop (mkF m 39 #[.val (.ref a1)] [(.int ru)])) τ) => pre27 τ (st28 _ κ)
    have pre30 := fun τ (κ : Steps p.tables e below (T28.setTop (mkF m 62 #[.val (.ref a1)] [(.int (-1 : Int32))])) τ) => pre29 τ (by
      refine XS.iconst X28.here hx rfl (hb hby d11_39) ?_
      show Steps p.tables e below (T28.setTop (mkF m 40 #[.val (.ref a1)] [(.int (1 : Int32)), (.int ru)])) _
      refine XS.icmpYes X28.here hx rfl (pc0 := 40) (pc' := 61) rfl (hb hby d11_40) rfl (flt (by rw [hr0]; decide)).2.2.2 (by decide) (by decide) ?_
      show Steps p.tables e below (T28.setTop (mkF m 61 #[.val (.ref a1)] [])) _
      refine XS.iconst X28.here hx rfl (hb hby d11_61) ?_
      show Steps p.tables e below (T28.setTop (mkF m 62 #[.val (.ref a1)] [(.int (-1 : Int32))])) _
      exact κ)
    obtain ⟨fs, hr, hrun, hended, hW, hsame⟩ := X28.leave (v := some (.int (-1 : Int32))) (fun h => by rw [Bd.returns] at h; cases h)
    refine ⟨_, _, pre30 _ ?_, hrun, hended, _, _, rfl, ?_, ⟨_, rfl⟩, hW, hsame.mono (by decide) (by decide)⟩
    · exact retI X28 hx Bd.returns (hb hby d11_62) hr
    · show Q11 Z a1 o w ko kw fi ru cl st le mo lo lw ov nv h0 n0 _ T28.heap _
      rw [e28]
      exact ⟨congrArg (fun z => some (Value.int z)) (if_neg fun z => absurd (hr0.symm.trans z.1) (by decide)).symm, N0, rfl⟩
theorem ef_14a (m : MethodId) (a1 : Addr) (o : Addr) (w : Addr) (fi : Int32) (ru : Int32) (cl : Int32) (st : Int32) (le : Int32) (mo : Int32) (ov : Int32) (nv : Int32) : entryFrame m #[(.ref a1)] 1 = mkF m 0 #[.val (.ref a1)] [] := by first | (simp [entryFrame, mkF, argsToLocals, Value.category]; done) | rfl
def Q14a (Z : State) (a1 : Addr) (o : Addr) (w : Addr) (ko : ClassId) (kw : ClassId) (fi : Int32) (ru : Int32) (cl : Int32) (st : Int32) (le : Int32) (mo : Int32) (lo : List Value) (lw : List Value) (ov : Int32) (nv : Int32) (h0 : Heap) (n0 : Nat) (v : Option Value) (h : Heap) (L : List Loc) : Prop := v = none ∧ Fr n0 L ∧ Keep h0 h [a1, o] ∧ own_C Z h a1 o w ko kw ((fi + 1) &&& ((4 : Int32) - (1 : Int32))) (ru - 1) cl st le mo lo lw
set_option maxRecDepth 65536 in
set_option maxHeartbeats 40000000 in
theorem rm14a (l : Launch) (Z : State) (a0 : Array Value) (hw : ∀ d ∈ tables_1, d.before a0 Z = true) (ws : List Jvm.Cond) (a1 : Addr) (o : Addr) (w : Addr) (ko : ClassId) (kw : ClassId) (fi : Int32) (ru : Int32) (cl : Int32) (st : Int32) (le : Int32) (mo : Int32) (lo : List Value) (lw : List Value) (ov : Int32) (nv : Int32) (h0 : Heap) (n0 : Nat) (Z0 : n0 ≤ h0.size) (P0 : own_C Z h0 a1 o w ko kw fi ru cl st le mo lo lw) (heq : ov = nv) (hfi : fi = 0 ∨ fi = 1) (hov : lo.getD fi.toNatClampNeg (.int (0 : Int32)) = .int ov) (hnv : lw.getD fi.toNatClampNeg (.int (0 : Int32)) = .int nv) (hlo : lo.length = 4) (n1 : a1 ≠ o) (n2 : a1 ≠ w) (n3 : o ≠ w) (g_a1 : n0 ≤ a1) (g_o : n0 ≤ o) (g_w : n0 ≤ w) :
    MetFree l (⟨"com/example/fettle/fettle/regex/Counts", "dropLargest", "()V"⟩ : MethodName) (head1 (Jvm.Cond.code (⟨"com/example/fettle/fettle/regex/Counts", "dropLargest", "()V"⟩ : MethodName) prog_24_method_10_code 1 none :: ws) ({ frames := 1, cells := 0, slots := 0, locals := 14 } : Room)) (fun α υ => α = #[(.ref a1)] ∧ Z.Warmed39 υ.vm ∧ υ.heap = h0) (fun _ _ _ _ _ => True) (fun _ υ ω υ' => ∃ v L, ω = .returned v ∧ Q14a Z a1 o w ko kw fi ru cl st le mo lo lw ov nv h0 n0 v υ'.heap L ∧ FrameEnd υ ω υ' L ({ frames := 1, cells := 0, slots := 0, locals := 14 } : Room).cells ({ frames := 1, cells := 0, slots := 0, locals := 14 } : Room).slots) := by
  refine MetFree.of_bodySF (plainFor_of_name pn_com_example_fettle_fettle_regex_Counts) hisR ?_
  intro p e s m args below meth c s₁ Bd hml0 hP hK
  obtain ⟨rfl, hZ, hh⟩ := hP
  have hx := Bd.exec
  have hby := Bd.bytes
  have hml : c.maxLocals = 1 := hml0
  have hown : s.vm.findClass "com/example/fettle/fettle/regex/Counts" = some m.cls := findClass_of_methodNamed Bd.named
  have hnm := (name_of_methodNamed Bd.named Bd.method).1
  have X0 : Stand p l e ({ frames := 1, cells := 0, slots := 0, locals := 14 } : Room) s m #[(.ref a1)] below meth c s₁ [] 0 0 := Stand.of_body Bd
  have e0 : s₁.heap = h0 := by rw [← hh, Bd.state]; rfl
  have N0 := Fr.nil n0
  have pre0 : ∀ τ, Steps p.tables e below (s₁.setTop (mkF m 0 #[.val (.ref a1)] [])) τ → Steps p.tables e below (s₁.setTop (entryFrame m #[(.ref a1)] 1)) τ := fun τ κ => castTop (ef_14a m a1 o w fi ru cl st le mo ov nv) κ
  obtain ⟨E_a1, F_oldest_a1, F_newest_a1, F_first_a1, F_runs_a1, F_clock_a1, F_starting_a1, F_least_a1, F_most_a1, V_o_a1, V_w_a1⟩ := P0
  have Kp0 : Keep h0 h0 [a1, o] := Keep.refl _ _
  have pre1 := fun τ (κ : Steps p.tables e below (s₁.setTop (mkF m 1 #[.val (.ref a1)] [(.ref a1)])) τ) => pre0 τ (by
    refine XS.aloadN X0.here hx rfl (hb hby d14_0) rfl rfl ?_
    show Steps p.tables e below (s₁.setTop (mkF m 1 #[.val (.ref a1)] [(.ref a1)])) _
    exact κ)
  obtain ⟨T2, X2, e2, st2⟩ := getF X0 hx hZ hown (host := "") (Or.inl (hw _ (List.mem_of_getElem? (i := 15) rfl))) Via.refl e0 F_oldest_a1 (g := (mkF m 1 #[.val (.ref a1)] [(.ref a1)])) rfl rfl (hb hby d14_1)
  have pre3 := fun τ (κ : Steps p.tables e below (T2.setTop (mkF m 4 #[.val (.ref a1)] [(.ref o)])) τ) => pre1 τ (st2 _ κ)
  have pre4 := fun τ (κ : Steps p.tables e below (T2.setTop (mkF m 5 #[.val (.ref a1)] [(.ref a1), (.ref o)])) τ) => pre3 τ (by
    refine XS.aloadN X2.here hx rfl (hb hby d14_4) rfl rfl ?_
    show Steps p.tables e below (T2.setTop (mkF m 5 #[.val (.ref a1)] [(.ref a1), (.ref o)])) _
    exact κ)
  obtain ⟨T5, X5, e5, st5⟩ := getF X2 hx hZ hown (host := "") (Or.inl (hw _ (List.mem_of_getElem? (i := 56) rfl))) Via.refl e2 F_first_a1 (g := (mkF m 5 #[.val (.ref a1)] [(.ref a1), (.ref o)])) rfl rfl (hb hby d14_5)
  have pre6 := fun τ (κ : Steps p.tables e below (T5.setTop (mkF m 8 #[.val (.ref a1)] [(.int fi), (.ref o)])) τ) => pre4 τ (st5 _ κ)
  obtain ⟨cl7, Ar7, -, S7, M7, H7, -⟩ := id V_o_a1
  have in7 : ¬ (fi < 0 ∨ cl7.slots.size ≤ (fi).toNatClampNeg) := inb_of S7 (own_fi hfi)
  have at7 : cl7.slots[(fi).toNatClampNeg]? = some (.int ov) := H7.at in7 hov
  have pre8 := fun τ (κ : Steps p.tables e below (T5.setTop (mkF m 10 #[.val (.ref a1)] [(.ref a1), (.int ov)])) τ) => pre6 τ (by
    refine X5.iaload hx (j := fi) (v := (.int ov)) (by rw [e5]; exact Ar7.1) (State.isArrayOf_alike hZ.alike Ar7.2.1) Ar7.2.2 in7 at7 (g := (mkF m 8 #[.val (.ref a1)] [(.int fi), (.ref o)])) rfl rfl (hb hby d14_8) _ ?_
    show Steps p.tables e below (T5.setTop (mkF m 9 #[.val (.ref a1)] [(.int ov)])) _
    refine XS.aloadN X5.here hx rfl (hb hby d14_9) rfl rfl ?_
    show Steps p.tables e below (T5.setTop (mkF m 10 #[.val (.ref a1)] [(.ref a1), (.int ov)])) _
    exact κ)
  obtain ⟨T9, X9, e9, st9⟩ := getF X5 hx hZ hown (host := "") (Or.inl (hw _ (List.mem_of_getElem? (i := 17) rfl))) Via.refl e5 F_newest_a1 (g := (mkF m 10 #[.val (.ref a1)] [(.ref a1), (.int ov)])) rfl rfl (hb hby d14_10)
  have pre10 := fun τ (κ : Steps p.tables e below (T9.setTop (mkF m 13 #[.val (.ref a1)] [(.ref w), (.int ov)])) τ) => pre8 τ (st9 _ κ)
  have pre11 := fun τ (κ : Steps p.tables e below (T9.setTop (mkF m 14 #[.val (.ref a1)] [(.ref a1), (.ref w), (.int ov)])) τ) => pre10 τ (by
    refine XS.aloadN X9.here hx rfl (hb hby d14_13) rfl rfl ?_
    show Steps p.tables e below (T9.setTop (mkF m 14 #[.val (.ref a1)] [(.ref a1), (.ref w), (.int ov)])) _
    exact κ)
  obtain ⟨T12, X12, e12, st12⟩ := getF X9 hx hZ hown (host := "") (Or.inl (hw _ (List.mem_of_getElem? (i := 56) rfl))) Via.refl e9 F_first_a1 (g := (mkF m 14 #[.val (.ref a1)] [(.ref a1), (.ref w), (.int ov)])) rfl rfl (hb hby d14_14)
  have pre13 := fun τ (κ : Steps p.tables e below (T12.setTop (mkF m 17 #[.val (.ref a1)] [(.int fi), (.ref w), (.int ov)])) τ) => pre11 τ (st12 _ κ)
  obtain ⟨cl14, Ar14, -, S14, M14, H14, -⟩ := id V_w_a1
  have in14 : ¬ (fi < 0 ∨ cl14.slots.size ≤ (fi).toNatClampNeg) := inb_of S14 (own_fi hfi)
  have at14 : cl14.slots[(fi).toNatClampNeg]? = some (.int nv) := H14.at in14 hnv
  have pre15 := fun τ (κ : Steps p.tables e below (T12.setTop (mkF m 24 #[.val (.ref a1)] [(.int (1 : Int32)), (.ref a1), (.ref a1)])) τ) => pre13 τ (by
    refine X12.iaload hx (j := fi) (v := (.int nv)) (by rw [e12]; exact Ar14.1) (State.isArrayOf_alike hZ.alike Ar14.2.1) Ar14.2.2 in14 at14 (g := (mkF m 17 #[.val (.ref a1)] [(.int fi), (.ref w), (.int ov)])) rfl rfl (hb hby d14_17) _ ?_
    show Steps p.tables e below (T12.setTop (mkF m 18 #[.val (.ref a1)] [(.int nv), (.int ov)])) _
    refine XS.icmpNo X12.here hx rfl (hb hby d14_18) rfl (teq heq).2 ?_
    show Steps p.tables e below (T12.setTop (mkF m 21 #[.val (.ref a1)] [])) _
    refine XS.aloadN X12.here hx rfl (hb hby d14_21) rfl rfl ?_
    show Steps p.tables e below (T12.setTop (mkF m 22 #[.val (.ref a1)] [(.ref a1)])) _
    refine XS.aloadN X12.here hx rfl (hb hby d14_22) rfl rfl ?_
    show Steps p.tables e below (T12.setTop (mkF m 23 #[.val (.ref a1)] [(.ref a1), (.ref a1)])) _
    refine XS.iconst X12.here hx rfl (hb hby d14_23) ?_
    show Steps p.tables e below (T12.setTop (mkF m 24 #[.val (.ref a1)] [(.int (1 : Int32)), (.ref a1), (.ref a1)])) _
    exact κ)
  obtain ⟨cq16, q16, q16'⟩ := E_a1.cell
  obtain ⟨_, _, ⟨T16, L16, k16, n16⟩, -, X16, ⟨Lc16, hQ16, l16, y16, z16⟩, st16⟩ := X12.privateBack hx (y := (⟨"com/example/fettle/fettle/regex/Counts", "index", "(I)I"⟩ : MethodName)) hown (mvT hZ (hw _ (List.mem_of_getElem? (i := 52) rfl))) (mvT hZ (hw _ (List.mem_of_getElem? (i := 53) rfl))) (own_sel hZ (hw _ (List.mem_of_getElem? (i := 6) rfl)) (hw _ (List.mem_of_getElem? (i := 54) rfl)) (hw _ (List.mem_of_getElem? (i := 53) rfl)) (by decide)) (Cond.privateMethod_at (mvP hZ (hw _ (List.mem_of_getElem? (i := 54) rfl)) (args := #[]))) (mvT hZ (hw _ (List.mem_of_getElem? (i := 55) rfl))) (by decide) (backOf (W := 1) (rm9 l Z a0 hw [] a1 (1 : Int32) o ko fi lo h0 n0 Z0 F_first_a1 F_oldest_a1 V_o_a1) hZ (hw _ (List.mem_of_getElem? (i := 55) rfl)) (hw _ (List.mem_of_getElem? (i := 7) rfl)) (by decide) (by decide)) (g := (mkF m 24 #[.val (.ref a1)] [(.int (1 : Int32)), (.ref a1), (.ref a1)])) rfl (by rw [hml]; rfl) (Steps.refl _) (a := a1) (by rw [e12]; exact q16) q16' (argsL := [(.int (1 : Int32))]) (rest := [(.ref a1)]) (lenOf pd_0 rfl) rfl (by show 2 * 0 + _ ≤ _; exact Nat.le_of_eq rfl) (hb hby d14_24) (fun _ _ => ⟨rfl, e12, (by decide : 0 + 0 ≤ _), (by decide : 0 + 0 ≤ _)⟩)
  dsimp only [Pt.U, Pt.locs, Pt.cells, Pt.slots] at X16 l16 y16 z16 st16 hQ16
  subst l16 y16 z16
  obtain ⟨rfl, Nq16, hh16⟩ := hQ16
  have E_a1_16 : Exa Z T16.heap a1 "com/example/fettle/fettle/regex/Counts" := by rw [hh16]; exact E_a1
  have F_oldest_a1_16 : Fld Z T16.heap a1 "com/example/fettle/fettle/regex/Counts" "oldest" "[I" (.ref o) := by rw [hh16]; exact F_oldest_a1
  have F_newest_a1_16 : Fld Z T16.heap a1 "com/example/fettle/fettle/regex/Counts" "newest" "[I" (.ref w) := by rw [hh16]; exact F_newest_a1
  have F_first_a1_16 : Fld Z T16.heap a1 "com/example/fettle/fettle/regex/Counts" "first" "I" (.int fi) := by rw [hh16]; exact F_first_a1
  have F_runs_a1_16 : Fld Z T16.heap a1 "com/example/fettle/fettle/regex/Counts" "runs" "I" (.int ru) := by rw [hh16]; exact F_runs_a1
  have F_clock_a1_16 : Fld Z T16.heap a1 "com/example/fettle/fettle/regex/Counts" "clock" "I" (.int cl) := by rw [hh16]; exact F_clock_a1
  have F_starting_a1_16 : Fld Z T16.heap a1 "com/example/fettle/fettle/regex/Counts" "starting" "Z" (.int st) := by rw [hh16]; exact F_starting_a1
  have F_least_a1_16 : Fld Z T16.heap a1 "com/example/fettle/fettle/regex/Counts" "least" "I" (.int le) := by rw [hh16]; exact F_least_a1
  have F_most_a1_16 : Fld Z T16.heap a1 "com/example/fettle/fettle/regex/Counts" "most" "I" (.int mo) := by rw [hh16]; exact F_most_a1
  have V_o_a1_16 : Arv Z T16.heap o ko .int (4 : Int32) lo (.int (0 : Int32)) := by rw [hh16]; exact V_o_a1
  have V_w_a1_16 : Arv Z T16.heap w kw .int (4 : Int32) lw (.int (0 : Int32)) := by rw [hh16]; exact V_w_a1
  have Z16 : n0 ≤ T16.heap.size := by rw [hh16]; exact Z0
  have Kp16 : Keep h0 T16.heap [a1, o] := by rw [hh16]; exact Kp0
  have N16 := Fr.app N0 Nq16
  have pre17 := fun τ (κ : Steps p.tables e below (T16.setTop (mkF m 27 #[.val (.ref a1)] [(.int ((fi + (1 : Int32)) &&& ((4 : Int32) - (1 : Int32)))), (.ref a1)])) τ) => pre15 τ (st16.trans κ)
  obtain ⟨T18, h18, X18, e18, W18, st18⟩ := putF X16 hx hZ hown (host := "") (Or.inl (hw _ (List.mem_of_getElem? (i := 56) rfl))) Via.refl rfl F_first_a1_16 E_a1_16 (Or.inl (hw _ (List.mem_of_getElem? (i := 57) rfl))) (hw _ (List.mem_of_getElem? (i := 6) rfl)) (ty := .int) (by decide) rfl rfl (g := (mkF m 27 #[.val (.ref a1)] [(.int ((fi + (1 : Int32)) &&& ((4 : Int32) - (1 : Int32)))), (.ref a1)])) rfl rfl (hb hby d14_27)
  have E_a1_18 : Exa Z h18 a1 "com/example/fettle/fettle/regex/Counts" := E_a1_16.wr W18
  have F_oldest_a1_18 : Fld Z h18 a1 "com/example/fettle/fettle/regex/Counts" "oldest" "[I" (.ref o) := F_oldest_a1_16.other W18 (Or.inr (slot_ne (Or.inl (hw _ (List.mem_of_getElem? (i := 16) rfl))) (Or.inl (hw _ (List.mem_of_getElem? (i := 57) rfl))) (by decide) (t := (.array .int)) (t' := .int) (by decide) (by decide)))
  have F_newest_a1_18 : Fld Z h18 a1 "com/example/fettle/fettle/regex/Counts" "newest" "[I" (.ref w) := F_newest_a1_16.other W18 (Or.inr (slot_ne (Or.inl (hw _ (List.mem_of_getElem? (i := 18) rfl))) (Or.inl (hw _ (List.mem_of_getElem? (i := 57) rfl))) (by decide) (t := (.array .int)) (t' := .int) (by decide) (by decide)))
  have F_runs_a1_18 : Fld Z h18 a1 "com/example/fettle/fettle/regex/Counts" "runs" "I" (.int ru) := F_runs_a1_16.other W18 (Or.inr (slot_ne (Or.inl (hw _ (List.mem_of_getElem? (i := 29) rfl))) (Or.inl (hw _ (List.mem_of_getElem? (i := 57) rfl))) (by decide) (t := .int) (t' := .int) (by decide) (by decide)))
  have F_clock_a1_18 : Fld Z h18 a1 "com/example/fettle/fettle/regex/Counts" "clock" "I" (.int cl) := F_clock_a1_16.other W18 (Or.inr (slot_ne (Or.inl (hw _ (List.mem_of_getElem? (i := 47) rfl))) (Or.inl (hw _ (List.mem_of_getElem? (i := 57) rfl))) (by decide) (t := .int) (t' := .int) (by decide) (by decide)))
  have F_starting_a1_18 : Fld Z h18 a1 "com/example/fettle/fettle/regex/Counts" "starting" "Z" (.int st) := F_starting_a1_16.other W18 (Or.inr (slot_ne (Or.inl (hw _ (List.mem_of_getElem? (i := 31) rfl))) (Or.inl (hw _ (List.mem_of_getElem? (i := 57) rfl))) (by decide) (t := .boolean) (t' := .int) (by decide) (by decide)))
  have F_least_a1_18 : Fld Z h18 a1 "com/example/fettle/fettle/regex/Counts" "least" "I" (.int le) := F_least_a1_16.other W18 (Or.inr (slot_ne (Or.inr (hw _ (List.mem_of_getElem? (i := 20) rfl))) (Or.inl (hw _ (List.mem_of_getElem? (i := 57) rfl))) (by decide) (t := .int) (t' := .int) (by decide) (by decide)))
  have F_most_a1_18 : Fld Z h18 a1 "com/example/fettle/fettle/regex/Counts" "most" "I" (.int mo) := F_most_a1_16.other W18 (Or.inr (slot_ne (Or.inr (hw _ (List.mem_of_getElem? (i := 22) rfl))) (Or.inl (hw _ (List.mem_of_getElem? (i := 57) rfl))) (by decide) (t := .int) (t' := .int) (by decide) (by decide)))
  have V_o_a1_18 : Arv Z h18 o ko .int (4 : Int32) lo (.int (0 : Int32)) := V_o_a1_16.other W18 (Ne.symm n1)
  have V_w_a1_18 : Arv Z h18 w kw .int (4 : Int32) lw (.int (0 : Int32)) := V_w_a1_16.other W18 (Ne.symm n2)
  have Kp18 : Keep h0 h18 [a1, o] := Kp16.wr W18 (Or.inl (List.mem_of_getElem? (i := 0) rfl))
  have N18 := Fr.snoc X18 N16 g_a1
  have Z18 : n0 ≤ h18.size := Nat.le_trans Z16 (Keep.of_wr W18).1
  have F_first_a1_18 : Fld Z h18 a1 "com/example/fettle/fettle/regex/Counts" "first" "I" (.int ((fi + (1 : Int32)) &&& ((4 : Int32) - (1 : Int32)))) := F_first_a1_16.same W18
  have pre19 := fun τ (κ : Steps p.tables e below (T18.setTop (mkF m 30 #[.val (.ref a1)] [])) τ) => pre17 τ (st18 _ κ)
  have pre20 := fun τ (κ : Steps p.tables e below (T18.setTop (mkF m 32 #[.val (.ref a1)] [(.ref a1), (.ref a1)])) τ) => pre19 τ (by
    refine XS.aloadN X18.here hx rfl (hb hby d14_30) rfl rfl ?_
    show Steps p.tables e below (T18.setTop (mkF m 31 #[.val (.ref a1)] [(.ref a1)])) _
    refine XS.dup X18.here hx rfl (hb hby d14_31) rfl rfl ?_
    show Steps p.tables e below (T18.setTop (mkF m 32 #[.val (.ref a1)] [(.ref a1), (.ref a1)])) _
    exact κ)
  obtain ⟨T21, X21, e21, st21⟩ := getF X18 hx hZ hown (host := "") (Or.inl (hw _ (List.mem_of_getElem? (i := 28) rfl))) Via.refl e18 F_runs_a1_18 (g := (mkF m 32 #[.val (.ref a1)] [(.ref a1), (.ref a1)])) rfl rfl (hb hby d14_32)
  have pre22 := fun τ (κ : Steps p.tables e below (T21.setTop (mkF m 35 #[.val (.ref a1)] [(.int ru), (.ref a1)])) τ) => pre20 τ (st21 _ κ)
  have pre23 := fun τ (κ : Steps p.tables e below (T21.setTop (mkF m 37 #[.val (.ref a1)] [(.int (ru - (1 : Int32))), (.ref a1)])) τ) => pre22 τ (by
    refine XS.iconst X21.here hx rfl (hb hby d14_35) ?_
    show Steps p.tables e below (T21.setTop (mkF m 36 #[.val (.ref a1)] [(.int (1 : Int32)), (.int ru), (.ref a1)])) _
    refine XS.isub X21.here hx rfl (hb hby d14_36) rfl ?_
    show Steps p.tables e below (T21.setTop (mkF m 37 #[.val (.ref a1)] [(.int (ru - (1 : Int32))), (.ref a1)])) _
    exact κ)
  obtain ⟨T24, h24, X24, e24, W24, st24⟩ := putF X21 hx hZ hown (host := "") (Or.inl (hw _ (List.mem_of_getElem? (i := 28) rfl))) Via.refl e21 F_runs_a1_18 E_a1_18 (Or.inl (hw _ (List.mem_of_getElem? (i := 29) rfl))) (hw _ (List.mem_of_getElem? (i := 6) rfl)) (ty := .int) (by decide) rfl rfl (g := (mkF m 37 #[.val (.ref a1)] [(.int (ru - (1 : Int32))), (.ref a1)])) rfl rfl (hb hby d14_37)
  have E_a1_24 : Exa Z h24 a1 "com/example/fettle/fettle/regex/Counts" := E_a1_18.wr W24
  have F_oldest_a1_24 : Fld Z h24 a1 "com/example/fettle/fettle/regex/Counts" "oldest" "[I" (.ref o) := F_oldest_a1_18.other W24 (Or.inr (slot_ne (Or.inl (hw _ (List.mem_of_getElem? (i := 16) rfl))) (Or.inl (hw _ (List.mem_of_getElem? (i := 29) rfl))) (by decide) (t := (.array .int)) (t' := .int) (by decide) (by decide)))
  have F_newest_a1_24 : Fld Z h24 a1 "com/example/fettle/fettle/regex/Counts" "newest" "[I" (.ref w) := F_newest_a1_18.other W24 (Or.inr (slot_ne (Or.inl (hw _ (List.mem_of_getElem? (i := 18) rfl))) (Or.inl (hw _ (List.mem_of_getElem? (i := 29) rfl))) (by decide) (t := (.array .int)) (t' := .int) (by decide) (by decide)))
  have F_clock_a1_24 : Fld Z h24 a1 "com/example/fettle/fettle/regex/Counts" "clock" "I" (.int cl) := F_clock_a1_18.other W24 (Or.inr (slot_ne (Or.inl (hw _ (List.mem_of_getElem? (i := 47) rfl))) (Or.inl (hw _ (List.mem_of_getElem? (i := 29) rfl))) (by decide) (t := .int) (t' := .int) (by decide) (by decide)))
  have F_starting_a1_24 : Fld Z h24 a1 "com/example/fettle/fettle/regex/Counts" "starting" "Z" (.int st) := F_starting_a1_18.other W24 (Or.inr (slot_ne (Or.inl (hw _ (List.mem_of_getElem? (i := 31) rfl))) (Or.inl (hw _ (List.mem_of_getElem? (i := 29) rfl))) (by decide) (t := .boolean) (t' := .int) (by decide) (by decide)))
  have F_least_a1_24 : Fld Z h24 a1 "com/example/fettle/fettle/regex/Counts" "least" "I" (.int le) := F_least_a1_18.other W24 (Or.inr (slot_ne (Or.inr (hw _ (List.mem_of_getElem? (i := 20) rfl))) (Or.inl (hw _ (List.mem_of_getElem? (i := 29) rfl))) (by decide) (t := .int) (t' := .int) (by decide) (by decide)))
  have F_most_a1_24 : Fld Z h24 a1 "com/example/fettle/fettle/regex/Counts" "most" "I" (.int mo) := F_most_a1_18.other W24 (Or.inr (slot_ne (Or.inr (hw _ (List.mem_of_getElem? (i := 22) rfl))) (Or.inl (hw _ (List.mem_of_getElem? (i := 29) rfl))) (by decide) (t := .int) (t' := .int) (by decide) (by decide)))
  have V_o_a1_24 : Arv Z h24 o ko .int (4 : Int32) lo (.int (0 : Int32)) := V_o_a1_18.other W24 (Ne.symm n1)
  have V_w_a1_24 : Arv Z h24 w kw .int (4 : Int32) lw (.int (0 : Int32)) := V_w_a1_18.other W24 (Ne.symm n2)
  have F_first_a1_24 : Fld Z h24 a1 "com/example/fettle/fettle/regex/Counts" "first" "I" (.int ((fi + (1 : Int32)) &&& ((4 : Int32) - (1 : Int32)))) := F_first_a1_18.other W24 (Or.inr (slot_ne (Or.inl (hw _ (List.mem_of_getElem? (i := 57) rfl))) (Or.inl (hw _ (List.mem_of_getElem? (i := 29) rfl))) (by decide) (t := .int) (t' := .int) (by decide) (by decide)))
  have Kp24 : Keep h0 h24 [a1, o] := Kp18.wr W24 (Or.inl (List.mem_of_getElem? (i := 0) rfl))
  have N24 := Fr.snoc X24 N18 g_a1
  have Z24 : n0 ≤ h24.size := Nat.le_trans Z18 (Keep.of_wr W24).1
  have F_runs_a1_24 : Fld Z h24 a1 "com/example/fettle/fettle/regex/Counts" "runs" "I" (.int (ru - (1 : Int32))) := F_runs_a1_18.same W24
  have pre25 := fun τ (κ : Steps p.tables e below (T24.setTop (mkF m 40 #[.val (.ref a1)] [])) τ) => pre23 τ (st24 _ κ)
  have pre26 := fun τ (κ : Steps p.tables e below (T24.setTop (mkF m 56 #[.val (.ref a1)] [])) τ) => pre25 τ (by
    refine XS.goto X24.here hx rfl (pc0 := 40) (pc' := 56) rfl (hb hby d14_40) (by decide) (by decide) ?_
    show Steps p.tables e below (T24.setTop (mkF m 56 #[.val (.ref a1)] [])) _
    exact κ)
  obtain ⟨fs, hr, hrun, hended, hW, hsame⟩ := X24.leave (v := none) (fun _ => rfl)
  refine ⟨_, _, pre26 _ ?_, hrun, hended, _, _, rfl, ?_, ⟨_, rfl⟩, hW, hsame.mono (by decide) (by decide)⟩
  · exact X24.returnOut hx Bd.returns (hb hby d14_56) hr
  · show Q14a Z a1 o w ko kw fi ru cl st le mo lo lw ov nv h0 n0 _ T24.heap _
    rw [e24]
    exact ⟨rfl, N24, Kp24, ⟨E_a1_24, F_oldest_a1_24, F_newest_a1_24, F_first_a1_24, F_runs_a1_24, F_clock_a1_24, F_starting_a1_24, F_least_a1_24, F_most_a1_24, V_o_a1_24, V_w_a1_24⟩⟩
theorem ef_14b (m : MethodId) (a1 : Addr) (o : Addr) (w : Addr) (fi : Int32) (ru : Int32) (cl : Int32) (st : Int32) (le : Int32) (mo : Int32) (ov : Int32) (nv : Int32) : entryFrame m #[(.ref a1)] 1 = mkF m 0 #[.val (.ref a1)] [] := by first | (simp [entryFrame, mkF, argsToLocals, Value.category]; done) | rfl
def Q14b (Z : State) (a1 : Addr) (o : Addr) (w : Addr) (ko : ClassId) (kw : ClassId) (fi : Int32) (ru : Int32) (cl : Int32) (st : Int32) (le : Int32) (mo : Int32) (lo : List Value) (lw : List Value) (ov : Int32) (nv : Int32) (h0 : Heap) (n0 : Nat) (v : Option Value) (h : Heap) (L : List Loc) : Prop := v = none ∧ Fr n0 L ∧ Keep h0 h [a1, o] ∧ own_C Z h a1 o w ko kw fi ru cl st le mo (lo.set fi.toNatClampNeg (.int (ov + 1))) lw
set_option maxRecDepth 65536 in
set_option maxHeartbeats 40000000 in
theorem rm14b (l : Launch) (Z : State) (a0 : Array Value) (hw : ∀ d ∈ tables_1, d.before a0 Z = true) (ws : List Jvm.Cond) (a1 : Addr) (o : Addr) (w : Addr) (ko : ClassId) (kw : ClassId) (fi : Int32) (ru : Int32) (cl : Int32) (st : Int32) (le : Int32) (mo : Int32) (lo : List Value) (lw : List Value) (ov : Int32) (nv : Int32) (h0 : Heap) (n0 : Nat) (Z0 : n0 ≤ h0.size) (P0 : own_C Z h0 a1 o w ko kw fi ru cl st le mo lo lw) (heq : ¬ ov = nv) (hfi : fi = 0 ∨ fi = 1) (hov : lo.getD fi.toNatClampNeg (.int (0 : Int32)) = .int ov) (hnv : lw.getD fi.toNatClampNeg (.int (0 : Int32)) = .int nv) (hlo : lo.length = 4) (n1 : a1 ≠ o) (n2 : a1 ≠ w) (n3 : o ≠ w) (g_a1 : n0 ≤ a1) (g_o : n0 ≤ o) (g_w : n0 ≤ w) :
    MetFree l (⟨"com/example/fettle/fettle/regex/Counts", "dropLargest", "()V"⟩ : MethodName) (head1 (Jvm.Cond.code (⟨"com/example/fettle/fettle/regex/Counts", "dropLargest", "()V"⟩ : MethodName) prog_24_method_10_code 1 none :: ws) ({ frames := 0, cells := 0, slots := 0, locals := 0 } : Room)) (fun α υ => α = #[(.ref a1)] ∧ Z.Warmed39 υ.vm ∧ υ.heap = h0) (fun _ _ _ _ _ => True) (fun _ υ ω υ' => ∃ v L, ω = .returned v ∧ Q14b Z a1 o w ko kw fi ru cl st le mo lo lw ov nv h0 n0 v υ'.heap L ∧ FrameEnd υ ω υ' L ({ frames := 0, cells := 0, slots := 0, locals := 0 } : Room).cells ({ frames := 0, cells := 0, slots := 0, locals := 0 } : Room).slots) := by
  refine MetFree.of_bodySF (plainFor_of_name pn_com_example_fettle_fettle_regex_Counts) hisR ?_
  intro p e s m args below meth c s₁ Bd hml0 hP hK
  obtain ⟨rfl, hZ, hh⟩ := hP
  have hx := Bd.exec
  have hby := Bd.bytes
  have hml : c.maxLocals = 1 := hml0
  have hown : s.vm.findClass "com/example/fettle/fettle/regex/Counts" = some m.cls := findClass_of_methodNamed Bd.named
  have hnm := (name_of_methodNamed Bd.named Bd.method).1
  have X0 : Stand p l e ({ frames := 0, cells := 0, slots := 0, locals := 0 } : Room) s m #[(.ref a1)] below meth c s₁ [] 0 0 := Stand.of_body Bd
  have e0 : s₁.heap = h0 := by rw [← hh, Bd.state]; rfl
  have N0 := Fr.nil n0
  have pre0 : ∀ τ, Steps p.tables e below (s₁.setTop (mkF m 0 #[.val (.ref a1)] [])) τ → Steps p.tables e below (s₁.setTop (entryFrame m #[(.ref a1)] 1)) τ := fun τ κ => castTop (ef_14b m a1 o w fi ru cl st le mo ov nv) κ
  obtain ⟨E_a1, F_oldest_a1, F_newest_a1, F_first_a1, F_runs_a1, F_clock_a1, F_starting_a1, F_least_a1, F_most_a1, V_o_a1, V_w_a1⟩ := P0
  have Kp0 : Keep h0 h0 [a1, o] := Keep.refl _ _
  have pre1 := fun τ (κ : Steps p.tables e below (s₁.setTop (mkF m 1 #[.val (.ref a1)] [(.ref a1)])) τ) => pre0 τ (by
    refine XS.aloadN X0.here hx rfl (hb hby d14_0) rfl rfl ?_
    show Steps p.tables e below (s₁.setTop (mkF m 1 #[.val (.ref a1)] [(.ref a1)])) _
    exact κ)
  obtain ⟨T2, X2, e2, st2⟩ := getF X0 hx hZ hown (host := "") (Or.inl (hw _ (List.mem_of_getElem? (i := 15) rfl))) Via.refl e0 F_oldest_a1 (g := (mkF m 1 #[.val (.ref a1)] [(.ref a1)])) rfl rfl (hb hby d14_1)
  have pre3 := fun τ (κ : Steps p.tables e below (T2.setTop (mkF m 4 #[.val (.ref a1)] [(.ref o)])) τ) => pre1 τ (st2 _ κ)
  have pre4 := fun τ (κ : Steps p.tables e below (T2.setTop (mkF m 5 #[.val (.ref a1)] [(.ref a1), (.ref o)])) τ) => pre3 τ (by
    refine XS.aloadN X2.here hx rfl (hb hby d14_4) rfl rfl ?_
    show Steps p.tables e below (T2.setTop (mkF m 5 #[.val (.ref a1)] [(.ref a1), (.ref o)])) _
    exact κ)
  obtain ⟨T5, X5, e5, st5⟩ := getF X2 hx hZ hown (host := "") (Or.inl (hw _ (List.mem_of_getElem? (i := 56) rfl))) Via.refl e2 F_first_a1 (g := (mkF m 5 #[.val (.ref a1)] [(.ref a1), (.ref o)])) rfl rfl (hb hby d14_5)
  have pre6 := fun τ (κ : Steps p.tables e below (T5.setTop (mkF m 8 #[.val (.ref a1)] [(.int fi), (.ref o)])) τ) => pre4 τ (st5 _ κ)
  obtain ⟨cl7, Ar7, -, S7, M7, H7, -⟩ := id V_o_a1
  have in7 : ¬ (fi < 0 ∨ cl7.slots.size ≤ (fi).toNatClampNeg) := inb_of S7 (own_fi hfi)
  have at7 : cl7.slots[(fi).toNatClampNeg]? = some (.int ov) := H7.at in7 hov
  have pre8 := fun τ (κ : Steps p.tables e below (T5.setTop (mkF m 10 #[.val (.ref a1)] [(.ref a1), (.int ov)])) τ) => pre6 τ (by
    refine X5.iaload hx (j := fi) (v := (.int ov)) (by rw [e5]; exact Ar7.1) (State.isArrayOf_alike hZ.alike Ar7.2.1) Ar7.2.2 in7 at7 (g := (mkF m 8 #[.val (.ref a1)] [(.int fi), (.ref o)])) rfl rfl (hb hby d14_8) _ ?_
    show Steps p.tables e below (T5.setTop (mkF m 9 #[.val (.ref a1)] [(.int ov)])) _
    refine XS.aloadN X5.here hx rfl (hb hby d14_9) rfl rfl ?_
    show Steps p.tables e below (T5.setTop (mkF m 10 #[.val (.ref a1)] [(.ref a1), (.int ov)])) _
    exact κ)
  obtain ⟨T9, X9, e9, st9⟩ := getF X5 hx hZ hown (host := "") (Or.inl (hw _ (List.mem_of_getElem? (i := 17) rfl))) Via.refl e5 F_newest_a1 (g := (mkF m 10 #[.val (.ref a1)] [(.ref a1), (.int ov)])) rfl rfl (hb hby d14_10)
  have pre10 := fun τ (κ : Steps p.tables e below (T9.setTop (mkF m 13 #[.val (.ref a1)] [(.ref w), (.int ov)])) τ) => pre8 τ (st9 _ κ)
  have pre11 := fun τ (κ : Steps p.tables e below (T9.setTop (mkF m 14 #[.val (.ref a1)] [(.ref a1), (.ref w), (.int ov)])) τ) => pre10 τ (by
    refine XS.aloadN X9.here hx rfl (hb hby d14_13) rfl rfl ?_
    show Steps p.tables e below (T9.setTop (mkF m 14 #[.val (.ref a1)] [(.ref a1), (.ref w), (.int ov)])) _
    exact κ)
  obtain ⟨T12, X12, e12, st12⟩ := getF X9 hx hZ hown (host := "") (Or.inl (hw _ (List.mem_of_getElem? (i := 56) rfl))) Via.refl e9 F_first_a1 (g := (mkF m 14 #[.val (.ref a1)] [(.ref a1), (.ref w), (.int ov)])) rfl rfl (hb hby d14_14)
  have pre13 := fun τ (κ : Steps p.tables e below (T12.setTop (mkF m 17 #[.val (.ref a1)] [(.int fi), (.ref w), (.int ov)])) τ) => pre11 τ (st12 _ κ)
  obtain ⟨cl14, Ar14, -, S14, M14, H14, -⟩ := id V_w_a1
  have in14 : ¬ (fi < 0 ∨ cl14.slots.size ≤ (fi).toNatClampNeg) := inb_of S14 (own_fi hfi)
  have at14 : cl14.slots[(fi).toNatClampNeg]? = some (.int nv) := H14.at in14 hnv
  have pre15 := fun τ (κ : Steps p.tables e below (T12.setTop (mkF m 44 #[.val (.ref a1)] [(.ref a1)])) τ) => pre13 τ (by
    refine X12.iaload hx (j := fi) (v := (.int nv)) (by rw [e12]; exact Ar14.1) (State.isArrayOf_alike hZ.alike Ar14.2.1) Ar14.2.2 in14 at14 (g := (mkF m 17 #[.val (.ref a1)] [(.int fi), (.ref w), (.int ov)])) rfl rfl (hb hby d14_17) _ ?_
    show Steps p.tables e below (T12.setTop (mkF m 18 #[.val (.ref a1)] [(.int nv), (.int ov)])) _
    refine XS.icmpYes X12.here hx rfl (pc0 := 18) (pc' := 43) rfl (hb hby d14_18) rfl (feq heq).2 (by decide) (by decide) ?_
    show Steps p.tables e below (T12.setTop (mkF m 43 #[.val (.ref a1)] [])) _
    refine XS.aloadN X12.here hx rfl (hb hby d14_43) rfl rfl ?_
    show Steps p.tables e below (T12.setTop (mkF m 44 #[.val (.ref a1)] [(.ref a1)])) _
    exact κ)
  obtain ⟨T16, X16, e16, st16⟩ := getF X12 hx hZ hown (host := "") (Or.inl (hw _ (List.mem_of_getElem? (i := 15) rfl))) Via.refl e12 F_oldest_a1 (g := (mkF m 44 #[.val (.ref a1)] [(.ref a1)])) rfl rfl (hb hby d14_44)
  have pre17 := fun τ (κ : Steps p.tables e below (T16.setTop (mkF m 47 #[.val (.ref a1)] [(.ref o)])) τ) => pre15 τ (st16 _ κ)
  have pre18 := fun τ (κ : Steps p.tables e below (T16.setTop (mkF m 48 #[.val (.ref a1)] [(.ref a1), (.ref o)])) τ) => pre17 τ (by
    refine XS.aloadN X16.here hx rfl (hb hby d14_47) rfl rfl ?_
    show Steps p.tables e below (T16.setTop (mkF m 48 #[.val (.ref a1)] [(.ref a1), (.ref o)])) _
    exact κ)
  obtain ⟨T19, X19, e19, st19⟩ := getF X16 hx hZ hown (host := "") (Or.inl (hw _ (List.mem_of_getElem? (i := 56) rfl))) Via.refl e16 F_first_a1 (g := (mkF m 48 #[.val (.ref a1)] [(.ref a1), (.ref o)])) rfl rfl (hb hby d14_48)
  have pre20 := fun τ (κ : Steps p.tables e below (T19.setTop (mkF m 51 #[.val (.ref a1)] [(.int fi), (.ref o)])) τ) => pre18 τ (st19 _ κ)
  have pre21 := fun τ (κ : Steps p.tables e below (T19.setTop (mkF m 52 #[.val (.ref a1)] [(.int fi), (.ref o), (.int fi), (.ref o)])) τ) => pre20 τ (by
    refine Jvm.Free.XT.dup2 X19.here hx rfl (hb hby d14_51) rfl rfl rfl ?_
    show Steps p.tables e below (T19.setTop (mkF m 52 #[.val (.ref a1)] [(.int fi), (.ref o), (.int fi), (.ref o)])) _
    exact κ)
  obtain ⟨cl22, Ar22, -, S22, M22, H22, -⟩ := id V_o_a1
  have in22 : ¬ (fi < 0 ∨ cl22.slots.size ≤ (fi).toNatClampNeg) := inb_of S22 (own_fi hfi)
  have at22 : cl22.slots[(fi).toNatClampNeg]? = some (.int ov) := H22.at in22 hov
  have pre23 := fun τ (κ : Steps p.tables e below (T19.setTop (mkF m 55 #[.val (.ref a1)] [(.int (ov + (1 : Int32))), (.int fi), (.ref o)])) τ) => pre21 τ (by
    refine X19.iaload hx (j := fi) (v := (.int ov)) (by rw [e19]; exact Ar22.1) (State.isArrayOf_alike hZ.alike Ar22.2.1) Ar22.2.2 in22 at22 (g := (mkF m 52 #[.val (.ref a1)] [(.int fi), (.ref o), (.int fi), (.ref o)])) rfl rfl (hb hby d14_52) _ ?_
    show Steps p.tables e below (T19.setTop (mkF m 53 #[.val (.ref a1)] [(.int ov), (.int fi), (.ref o)])) _
    refine XS.iconst X19.here hx rfl (hb hby d14_53) ?_
    show Steps p.tables e below (T19.setTop (mkF m 54 #[.val (.ref a1)] [(.int (1 : Int32)), (.int ov), (.int fi), (.ref o)])) _
    refine XS.iadd X19.here hx rfl (hb hby d14_54) rfl ?_
    show Steps p.tables e below (T19.setTop (mkF m 55 #[.val (.ref a1)] [(.int (ov + (1 : Int32))), (.int fi), (.ref o)])) _
    exact κ)
  have hi2 := own_fin hfi hlo
  obtain ⟨cl24, Ar24, q24, S24, M24, H24, G24⟩ := id V_o_a1
  have in24 : ¬ (fi < 0 ∨ cl24.slots.size ≤ (fi).toNatClampNeg) := inb_of S24 (own_fi hfi)
  obtain ⟨T25, h25, X25, e25, W25, st25⟩ := stI X19 hx hZ e19 Ar24 (j := fi) in24 (g := (mkF m 55 #[.val (.ref a1)] [(.int (ov + (1 : Int32))), (.int fi), (.ref o)])) rfl rfl (hb hby d14_55)
  have E_a1_25 : Exa Z h25 a1 "com/example/fettle/fettle/regex/Counts" := E_a1.wr W25
  have F_oldest_a1_25 : Fld Z h25 a1 "com/example/fettle/fettle/regex/Counts" "oldest" "[I" (.ref o) := F_oldest_a1.other W25 (Or.inl n1)
  have F_newest_a1_25 : Fld Z h25 a1 "com/example/fettle/fettle/regex/Counts" "newest" "[I" (.ref w) := F_newest_a1.other W25 (Or.inl n1)
  have F_first_a1_25 : Fld Z h25 a1 "com/example/fettle/fettle/regex/Counts" "first" "I" (.int fi) := F_first_a1.other W25 (Or.inl n1)
  have F_runs_a1_25 : Fld Z h25 a1 "com/example/fettle/fettle/regex/Counts" "runs" "I" (.int ru) := F_runs_a1.other W25 (Or.inl n1)
  have F_clock_a1_25 : Fld Z h25 a1 "com/example/fettle/fettle/regex/Counts" "clock" "I" (.int cl) := F_clock_a1.other W25 (Or.inl n1)
  have F_starting_a1_25 : Fld Z h25 a1 "com/example/fettle/fettle/regex/Counts" "starting" "Z" (.int st) := F_starting_a1.other W25 (Or.inl n1)
  have F_least_a1_25 : Fld Z h25 a1 "com/example/fettle/fettle/regex/Counts" "least" "I" (.int le) := F_least_a1.other W25 (Or.inl n1)
  have F_most_a1_25 : Fld Z h25 a1 "com/example/fettle/fettle/regex/Counts" "most" "I" (.int mo) := F_most_a1.other W25 (Or.inl n1)
  have V_w_a1_25 : Arv Z h25 w kw .int (4 : Int32) lw (.int (0 : Int32)) := V_w_a1.other W25 (Ne.symm n3)
  have Kp25 : Keep h0 h25 [a1, o] := Kp0.wr W25 (Or.inl (List.mem_of_getElem? (i := 1) rfl))
  have N25 := Fr.snoc X25 N0 g_o
  have Z25 : n0 ≤ h25.size := Nat.le_trans Z0 (Keep.of_wr W25).1
  have V_o_25 : Arv Z h25 o ko .int (4 : Int32) (lo.set fi.toNatClampNeg (.int (ov + 1))) (.int (0 : Int32)) := Arv.set Ar24 q24 S24 M24 H24 G24 rfl W25 fi.toNatClampNeg (by first | rfl | assumption) (by assumption)
  have pre26 := fun τ (κ : Steps p.tables e below (T25.setTop (mkF m 56 #[.val (.ref a1)] [])) τ) => pre23 τ (st25 _ κ)
  obtain ⟨fs, hr, hrun, hended, hW, hsame⟩ := X25.leave (v := none) (fun _ => rfl)
  refine ⟨_, _, pre26 _ ?_, hrun, hended, _, _, rfl, ?_, ⟨_, rfl⟩, hW, hsame.mono (by decide) (by decide)⟩
  · exact X25.returnOut hx Bd.returns (hb hby d14_56) hr
  · show Q14b Z a1 o w ko kw fi ru cl st le mo lo lw ov nv h0 n0 _ T25.heap _
    rw [e25]
    exact ⟨rfl, N25, Kp25, ⟨E_a1_25, F_oldest_a1_25, F_newest_a1_25, F_first_a1_25, F_runs_a1_25, F_clock_a1_25, F_starting_a1_25, F_least_a1_25, F_most_a1_25, V_o_25, V_w_a1_25⟩⟩
theorem ef_13 (m : MethodId) (a1 : Addr) (ab : Addr) (o : Addr) (w : Addr) (fi : Int32) (ru : Int32) (cl : Int32) (st : Int32) (le : Int32) (mo : Int32) (ob : Addr) (wb : Addr) (fib : Int32) (rub : Int32) (clb : Int32) (stb : Int32) (leb : Int32) (mob : Int32) : entryFrame m #[(.ref a1), (.ref ab)] 5 = mkF m 0 #[.val (.ref a1), .val (.ref ab), .unset, .unset, .unset] [] := by first | (simp [entryFrame, mkF, argsToLocals, Value.category]; done) | rfl
def Q13 (Z : State) (a1 : Addr) (ab : Addr) (o : Addr) (w : Addr) (ko : ClassId) (kw : ClassId) (fi : Int32) (ru : Int32) (cl : Int32) (st : Int32) (le : Int32) (mo : Int32) (lo : List Value) (lw : List Value) (ob : Addr) (wb : Addr) (kob : ClassId) (kwb : ClassId) (fib : Int32) (rub : Int32) (clb : Int32) (stb : Int32) (leb : Int32) (mob : Int32) (lob : List Value) (lwb : List Value) (h0 : Heap) (n0 : Nat) (v : Option Value) (h : Heap) (L : List Loc) : Prop := v = none ∧ Fr n0 L ∧ Keep h0 h [a1, ab] ∧ own_C Z h a1 ob wb kob kwb fib rub clb st le mo lob lwb ∧ own_C Z h ab o w ko kw 0 0 cl stb leb mob lo lw
set_option maxRecDepth 65536 in
set_option maxHeartbeats 40000000 in
theorem rm13 (l : Launch) (Z : State) (a0 : Array Value) (hw : ∀ d ∈ tables_1, d.before a0 Z = true) (ws : List Jvm.Cond) (a1 : Addr) (ab : Addr) (o : Addr) (w : Addr) (ko : ClassId) (kw : ClassId) (fi : Int32) (ru : Int32) (cl : Int32) (st : Int32) (le : Int32) (mo : Int32) (lo : List Value) (lw : List Value) (ob : Addr) (wb : Addr) (kob : ClassId) (kwb : ClassId) (fib : Int32) (rub : Int32) (clb : Int32) (stb : Int32) (leb : Int32) (mob : Int32) (lob : List Value) (lwb : List Value) (h0 : Heap) (n0 : Nat) (Z0 : n0 ≤ h0.size) (P0 : own_C Z h0 a1 o w ko kw fi ru cl st le mo lo lw) (P2 : own_C Z h0 ab ob wb kob kwb fib rub clb stb leb mob lob lwb) (n1 : a1 ≠ o) (n2 : a1 ≠ w) (n3 : o ≠ w) (m1 : a1 ≠ ab) (m2 : a1 ≠ ob) (m3 : a1 ≠ wb) (m4 : ab ≠ o) (m5 : ab ≠ w) (m6 : ab ≠ ob) (m7 : ab ≠ wb) (g_a1 : n0 ≤ a1) (g_ab : n0 ≤ ab) :
    MetFree l (⟨"com/example/fettle/fettle/regex/Counts", "takeRunsOf", "(Lcom/example/fettle/fettle/regex/Counts;)V"⟩ : MethodName) (head1 (Jvm.Cond.code (⟨"com/example/fettle/fettle/regex/Counts", "takeRunsOf", "(Lcom/example/fettle/fettle/regex/Counts;)V"⟩ : MethodName) prog_24_method_13_code 5 none :: ws) ({ frames := 0, cells := 0, slots := 0, locals := 0 } : Room)) (fun α υ => α = #[(.ref a1), (.ref ab)] ∧ Z.Warmed39 υ.vm ∧ υ.heap = h0) (fun _ _ _ _ _ => True) (fun _ υ ω υ' => ∃ v L, ω = .returned v ∧ Q13 Z a1 ab o w ko kw fi ru cl st le mo lo lw ob wb kob kwb fib rub clb stb leb mob lob lwb h0 n0 v υ'.heap L ∧ FrameEnd υ ω υ' L ({ frames := 0, cells := 0, slots := 0, locals := 0 } : Room).cells ({ frames := 0, cells := 0, slots := 0, locals := 0 } : Room).slots) := by
  refine MetFree.of_bodySF (plainFor_of_name pn_com_example_fettle_fettle_regex_Counts) hisR ?_
  intro p e s m args below meth c s₁ Bd hml0 hP hK
  obtain ⟨rfl, hZ, hh⟩ := hP
  have hx := Bd.exec
  have hby := Bd.bytes
  have hml : c.maxLocals = 5 := hml0
  have hown : s.vm.findClass "com/example/fettle/fettle/regex/Counts" = some m.cls := findClass_of_methodNamed Bd.named
  have hnm := (name_of_methodNamed Bd.named Bd.method).1
  have X0 : Stand p l e ({ frames := 0, cells := 0, slots := 0, locals := 0 } : Room) s m #[(.ref a1), (.ref ab)] below meth c s₁ [] 0 0 := Stand.of_body Bd
  have e0 : s₁.heap = h0 := by rw [← hh, Bd.state]; rfl
  have N0 := Fr.nil n0
  have pre0 : ∀ τ, Steps p.tables e below (s₁.setTop (mkF m 0 #[.val (.ref a1), .val (.ref ab), .unset, .unset, .unset] [])) τ → Steps p.tables e below (s₁.setTop (entryFrame m #[(.ref a1), (.ref ab)] 5)) τ := fun τ κ => castTop (ef_13 m a1 ab o w fi ru cl st le mo ob wb fib rub clb stb leb mob) κ
  obtain ⟨E_a1, F_oldest_a1, F_newest_a1, F_first_a1, F_runs_a1, F_clock_a1, F_starting_a1, F_least_a1, F_most_a1, V_o_a1, V_w_a1⟩ := P0
  obtain ⟨E_ab, F_oldest_ab, F_newest_ab, F_first_ab, F_runs_ab, F_clock_ab, F_starting_ab, F_least_ab, F_most_ab, V_o_ab, V_w_ab⟩ := P2
  have Kp0 : Keep h0 h0 [a1, ab] := Keep.refl _ _
  have pre1 := fun τ (κ : Steps p.tables e below (s₁.setTop (mkF m 1 #[.val (.ref a1), .val (.ref ab), .unset, .unset, .unset] [(.ref a1)])) τ) => pre0 τ (by
    refine XS.aloadN X0.here hx rfl (hb hby d13_0) rfl rfl ?_
    show Steps p.tables e below (s₁.setTop (mkF m 1 #[.val (.ref a1), .val (.ref ab), .unset, .unset, .unset] [(.ref a1)])) _
    exact κ)
  obtain ⟨T2, X2, e2, st2⟩ := getF X0 hx hZ hown (host := "") (Or.inl (hw _ (List.mem_of_getElem? (i := 15) rfl))) Via.refl e0 F_oldest_a1 (g := (mkF m 1 #[.val (.ref a1), .val (.ref ab), .unset, .unset, .unset] [(.ref a1)])) rfl rfl (hb hby d13_1)
  have pre3 := fun τ (κ : Steps p.tables e below (T2.setTop (mkF m 4 #[.val (.ref a1), .val (.ref ab), .unset, .unset, .unset] [(.ref o)])) τ) => pre1 τ (st2 _ κ)
  have pre4 := fun τ (κ : Steps p.tables e below (T2.setTop (mkF m 6 #[.val (.ref a1), .val (.ref ab), .val (.ref o), .unset, .unset] [(.ref a1)])) τ) => pre3 τ (by
    refine XS.astoreN X2.here hx rfl (hb hby d13_4) rfl rfl (l' := #[.val (.ref a1), .val (.ref ab), .val (.ref o), .unset, .unset]) rfl ?_
    show Steps p.tables e below (T2.setTop (mkF m 5 #[.val (.ref a1), .val (.ref ab), .val (.ref o), .unset, .unset] [])) _
    refine XS.aloadN X2.here hx rfl (hb hby d13_5) rfl rfl ?_
    show Steps p.tables e below (T2.setTop (mkF m 6 #[.val (.ref a1), .val (.ref ab), .val (.ref o), .unset, .unset] [(.ref a1)])) _
    exact κ)
  obtain ⟨T5, X5, e5, st5⟩ := getF X2 hx hZ hown (host := "") (Or.inl (hw _ (List.mem_of_getElem? (i := 17) rfl))) Via.refl e2 F_newest_a1 (g := (mkF m 6 #[.val (.ref a1), .val (.ref ab), .val (.ref o), .unset, .unset] [(.ref a1)])) rfl rfl (hb hby d13_6)
  have pre6 := fun τ (κ : Steps p.tables e below (T5.setTop (mkF m 9 #[.val (.ref a1), .val (.ref ab), .val (.ref o), .unset, .unset] [(.ref w)])) τ) => pre4 τ (st5 _ κ)
  have pre7 := fun τ (κ : Steps p.tables e below (T5.setTop (mkF m 11 #[.val (.ref a1), .val (.ref ab), .val (.ref o), .val (.ref w), .unset] [(.ref a1)])) τ) => pre6 τ (by
    refine XS.astoreN X5.here hx rfl (hb hby d13_9) rfl rfl (l' := #[.val (.ref a1), .val (.ref ab), .val (.ref o), .val (.ref w), .unset]) rfl ?_
    show Steps p.tables e below (T5.setTop (mkF m 10 #[.val (.ref a1), .val (.ref ab), .val (.ref o), .val (.ref w), .unset] [])) _
    refine XS.aloadN X5.here hx rfl (hb hby d13_10) rfl rfl ?_
    show Steps p.tables e below (T5.setTop (mkF m 11 #[.val (.ref a1), .val (.ref ab), .val (.ref o), .val (.ref w), .unset] [(.ref a1)])) _
    exact κ)
  obtain ⟨T8, X8, e8, st8⟩ := getF X5 hx hZ hown (host := "") (Or.inl (hw _ (List.mem_of_getElem? (i := 46) rfl))) Via.refl e5 F_clock_a1 (g := (mkF m 11 #[.val (.ref a1), .val (.ref ab), .val (.ref o), .val (.ref w), .unset] [(.ref a1)])) rfl rfl (hb hby d13_11)
  have pre9 := fun τ (κ : Steps p.tables e below (T8.setTop (mkF m 14 #[.val (.ref a1), .val (.ref ab), .val (.ref o), .val (.ref w), .unset] [(.int cl)])) τ) => pre7 τ (st8 _ κ)
  have pre10 := fun τ (κ : Steps p.tables e below (T8.setTop (mkF m 18 #[.val (.ref a1), .val (.ref ab), .val (.ref o), .val (.ref w), .val (.int cl)] [(.ref ab), (.ref a1)])) τ) => pre9 τ (by
    refine XS.istore X8.here hx rfl (hb hby d13_14) rfl (l' := #[.val (.ref a1), .val (.ref ab), .val (.ref o), .val (.ref w), .val (.int cl)]) rfl ?_
    show Steps p.tables e below (T8.setTop (mkF m 16 #[.val (.ref a1), .val (.ref ab), .val (.ref o), .val (.ref w), .val (.int cl)] [])) _
    refine XS.aloadN X8.here hx rfl (hb hby d13_16) rfl rfl ?_
    show Steps p.tables e below (T8.setTop (mkF m 17 #[.val (.ref a1), .val (.ref ab), .val (.ref o), .val (.ref w), .val (.int cl)] [(.ref a1)])) _
    refine XS.aloadN X8.here hx rfl (hb hby d13_17) rfl rfl ?_
    show Steps p.tables e below (T8.setTop (mkF m 18 #[.val (.ref a1), .val (.ref ab), .val (.ref o), .val (.ref w), .val (.int cl)] [(.ref ab), (.ref a1)])) _
    exact κ)
  obtain ⟨T11, X11, e11, st11⟩ := getF X8 hx hZ hown (host := "") (Or.inl (hw _ (List.mem_of_getElem? (i := 15) rfl))) Via.refl e8 F_oldest_ab (g := (mkF m 18 #[.val (.ref a1), .val (.ref ab), .val (.ref o), .val (.ref w), .val (.int cl)] [(.ref ab), (.ref a1)])) rfl rfl (hb hby d13_18)
  have pre12 := fun τ (κ : Steps p.tables e below (T11.setTop (mkF m 21 #[.val (.ref a1), .val (.ref ab), .val (.ref o), .val (.ref w), .val (.int cl)] [(.ref ob), (.ref a1)])) τ) => pre10 τ (st11 _ κ)
  obtain ⟨T13, h13, X13, e13, W13, st13⟩ := putF X11 hx hZ hown (host := "") (Or.inl (hw _ (List.mem_of_getElem? (i := 15) rfl))) Via.refl e11 F_oldest_a1 E_a1 (Or.inl (hw _ (List.mem_of_getElem? (i := 16) rfl))) (hw _ (List.mem_of_getElem? (i := 6) rfl)) (ty := (.array .int)) (by decide) rfl rfl (g := (mkF m 21 #[.val (.ref a1), .val (.ref ab), .val (.ref o), .val (.ref w), .val (.int cl)] [(.ref ob), (.ref a1)])) rfl rfl (hb hby d13_21)
  have E_a1_13 : Exa Z h13 a1 "com/example/fettle/fettle/regex/Counts" := E_a1.wr W13
  have F_newest_a1_13 : Fld Z h13 a1 "com/example/fettle/fettle/regex/Counts" "newest" "[I" (.ref w) := F_newest_a1.other W13 (Or.inr (slot_ne (Or.inl (hw _ (List.mem_of_getElem? (i := 18) rfl))) (Or.inl (hw _ (List.mem_of_getElem? (i := 16) rfl))) (by decide) (t := (.array .int)) (t' := (.array .int)) (by decide) (by decide)))
  have F_first_a1_13 : Fld Z h13 a1 "com/example/fettle/fettle/regex/Counts" "first" "I" (.int fi) := F_first_a1.other W13 (Or.inr (slot_ne (Or.inl (hw _ (List.mem_of_getElem? (i := 57) rfl))) (Or.inl (hw _ (List.mem_of_getElem? (i := 16) rfl))) (by decide) (t := .int) (t' := (.array .int)) (by decide) (by decide)))
  have F_runs_a1_13 : Fld Z h13 a1 "com/example/fettle/fettle/regex/Counts" "runs" "I" (.int ru) := F_runs_a1.other W13 (Or.inr (slot_ne (Or.inl (hw _ (List.mem_of_getElem? (i := 29) rfl))) (Or.inl (hw _ (List.mem_of_getElem? (i := 16) rfl))) (by decide) (t := .int) (t' := (.array .int)) (by decide) (by decide)))
  have F_clock_a1_13 : Fld Z h13 a1 "com/example/fettle/fettle/regex/Counts" "clock" "I" (.int cl) := F_clock_a1.other W13 (Or.inr (slot_ne (Or.inl (hw _ (List.mem_of_getElem? (i := 47) rfl))) (Or.inl (hw _ (List.mem_of_getElem? (i := 16) rfl))) (by decide) (t := .int) (t' := (.array .int)) (by decide) (by decide)))
  have F_starting_a1_13 : Fld Z h13 a1 "com/example/fettle/fettle/regex/Counts" "starting" "Z" (.int st) := F_starting_a1.other W13 (Or.inr (slot_ne (Or.inl (hw _ (List.mem_of_getElem? (i := 31) rfl))) (Or.inl (hw _ (List.mem_of_getElem? (i := 16) rfl))) (by decide) (t := .boolean) (t' := (.array .int)) (by decide) (by decide)))
  have F_least_a1_13 : Fld Z h13 a1 "com/example/fettle/fettle/regex/Counts" "least" "I" (.int le) := F_least_a1.other W13 (Or.inr (slot_ne (Or.inr (hw _ (List.mem_of_getElem? (i := 20) rfl))) (Or.inl (hw _ (List.mem_of_getElem? (i := 16) rfl))) (by decide) (t := .int) (t' := (.array .int)) (by decide) (by decide)))
  have F_most_a1_13 : Fld Z h13 a1 "com/example/fettle/fettle/regex/Counts" "most" "I" (.int mo) := F_most_a1.other W13 (Or.inr (slot_ne (Or.inr (hw _ (List.mem_of_getElem? (i := 22) rfl))) (Or.inl (hw _ (List.mem_of_getElem? (i := 16) rfl))) (by decide) (t := .int) (t' := (.array .int)) (by decide) (by decide)))
  have V_o_a1_13 : Arv Z h13 o ko .int (4 : Int32) lo (.int (0 : Int32)) := V_o_a1.other W13 (Ne.symm n1)
  have V_w_a1_13 : Arv Z h13 w kw .int (4 : Int32) lw (.int (0 : Int32)) := V_w_a1.other W13 (Ne.symm n2)
  have E_ab_13 : Exa Z h13 ab "com/example/fettle/fettle/regex/Counts" := E_ab.wr W13
  have F_oldest_ab_13 : Fld Z h13 ab "com/example/fettle/fettle/regex/Counts" "oldest" "[I" (.ref ob) := F_oldest_ab.other W13 (Or.inl (Ne.symm m1))
  have F_newest_ab_13 : Fld Z h13 ab "com/example/fettle/fettle/regex/Counts" "newest" "[I" (.ref wb) := F_newest_ab.other W13 (Or.inl (Ne.symm m1))
  have F_first_ab_13 : Fld Z h13 ab "com/example/fettle/fettle/regex/Counts" "first" "I" (.int fib) := F_first_ab.other W13 (Or.inl (Ne.symm m1))
  have F_runs_ab_13 : Fld Z h13 ab "com/example/fettle/fettle/regex/Counts" "runs" "I" (.int rub) := F_runs_ab.other W13 (Or.inl (Ne.symm m1))
  have F_clock_ab_13 : Fld Z h13 ab "com/example/fettle/fettle/regex/Counts" "clock" "I" (.int clb) := F_clock_ab.other W13 (Or.inl (Ne.symm m1))
  have F_starting_ab_13 : Fld Z h13 ab "com/example/fettle/fettle/regex/Counts" "starting" "Z" (.int stb) := F_starting_ab.other W13 (Or.inl (Ne.symm m1))
  have F_least_ab_13 : Fld Z h13 ab "com/example/fettle/fettle/regex/Counts" "least" "I" (.int leb) := F_least_ab.other W13 (Or.inl (Ne.symm m1))
  have F_most_ab_13 : Fld Z h13 ab "com/example/fettle/fettle/regex/Counts" "most" "I" (.int mob) := F_most_ab.other W13 (Or.inl (Ne.symm m1))
  have V_o_ab_13 : Arv Z h13 ob kob .int (4 : Int32) lob (.int (0 : Int32)) := V_o_ab.other W13 (Ne.symm m2)
  have V_w_ab_13 : Arv Z h13 wb kwb .int (4 : Int32) lwb (.int (0 : Int32)) := V_w_ab.other W13 (Ne.symm m3)
  have Kp13 : Keep h0 h13 [a1, ab] := Kp0.wr W13 (Or.inl (List.mem_of_getElem? (i := 0) rfl))
  have N13 := Fr.snoc X13 N0 g_a1
  have Z13 : n0 ≤ h13.size := Nat.le_trans Z0 (Keep.of_wr W13).1
  have F_oldest_a1_13 : Fld Z h13 a1 "com/example/fettle/fettle/regex/Counts" "oldest" "[I" (.ref ob) := F_oldest_a1.same W13
  have pre14 := fun τ (κ : Steps p.tables e below (T13.setTop (mkF m 24 #[.val (.ref a1), .val (.ref ab), .val (.ref o), .val (.ref w), .val (.int cl)] [])) τ) => pre12 τ (st13 _ κ)
  have pre15 := fun τ (κ : Steps p.tables e below (T13.setTop (mkF m 26 #[.val (.ref a1), .val (.ref ab), .val (.ref o), .val (.ref w), .val (.int cl)] [(.ref ab), (.ref a1)])) τ) => pre14 τ (by
    refine XS.aloadN X13.here hx rfl (hb hby d13_24) rfl rfl ?_
    show Steps p.tables e below (T13.setTop (mkF m 25 #[.val (.ref a1), .val (.ref ab), .val (.ref o), .val (.ref w), .val (.int cl)] [(.ref a1)])) _
    refine XS.aloadN X13.here hx rfl (hb hby d13_25) rfl rfl ?_
    show Steps p.tables e below (T13.setTop (mkF m 26 #[.val (.ref a1), .val (.ref ab), .val (.ref o), .val (.ref w), .val (.int cl)] [(.ref ab), (.ref a1)])) _
    exact κ)
  obtain ⟨T16, X16, e16, st16⟩ := getF X13 hx hZ hown (host := "") (Or.inl (hw _ (List.mem_of_getElem? (i := 17) rfl))) Via.refl e13 F_newest_ab_13 (g := (mkF m 26 #[.val (.ref a1), .val (.ref ab), .val (.ref o), .val (.ref w), .val (.int cl)] [(.ref ab), (.ref a1)])) rfl rfl (hb hby d13_26)
  have pre17 := fun τ (κ : Steps p.tables e below (T16.setTop (mkF m 29 #[.val (.ref a1), .val (.ref ab), .val (.ref o), .val (.ref w), .val (.int cl)] [(.ref wb), (.ref a1)])) τ) => pre15 τ (st16 _ κ)
  obtain ⟨T18, h18, X18, e18, W18, st18⟩ := putF X16 hx hZ hown (host := "") (Or.inl (hw _ (List.mem_of_getElem? (i := 17) rfl))) Via.refl e16 F_newest_a1_13 E_a1_13 (Or.inl (hw _ (List.mem_of_getElem? (i := 18) rfl))) (hw _ (List.mem_of_getElem? (i := 6) rfl)) (ty := (.array .int)) (by decide) rfl rfl (g := (mkF m 29 #[.val (.ref a1), .val (.ref ab), .val (.ref o), .val (.ref w), .val (.int cl)] [(.ref wb), (.ref a1)])) rfl rfl (hb hby d13_29)
  have E_a1_18 : Exa Z h18 a1 "com/example/fettle/fettle/regex/Counts" := E_a1_13.wr W18
  have F_first_a1_18 : Fld Z h18 a1 "com/example/fettle/fettle/regex/Counts" "first" "I" (.int fi) := F_first_a1_13.other W18 (Or.inr (slot_ne (Or.inl (hw _ (List.mem_of_getElem? (i := 57) rfl))) (Or.inl (hw _ (List.mem_of_getElem? (i := 18) rfl))) (by decide) (t := .int) (t' := (.array .int)) (by decide) (by decide)))
  have F_runs_a1_18 : Fld Z h18 a1 "com/example/fettle/fettle/regex/Counts" "runs" "I" (.int ru) := F_runs_a1_13.other W18 (Or.inr (slot_ne (Or.inl (hw _ (List.mem_of_getElem? (i := 29) rfl))) (Or.inl (hw _ (List.mem_of_getElem? (i := 18) rfl))) (by decide) (t := .int) (t' := (.array .int)) (by decide) (by decide)))
  have F_clock_a1_18 : Fld Z h18 a1 "com/example/fettle/fettle/regex/Counts" "clock" "I" (.int cl) := F_clock_a1_13.other W18 (Or.inr (slot_ne (Or.inl (hw _ (List.mem_of_getElem? (i := 47) rfl))) (Or.inl (hw _ (List.mem_of_getElem? (i := 18) rfl))) (by decide) (t := .int) (t' := (.array .int)) (by decide) (by decide)))
  have F_starting_a1_18 : Fld Z h18 a1 "com/example/fettle/fettle/regex/Counts" "starting" "Z" (.int st) := F_starting_a1_13.other W18 (Or.inr (slot_ne (Or.inl (hw _ (List.mem_of_getElem? (i := 31) rfl))) (Or.inl (hw _ (List.mem_of_getElem? (i := 18) rfl))) (by decide) (t := .boolean) (t' := (.array .int)) (by decide) (by decide)))
  have F_least_a1_18 : Fld Z h18 a1 "com/example/fettle/fettle/regex/Counts" "least" "I" (.int le) := F_least_a1_13.other W18 (Or.inr (slot_ne (Or.inr (hw _ (List.mem_of_getElem? (i := 20) rfl))) (Or.inl (hw _ (List.mem_of_getElem? (i := 18) rfl))) (by decide) (t := .int) (t' := (.array .int)) (by decide) (by decide)))
  have F_most_a1_18 : Fld Z h18 a1 "com/example/fettle/fettle/regex/Counts" "most" "I" (.int mo) := F_most_a1_13.other W18 (Or.inr (slot_ne (Or.inr (hw _ (List.mem_of_getElem? (i := 22) rfl))) (Or.inl (hw _ (List.mem_of_getElem? (i := 18) rfl))) (by decide) (t := .int) (t' := (.array .int)) (by decide) (by decide)))
  have V_o_a1_18 : Arv Z h18 o ko .int (4 : Int32) lo (.int (0 : Int32)) := V_o_a1_13.other W18 (Ne.symm n1)
  have V_w_a1_18 : Arv Z h18 w kw .int (4 : Int32) lw (.int (0 : Int32)) := V_w_a1_13.other W18 (Ne.symm n2)
  have E_ab_18 : Exa Z h18 ab "com/example/fettle/fettle/regex/Counts" := E_ab_13.wr W18
  have F_oldest_ab_18 : Fld Z h18 ab "com/example/fettle/fettle/regex/Counts" "oldest" "[I" (.ref ob) := F_oldest_ab_13.other W18 (Or.inl (Ne.symm m1))
  have F_newest_ab_18 : Fld Z h18 ab "com/example/fettle/fettle/regex/Counts" "newest" "[I" (.ref wb) := F_newest_ab_13.other W18 (Or.inl (Ne.symm m1))
  have F_first_ab_18 : Fld Z h18 ab "com/example/fettle/fettle/regex/Counts" "first" "I" (.int fib) := F_first_ab_13.other W18 (Or.inl (Ne.symm m1))
  have F_runs_ab_18 : Fld Z h18 ab "com/example/fettle/fettle/regex/Counts" "runs" "I" (.int rub) := F_runs_ab_13.other W18 (Or.inl (Ne.symm m1))
  have F_clock_ab_18 : Fld Z h18 ab "com/example/fettle/fettle/regex/Counts" "clock" "I" (.int clb) := F_clock_ab_13.other W18 (Or.inl (Ne.symm m1))
  have F_starting_ab_18 : Fld Z h18 ab "com/example/fettle/fettle/regex/Counts" "starting" "Z" (.int stb) := F_starting_ab_13.other W18 (Or.inl (Ne.symm m1))
  have F_least_ab_18 : Fld Z h18 ab "com/example/fettle/fettle/regex/Counts" "least" "I" (.int leb) := F_least_ab_13.other W18 (Or.inl (Ne.symm m1))
  have F_most_ab_18 : Fld Z h18 ab "com/example/fettle/fettle/regex/Counts" "most" "I" (.int mob) := F_most_ab_13.other W18 (Or.inl (Ne.symm m1))
  have V_o_ab_18 : Arv Z h18 ob kob .int (4 : Int32) lob (.int (0 : Int32)) := V_o_ab_13.other W18 (Ne.symm m2)
  have V_w_ab_18 : Arv Z h18 wb kwb .int (4 : Int32) lwb (.int (0 : Int32)) := V_w_ab_13.other W18 (Ne.symm m3)
  have F_oldest_a1_18 : Fld Z h18 a1 "com/example/fettle/fettle/regex/Counts" "oldest" "[I" (.ref ob) := F_oldest_a1_13.other W18 (Or.inr (slot_ne (Or.inl (hw _ (List.mem_of_getElem? (i := 16) rfl))) (Or.inl (hw _ (List.mem_of_getElem? (i := 18) rfl))) (by decide) (t := (.array .int)) (t' := (.array .int)) (by decide) (by decide)))
  have Kp18 : Keep h0 h18 [a1, ab] := Kp13.wr W18 (Or.inl (List.mem_of_getElem? (i := 0) rfl))
  have N18 := Fr.snoc X18 N13 g_a1
  have Z18 : n0 ≤ h18.size := Nat.le_trans Z13 (Keep.of_wr W18).1
  have F_newest_a1_18 : Fld Z h18 a1 "com/example/fettle/fettle/regex/Counts" "newest" "[I" (.ref wb) := F_newest_a1_13.same W18
  have pre19 := fun τ (κ : Steps p.tables e below (T18.setTop (mkF m 32 #[.val (.ref a1), .val (.ref ab), .val (.ref o), .val (.ref w), .val (.int cl)] [])) τ) => pre17 τ (st18 _ κ)
  have pre20 := fun τ (κ : Steps p.tables e below (T18.setTop (mkF m 34 #[.val (.ref a1), .val (.ref ab), .val (.ref o), .val (.ref w), .val (.int cl)] [(.ref ab), (.ref a1)])) τ) => pre19 τ (by
    refine XS.aloadN X18.here hx rfl (hb hby d13_32) rfl rfl ?_
    show Steps p.tables e below (T18.setTop (mkF m 33 #[.val (.ref a1), .val (.ref ab), .val (.ref o), .val (.ref w), .val (.int cl)] [(.ref a1)])) _
    refine XS.aloadN X18.here hx rfl (hb hby d13_33) rfl rfl ?_
    show Steps p.tables e below (T18.setTop (mkF m 34 #[.val (.ref a1), .val (.ref ab), .val (.ref o), .val (.ref w), .val (.int cl)] [(.ref ab), (.ref a1)])) _
    exact κ)
  obtain ⟨T21, X21, e21, st21⟩ := getF X18 hx hZ hown (host := "") (Or.inl (hw _ (List.mem_of_getElem? (i := 56) rfl))) Via.refl e18 F_first_ab_18 (g := (mkF m 34 #[.val (.ref a1), .val (.ref ab), .val (.ref o), .val (.ref w), .val (.int cl)] [(.ref ab), (.ref a1)])) rfl rfl (hb hby d13_34)
  have pre22 := fun τ (κ : Steps p.tables e below (T21.setTop (mkF m 37 #[.val (.ref a1), .val (.ref ab), .val (.ref o), .val (.ref w), .val (.int cl)] [(.int fib), (.ref a1)])) τ) => pre20 τ (st21 _ κ)
  obtain ⟨T23, h23, X23, e23, W23, st23⟩ := putF X21 hx hZ hown (host := "") (Or.inl (hw _ (List.mem_of_getElem? (i := 56) rfl))) Via.refl e21 F_first_a1_18 E_a1_18 (Or.inl (hw _ (List.mem_of_getElem? (i := 57) rfl))) (hw _ (List.mem_of_getElem? (i := 6) rfl)) (ty := .int) (by decide) rfl rfl (g := (mkF m 37 #[.val (.ref a1), .val (.ref ab), .val (.ref o), .val (.ref w), .val (.int cl)] [(.int fib), (.ref a1)])) rfl rfl (hb hby d13_37)
  have E_a1_23 : Exa Z h23 a1 "com/example/fettle/fettle/regex/Counts" := E_a1_18.wr W23
  have F_runs_a1_23 : Fld Z h23 a1 "com/example/fettle/fettle/regex/Counts" "runs" "I" (.int ru) := F_runs_a1_18.other W23 (Or.inr (slot_ne (Or.inl (hw _ (List.mem_of_getElem? (i := 29) rfl))) (Or.inl (hw _ (List.mem_of_getElem? (i := 57) rfl))) (by decide) (t := .int) (t' := .int) (by decide) (by decide)))
  have F_clock_a1_23 : Fld Z h23 a1 "com/example/fettle/fettle/regex/Counts" "clock" "I" (.int cl) := F_clock_a1_18.other W23 (Or.inr (slot_ne (Or.inl (hw _ (List.mem_of_getElem? (i := 47) rfl))) (Or.inl (hw _ (List.mem_of_getElem? (i := 57) rfl))) (by decide) (t := .int) (t' := .int) (by decide) (by decide)))
  have F_starting_a1_23 : Fld Z h23 a1 "com/example/fettle/fettle/regex/Counts" "starting" "Z" (.int st) := F_starting_a1_18.other W23 (Or.inr (slot_ne (Or.inl (hw _ (List.mem_of_getElem? (i := 31) rfl))) (Or.inl (hw _ (List.mem_of_getElem? (i := 57) rfl))) (by decide) (t := .boolean) (t' := .int) (by decide) (by decide)))
  have F_least_a1_23 : Fld Z h23 a1 "com/example/fettle/fettle/regex/Counts" "least" "I" (.int le) := F_least_a1_18.other W23 (Or.inr (slot_ne (Or.inr (hw _ (List.mem_of_getElem? (i := 20) rfl))) (Or.inl (hw _ (List.mem_of_getElem? (i := 57) rfl))) (by decide) (t := .int) (t' := .int) (by decide) (by decide)))
  have F_most_a1_23 : Fld Z h23 a1 "com/example/fettle/fettle/regex/Counts" "most" "I" (.int mo) := F_most_a1_18.other W23 (Or.inr (slot_ne (Or.inr (hw _ (List.mem_of_getElem? (i := 22) rfl))) (Or.inl (hw _ (List.mem_of_getElem? (i := 57) rfl))) (by decide) (t := .int) (t' := .int) (by decide) (by decide)))
  have V_o_a1_23 : Arv Z h23 o ko .int (4 : Int32) lo (.int (0 : Int32)) := V_o_a1_18.other W23 (Ne.symm n1)
  have V_w_a1_23 : Arv Z h23 w kw .int (4 : Int32) lw (.int (0 : Int32)) := V_w_a1_18.other W23 (Ne.symm n2)
  have E_ab_23 : Exa Z h23 ab "com/example/fettle/fettle/regex/Counts" := E_ab_18.wr W23
  have F_oldest_ab_23 : Fld Z h23 ab "com/example/fettle/fettle/regex/Counts" "oldest" "[I" (.ref ob) := F_oldest_ab_18.other W23 (Or.inl (Ne.symm m1))
  have F_newest_ab_23 : Fld Z h23 ab "com/example/fettle/fettle/regex/Counts" "newest" "[I" (.ref wb) := F_newest_ab_18.other W23 (Or.inl (Ne.symm m1))
  have F_first_ab_23 : Fld Z h23 ab "com/example/fettle/fettle/regex/Counts" "first" "I" (.int fib) := F_first_ab_18.other W23 (Or.inl (Ne.symm m1))
  have F_runs_ab_23 : Fld Z h23 ab "com/example/fettle/fettle/regex/Counts" "runs" "I" (.int rub) := F_runs_ab_18.other W23 (Or.inl (Ne.symm m1))
  have F_clock_ab_23 : Fld Z h23 ab "com/example/fettle/fettle/regex/Counts" "clock" "I" (.int clb) := F_clock_ab_18.other W23 (Or.inl (Ne.symm m1))
  have F_starting_ab_23 : Fld Z h23 ab "com/example/fettle/fettle/regex/Counts" "starting" "Z" (.int stb) := F_starting_ab_18.other W23 (Or.inl (Ne.symm m1))
  have F_least_ab_23 : Fld Z h23 ab "com/example/fettle/fettle/regex/Counts" "least" "I" (.int leb) := F_least_ab_18.other W23 (Or.inl (Ne.symm m1))
  have F_most_ab_23 : Fld Z h23 ab "com/example/fettle/fettle/regex/Counts" "most" "I" (.int mob) := F_most_ab_18.other W23 (Or.inl (Ne.symm m1))
  have V_o_ab_23 : Arv Z h23 ob kob .int (4 : Int32) lob (.int (0 : Int32)) := V_o_ab_18.other W23 (Ne.symm m2)
  have V_w_ab_23 : Arv Z h23 wb kwb .int (4 : Int32) lwb (.int (0 : Int32)) := V_w_ab_18.other W23 (Ne.symm m3)
  have F_oldest_a1_23 : Fld Z h23 a1 "com/example/fettle/fettle/regex/Counts" "oldest" "[I" (.ref ob) := F_oldest_a1_18.other W23 (Or.inr (slot_ne (Or.inl (hw _ (List.mem_of_getElem? (i := 16) rfl))) (Or.inl (hw _ (List.mem_of_getElem? (i := 57) rfl))) (by decide) (t := (.array .int)) (t' := .int) (by decide) (by decide)))
  have F_newest_a1_23 : Fld Z h23 a1 "com/example/fettle/fettle/regex/Counts" "newest" "[I" (.ref wb) := F_newest_a1_18.other W23 (Or.inr (slot_ne (Or.inl (hw _ (List.mem_of_getElem? (i := 18) rfl))) (Or.inl (hw _ (List.mem_of_getElem? (i := 57) rfl))) (by decide) (t := (.array .int)) (t' := .int) (by decide) (by decide)))
  have Kp23 : Keep h0 h23 [a1, ab] := Kp18.wr W23 (Or.inl (List.mem_of_getElem? (i := 0) rfl))
  have N23 := Fr.snoc X23 N18 g_a1
  have Z23 : n0 ≤ h23.size := Nat.le_trans Z18 (Keep.of_wr W23).1
  have F_first_a1_23 : Fld Z h23 a1 "com/example/fettle/fettle/regex/Counts" "first" "I" (.int fib) := F_first_a1_18.same W23
  have pre24 := fun τ (κ : Steps p.tables e below (T23.setTop (mkF m 40 #[.val (.ref a1), .val (.ref ab), .val (.ref o), .val (.ref w), .val (.int cl)] [])) τ) => pre22 τ (st23 _ κ)
  have pre25 := fun τ (κ : Steps p.tables e below (T23.setTop (mkF m 42 #[.val (.ref a1), .val (.ref ab), .val (.ref o), .val (.ref w), .val (.int cl)] [(.ref ab), (.ref a1)])) τ) => pre24 τ (by
    refine XS.aloadN X23.here hx rfl (hb hby d13_40) rfl rfl ?_
    show Steps p.tables e below (T23.setTop (mkF m 41 #[.val (.ref a1), .val (.ref ab), .val (.ref o), .val (.ref w), .val (.int cl)] [(.ref a1)])) _
    refine XS.aloadN X23.here hx rfl (hb hby d13_41) rfl rfl ?_
    show Steps p.tables e below (T23.setTop (mkF m 42 #[.val (.ref a1), .val (.ref ab), .val (.ref o), .val (.ref w), .val (.int cl)] [(.ref ab), (.ref a1)])) _
    exact κ)
  obtain ⟨T26, X26, e26, st26⟩ := getF X23 hx hZ hown (host := "") (Or.inl (hw _ (List.mem_of_getElem? (i := 28) rfl))) Via.refl e23 F_runs_ab_23 (g := (mkF m 42 #[.val (.ref a1), .val (.ref ab), .val (.ref o), .val (.ref w), .val (.int cl)] [(.ref ab), (.ref a1)])) rfl rfl (hb hby d13_42)
  have pre27 := fun τ (κ : Steps p.tables e below (T26.setTop (mkF m 45 #[.val (.ref a1), .val (.ref ab), .val (.ref o), .val (.ref w), .val (.int cl)] [(.int rub), (.ref a1)])) τ) => pre25 τ (st26 _ κ)
  obtain ⟨T28, h28, X28, e28, W28, st28⟩ := putF X26 hx hZ hown (host := "") (Or.inl (hw _ (List.mem_of_getElem? (i := 28) rfl))) Via.refl e26 F_runs_a1_23 E_a1_23 (Or.inl (hw _ (List.mem_of_getElem? (i := 29) rfl))) (hw _ (List.mem_of_getElem? (i := 6) rfl)) (ty := .int) (by decide) rfl rfl (g := (mkF m 45 #[.val (.ref a1), .val (.ref ab), .val (.ref o), .val (.ref w), .val (.int cl)] [(.int rub), (.ref a1)])) rfl rfl (hb hby d13_45)
  have E_a1_28 : Exa Z h28 a1 "com/example/fettle/fettle/regex/Counts" := E_a1_23.wr W28
  have F_clock_a1_28 : Fld Z h28 a1 "com/example/fettle/fettle/regex/Counts" "clock" "I" (.int cl) := F_clock_a1_23.other W28 (Or.inr (slot_ne (Or.inl (hw _ (List.mem_of_getElem? (i := 47) rfl))) (Or.inl (hw _ (List.mem_of_getElem? (i := 29) rfl))) (by decide) (t := .int) (t' := .int) (by decide) (by decide)))
  have F_starting_a1_28 : Fld Z h28 a1 "com/example/fettle/fettle/regex/Counts" "starting" "Z" (.int st) := F_starting_a1_23.other W28 (Or.inr (slot_ne (Or.inl (hw _ (List.mem_of_getElem? (i := 31) rfl))) (Or.inl (hw _ (List.mem_of_getElem? (i := 29) rfl))) (by decide) (t := .boolean) (t' := .int) (by decide) (by decide)))
  have F_least_a1_28 : Fld Z h28 a1 "com/example/fettle/fettle/regex/Counts" "least" "I" (.int le) := F_least_a1_23.other W28 (Or.inr (slot_ne (Or.inr (hw _ (List.mem_of_getElem? (i := 20) rfl))) (Or.inl (hw _ (List.mem_of_getElem? (i := 29) rfl))) (by decide) (t := .int) (t' := .int) (by decide) (by decide)))
  have F_most_a1_28 : Fld Z h28 a1 "com/example/fettle/fettle/regex/Counts" "most" "I" (.int mo) := F_most_a1_23.other W28 (Or.inr (slot_ne (Or.inr (hw _ (List.mem_of_getElem? (i := 22) rfl))) (Or.inl (hw _ (List.mem_of_getElem? (i := 29) rfl))) (by decide) (t := .int) (t' := .int) (by decide) (by decide)))
  have V_o_a1_28 : Arv Z h28 o ko .int (4 : Int32) lo (.int (0 : Int32)) := V_o_a1_23.other W28 (Ne.symm n1)
  have V_w_a1_28 : Arv Z h28 w kw .int (4 : Int32) lw (.int (0 : Int32)) := V_w_a1_23.other W28 (Ne.symm n2)
  have E_ab_28 : Exa Z h28 ab "com/example/fettle/fettle/regex/Counts" := E_ab_23.wr W28
  have F_oldest_ab_28 : Fld Z h28 ab "com/example/fettle/fettle/regex/Counts" "oldest" "[I" (.ref ob) := F_oldest_ab_23.other W28 (Or.inl (Ne.symm m1))
  have F_newest_ab_28 : Fld Z h28 ab "com/example/fettle/fettle/regex/Counts" "newest" "[I" (.ref wb) := F_newest_ab_23.other W28 (Or.inl (Ne.symm m1))
  have F_first_ab_28 : Fld Z h28 ab "com/example/fettle/fettle/regex/Counts" "first" "I" (.int fib) := F_first_ab_23.other W28 (Or.inl (Ne.symm m1))
  have F_runs_ab_28 : Fld Z h28 ab "com/example/fettle/fettle/regex/Counts" "runs" "I" (.int rub) := F_runs_ab_23.other W28 (Or.inl (Ne.symm m1))
  have F_clock_ab_28 : Fld Z h28 ab "com/example/fettle/fettle/regex/Counts" "clock" "I" (.int clb) := F_clock_ab_23.other W28 (Or.inl (Ne.symm m1))
  have F_starting_ab_28 : Fld Z h28 ab "com/example/fettle/fettle/regex/Counts" "starting" "Z" (.int stb) := F_starting_ab_23.other W28 (Or.inl (Ne.symm m1))
  have F_least_ab_28 : Fld Z h28 ab "com/example/fettle/fettle/regex/Counts" "least" "I" (.int leb) := F_least_ab_23.other W28 (Or.inl (Ne.symm m1))
  have F_most_ab_28 : Fld Z h28 ab "com/example/fettle/fettle/regex/Counts" "most" "I" (.int mob) := F_most_ab_23.other W28 (Or.inl (Ne.symm m1))
  have V_o_ab_28 : Arv Z h28 ob kob .int (4 : Int32) lob (.int (0 : Int32)) := V_o_ab_23.other W28 (Ne.symm m2)
  have V_w_ab_28 : Arv Z h28 wb kwb .int (4 : Int32) lwb (.int (0 : Int32)) := V_w_ab_23.other W28 (Ne.symm m3)
  have F_oldest_a1_28 : Fld Z h28 a1 "com/example/fettle/fettle/regex/Counts" "oldest" "[I" (.ref ob) := F_oldest_a1_23.other W28 (Or.inr (slot_ne (Or.inl (hw _ (List.mem_of_getElem? (i := 16) rfl))) (Or.inl (hw _ (List.mem_of_getElem? (i := 29) rfl))) (by decide) (t := (.array .int)) (t' := .int) (by decide) (by decide)))
  have F_newest_a1_28 : Fld Z h28 a1 "com/example/fettle/fettle/regex/Counts" "newest" "[I" (.ref wb) := F_newest_a1_23.other W28 (Or.inr (slot_ne (Or.inl (hw _ (List.mem_of_getElem? (i := 18) rfl))) (Or.inl (hw _ (List.mem_of_getElem? (i := 29) rfl))) (by decide) (t := (.array .int)) (t' := .int) (by decide) (by decide)))
  have F_first_a1_28 : Fld Z h28 a1 "com/example/fettle/fettle/regex/Counts" "first" "I" (.int fib) := F_first_a1_23.other W28 (Or.inr (slot_ne (Or.inl (hw _ (List.mem_of_getElem? (i := 57) rfl))) (Or.inl (hw _ (List.mem_of_getElem? (i := 29) rfl))) (by decide) (t := .int) (t' := .int) (by decide) (by decide)))
  have Kp28 : Keep h0 h28 [a1, ab] := Kp23.wr W28 (Or.inl (List.mem_of_getElem? (i := 0) rfl))
  have N28 := Fr.snoc X28 N23 g_a1
  have Z28 : n0 ≤ h28.size := Nat.le_trans Z23 (Keep.of_wr W28).1
  have F_runs_a1_28 : Fld Z h28 a1 "com/example/fettle/fettle/regex/Counts" "runs" "I" (.int rub) := F_runs_a1_23.same W28
  have pre29 := fun τ (κ : Steps p.tables e below (T28.setTop (mkF m 48 #[.val (.ref a1), .val (.ref ab), .val (.ref o), .val (.ref w), .val (.int cl)] [])) τ) => pre27 τ (st28 _ κ)
  have pre30 := fun τ (κ : Steps p.tables e below (T28.setTop (mkF m 50 #[.val (.ref a1), .val (.ref ab), .val (.ref o), .val (.ref w), .val (.int cl)] [(.ref ab), (.ref a1)])) τ) => pre29 τ (by
    refine XS.aloadN X28.here hx rfl (hb hby d13_48) rfl rfl ?_
    show Steps p.tables e below (T28.setTop (mkF m 49 #[.val (.ref a1), .val (.ref ab), .val (.ref o), .val (.ref w), .val (.int cl)] [(.ref a1)])) _
    refine XS.aloadN X28.here hx rfl (hb hby d13_49) rfl rfl ?_
    show Steps p.tables e below (T28.setTop (mkF m 50 #[.val (.ref a1), .val (.ref ab), .val (.ref o), .val (.ref w), .val (.int cl)] [(.ref ab), (.ref a1)])) _
    exact κ)
  obtain ⟨T31, X31, e31, st31⟩ := getF X28 hx hZ hown (host := "") (Or.inl (hw _ (List.mem_of_getElem? (i := 46) rfl))) Via.refl e28 F_clock_ab_28 (g := (mkF m 50 #[.val (.ref a1), .val (.ref ab), .val (.ref o), .val (.ref w), .val (.int cl)] [(.ref ab), (.ref a1)])) rfl rfl (hb hby d13_50)
  have pre32 := fun τ (κ : Steps p.tables e below (T31.setTop (mkF m 53 #[.val (.ref a1), .val (.ref ab), .val (.ref o), .val (.ref w), .val (.int cl)] [(.int clb), (.ref a1)])) τ) => pre30 τ (st31 _ κ)
  obtain ⟨T33, h33, X33, e33, W33, st33⟩ := putF X31 hx hZ hown (host := "") (Or.inl (hw _ (List.mem_of_getElem? (i := 46) rfl))) Via.refl e31 F_clock_a1_28 E_a1_28 (Or.inl (hw _ (List.mem_of_getElem? (i := 47) rfl))) (hw _ (List.mem_of_getElem? (i := 6) rfl)) (ty := .int) (by decide) rfl rfl (g := (mkF m 53 #[.val (.ref a1), .val (.ref ab), .val (.ref o), .val (.ref w), .val (.int cl)] [(.int clb), (.ref a1)])) rfl rfl (hb hby d13_53)
  have E_a1_33 : Exa Z h33 a1 "com/example/fettle/fettle/regex/Counts" := E_a1_28.wr W33
  have F_starting_a1_33 : Fld Z h33 a1 "com/example/fettle/fettle/regex/Counts" "starting" "Z" (.int st) := F_starting_a1_28.other W33 (Or.inr (slot_ne (Or.inl (hw _ (List.mem_of_getElem? (i := 31) rfl))) (Or.inl (hw _ (List.mem_of_getElem? (i := 47) rfl))) (by decide) (t := .boolean) (t' := .int) (by decide) (by decide)))
  have F_least_a1_33 : Fld Z h33 a1 "com/example/fettle/fettle/regex/Counts" "least" "I" (.int le) := F_least_a1_28.other W33 (Or.inr (slot_ne (Or.inr (hw _ (List.mem_of_getElem? (i := 20) rfl))) (Or.inl (hw _ (List.mem_of_getElem? (i := 47) rfl))) (by decide) (t := .int) (t' := .int) (by decide) (by decide)))
  have F_most_a1_33 : Fld Z h33 a1 "com/example/fettle/fettle/regex/Counts" "most" "I" (.int mo) := F_most_a1_28.other W33 (Or.inr (slot_ne (Or.inr (hw _ (List.mem_of_getElem? (i := 22) rfl))) (Or.inl (hw _ (List.mem_of_getElem? (i := 47) rfl))) (by decide) (t := .int) (t' := .int) (by decide) (by decide)))
  have V_o_a1_33 : Arv Z h33 o ko .int (4 : Int32) lo (.int (0 : Int32)) := V_o_a1_28.other W33 (Ne.symm n1)
  have V_w_a1_33 : Arv Z h33 w kw .int (4 : Int32) lw (.int (0 : Int32)) := V_w_a1_28.other W33 (Ne.symm n2)
  have E_ab_33 : Exa Z h33 ab "com/example/fettle/fettle/regex/Counts" := E_ab_28.wr W33
  have F_oldest_ab_33 : Fld Z h33 ab "com/example/fettle/fettle/regex/Counts" "oldest" "[I" (.ref ob) := F_oldest_ab_28.other W33 (Or.inl (Ne.symm m1))
  have F_newest_ab_33 : Fld Z h33 ab "com/example/fettle/fettle/regex/Counts" "newest" "[I" (.ref wb) := F_newest_ab_28.other W33 (Or.inl (Ne.symm m1))
  have F_first_ab_33 : Fld Z h33 ab "com/example/fettle/fettle/regex/Counts" "first" "I" (.int fib) := F_first_ab_28.other W33 (Or.inl (Ne.symm m1))
  have F_runs_ab_33 : Fld Z h33 ab "com/example/fettle/fettle/regex/Counts" "runs" "I" (.int rub) := F_runs_ab_28.other W33 (Or.inl (Ne.symm m1))
  have F_clock_ab_33 : Fld Z h33 ab "com/example/fettle/fettle/regex/Counts" "clock" "I" (.int clb) := F_clock_ab_28.other W33 (Or.inl (Ne.symm m1))
  have F_starting_ab_33 : Fld Z h33 ab "com/example/fettle/fettle/regex/Counts" "starting" "Z" (.int stb) := F_starting_ab_28.other W33 (Or.inl (Ne.symm m1))
  have F_least_ab_33 : Fld Z h33 ab "com/example/fettle/fettle/regex/Counts" "least" "I" (.int leb) := F_least_ab_28.other W33 (Or.inl (Ne.symm m1))
  have F_most_ab_33 : Fld Z h33 ab "com/example/fettle/fettle/regex/Counts" "most" "I" (.int mob) := F_most_ab_28.other W33 (Or.inl (Ne.symm m1))
  have V_o_ab_33 : Arv Z h33 ob kob .int (4 : Int32) lob (.int (0 : Int32)) := V_o_ab_28.other W33 (Ne.symm m2)
  have V_w_ab_33 : Arv Z h33 wb kwb .int (4 : Int32) lwb (.int (0 : Int32)) := V_w_ab_28.other W33 (Ne.symm m3)
  have F_oldest_a1_33 : Fld Z h33 a1 "com/example/fettle/fettle/regex/Counts" "oldest" "[I" (.ref ob) := F_oldest_a1_28.other W33 (Or.inr (slot_ne (Or.inl (hw _ (List.mem_of_getElem? (i := 16) rfl))) (Or.inl (hw _ (List.mem_of_getElem? (i := 47) rfl))) (by decide) (t := (.array .int)) (t' := .int) (by decide) (by decide)))
  have F_newest_a1_33 : Fld Z h33 a1 "com/example/fettle/fettle/regex/Counts" "newest" "[I" (.ref wb) := F_newest_a1_28.other W33 (Or.inr (slot_ne (Or.inl (hw _ (List.mem_of_getElem? (i := 18) rfl))) (Or.inl (hw _ (List.mem_of_getElem? (i := 47) rfl))) (by decide) (t := (.array .int)) (t' := .int) (by decide) (by decide)))
  have F_first_a1_33 : Fld Z h33 a1 "com/example/fettle/fettle/regex/Counts" "first" "I" (.int fib) := F_first_a1_28.other W33 (Or.inr (slot_ne (Or.inl (hw _ (List.mem_of_getElem? (i := 57) rfl))) (Or.inl (hw _ (List.mem_of_getElem? (i := 47) rfl))) (by decide) (t := .int) (t' := .int) (by decide) (by decide)))
  have F_runs_a1_33 : Fld Z h33 a1 "com/example/fettle/fettle/regex/Counts" "runs" "I" (.int rub) := F_runs_a1_28.other W33 (Or.inr (slot_ne (Or.inl (hw _ (List.mem_of_getElem? (i := 29) rfl))) (Or.inl (hw _ (List.mem_of_getElem? (i := 47) rfl))) (by decide) (t := .int) (t' := .int) (by decide) (by decide)))
  have Kp33 : Keep h0 h33 [a1, ab] := Kp28.wr W33 (Or.inl (List.mem_of_getElem? (i := 0) rfl))
  have N33 := Fr.snoc X33 N28 g_a1
  have Z33 : n0 ≤ h33.size := Nat.le_trans Z28 (Keep.of_wr W33).1
  have F_clock_a1_33 : Fld Z h33 a1 "com/example/fettle/fettle/regex/Counts" "clock" "I" (.int clb) := F_clock_a1_28.same W33
  have pre34 := fun τ (κ : Steps p.tables e below (T33.setTop (mkF m 56 #[.val (.ref a1), .val (.ref ab), .val (.ref o), .val (.ref w), .val (.int cl)] [])) τ) => pre32 τ (st33 _ κ)
  have pre35 := fun τ (κ : Steps p.tables e below (T33.setTop (mkF m 58 #[.val (.ref a1), .val (.ref ab), .val (.ref o), .val (.ref w), .val (.int cl)] [(.ref o), (.ref ab)])) τ) => pre34 τ (by
    refine XS.aloadN X33.here hx rfl (hb hby d13_56) rfl rfl ?_
    show Steps p.tables e below (T33.setTop (mkF m 57 #[.val (.ref a1), .val (.ref ab), .val (.ref o), .val (.ref w), .val (.int cl)] [(.ref ab)])) _
    refine XS.aloadN X33.here hx rfl (hb hby d13_57) rfl rfl ?_
    show Steps p.tables e below (T33.setTop (mkF m 58 #[.val (.ref a1), .val (.ref ab), .val (.ref o), .val (.ref w), .val (.int cl)] [(.ref o), (.ref ab)])) _
    exact κ)
  obtain ⟨T36, h36, X36, e36, W36, st36⟩ := putF X33 hx hZ hown (host := "") (Or.inl (hw _ (List.mem_of_getElem? (i := 15) rfl))) Via.refl e33 F_oldest_ab_33 E_ab_33 (Or.inl (hw _ (List.mem_of_getElem? (i := 16) rfl))) (hw _ (List.mem_of_getElem? (i := 6) rfl)) (ty := (.array .int)) (by decide) rfl rfl (g := (mkF m 58 #[.val (.ref a1), .val (.ref ab), .val (.ref o), .val (.ref w), .val (.int cl)] [(.ref o), (.ref ab)])) rfl rfl (hb hby d13_58)
  have E_a1_36 : Exa Z h36 a1 "com/example/fettle/fettle/regex/Counts" := E_a1_33.wr W36
  have F_starting_a1_36 : Fld Z h36 a1 "com/example/fettle/fettle/regex/Counts" "starting" "Z" (.int st) := F_starting_a1_33.other W36 (Or.inl m1)
  have F_least_a1_36 : Fld Z h36 a1 "com/example/fettle/fettle/regex/Counts" "least" "I" (.int le) := F_least_a1_33.other W36 (Or.inl m1)
  have F_most_a1_36 : Fld Z h36 a1 "com/example/fettle/fettle/regex/Counts" "most" "I" (.int mo) := F_most_a1_33.other W36 (Or.inl m1)
  have V_o_a1_36 : Arv Z h36 o ko .int (4 : Int32) lo (.int (0 : Int32)) := V_o_a1_33.other W36 (Ne.symm m4)
  have V_w_a1_36 : Arv Z h36 w kw .int (4 : Int32) lw (.int (0 : Int32)) := V_w_a1_33.other W36 (Ne.symm m5)
  have E_ab_36 : Exa Z h36 ab "com/example/fettle/fettle/regex/Counts" := E_ab_33.wr W36
  have F_newest_ab_36 : Fld Z h36 ab "com/example/fettle/fettle/regex/Counts" "newest" "[I" (.ref wb) := F_newest_ab_33.other W36 (Or.inr (slot_ne (Or.inl (hw _ (List.mem_of_getElem? (i := 18) rfl))) (Or.inl (hw _ (List.mem_of_getElem? (i := 16) rfl))) (by decide) (t := (.array .int)) (t' := (.array .int)) (by decide) (by decide)))
  have F_first_ab_36 : Fld Z h36 ab "com/example/fettle/fettle/regex/Counts" "first" "I" (.int fib) := F_first_ab_33.other W36 (Or.inr (slot_ne (Or.inl (hw _ (List.mem_of_getElem? (i := 57) rfl))) (Or.inl (hw _ (List.mem_of_getElem? (i := 16) rfl))) (by decide) (t := .int) (t' := (.array .int)) (by decide) (by decide)))
  have F_runs_ab_36 : Fld Z h36 ab "com/example/fettle/fettle/regex/Counts" "runs" "I" (.int rub) := F_runs_ab_33.other W36 (Or.inr (slot_ne (Or.inl (hw _ (List.mem_of_getElem? (i := 29) rfl))) (Or.inl (hw _ (List.mem_of_getElem? (i := 16) rfl))) (by decide) (t := .int) (t' := (.array .int)) (by decide) (by decide)))
  have F_clock_ab_36 : Fld Z h36 ab "com/example/fettle/fettle/regex/Counts" "clock" "I" (.int clb) := F_clock_ab_33.other W36 (Or.inr (slot_ne (Or.inl (hw _ (List.mem_of_getElem? (i := 47) rfl))) (Or.inl (hw _ (List.mem_of_getElem? (i := 16) rfl))) (by decide) (t := .int) (t' := (.array .int)) (by decide) (by decide)))
  have F_starting_ab_36 : Fld Z h36 ab "com/example/fettle/fettle/regex/Counts" "starting" "Z" (.int stb) := F_starting_ab_33.other W36 (Or.inr (slot_ne (Or.inl (hw _ (List.mem_of_getElem? (i := 31) rfl))) (Or.inl (hw _ (List.mem_of_getElem? (i := 16) rfl))) (by decide) (t := .boolean) (t' := (.array .int)) (by decide) (by decide)))
  have F_least_ab_36 : Fld Z h36 ab "com/example/fettle/fettle/regex/Counts" "least" "I" (.int leb) := F_least_ab_33.other W36 (Or.inr (slot_ne (Or.inr (hw _ (List.mem_of_getElem? (i := 20) rfl))) (Or.inl (hw _ (List.mem_of_getElem? (i := 16) rfl))) (by decide) (t := .int) (t' := (.array .int)) (by decide) (by decide)))
  have F_most_ab_36 : Fld Z h36 ab "com/example/fettle/fettle/regex/Counts" "most" "I" (.int mob) := F_most_ab_33.other W36 (Or.inr (slot_ne (Or.inr (hw _ (List.mem_of_getElem? (i := 22) rfl))) (Or.inl (hw _ (List.mem_of_getElem? (i := 16) rfl))) (by decide) (t := .int) (t' := (.array .int)) (by decide) (by decide)))
  have V_o_ab_36 : Arv Z h36 ob kob .int (4 : Int32) lob (.int (0 : Int32)) := V_o_ab_33.other W36 (Ne.symm m6)
  have V_w_ab_36 : Arv Z h36 wb kwb .int (4 : Int32) lwb (.int (0 : Int32)) := V_w_ab_33.other W36 (Ne.symm m7)
  have F_oldest_a1_36 : Fld Z h36 a1 "com/example/fettle/fettle/regex/Counts" "oldest" "[I" (.ref ob) := F_oldest_a1_33.other W36 (Or.inl m1)
  have F_newest_a1_36 : Fld Z h36 a1 "com/example/fettle/fettle/regex/Counts" "newest" "[I" (.ref wb) := F_newest_a1_33.other W36 (Or.inl m1)
  have F_first_a1_36 : Fld Z h36 a1 "com/example/fettle/fettle/regex/Counts" "first" "I" (.int fib) := F_first_a1_33.other W36 (Or.inl m1)
  have F_runs_a1_36 : Fld Z h36 a1 "com/example/fettle/fettle/regex/Counts" "runs" "I" (.int rub) := F_runs_a1_33.other W36 (Or.inl m1)
  have F_clock_a1_36 : Fld Z h36 a1 "com/example/fettle/fettle/regex/Counts" "clock" "I" (.int clb) := F_clock_a1_33.other W36 (Or.inl m1)
  have Kp36 : Keep h0 h36 [a1, ab] := Kp33.wr W36 (Or.inl (List.mem_of_getElem? (i := 1) rfl))
  have N36 := Fr.snoc X36 N33 g_ab
  have Z36 : n0 ≤ h36.size := Nat.le_trans Z33 (Keep.of_wr W36).1
  have F_oldest_ab_36 : Fld Z h36 ab "com/example/fettle/fettle/regex/Counts" "oldest" "[I" (.ref o) := F_oldest_ab_33.same W36
  have pre37 := fun τ (κ : Steps p.tables e below (T36.setTop (mkF m 61 #[.val (.ref a1), .val (.ref ab), .val (.ref o), .val (.ref w), .val (.int cl)] [])) τ) => pre35 τ (st36 _ κ)
  have pre38 := fun τ (κ : Steps p.tables e below (T36.setTop (mkF m 63 #[.val (.ref a1), .val (.ref ab), .val (.ref o), .val (.ref w), .val (.int cl)] [(.ref w), (.ref ab)])) τ) => pre37 τ (by
    refine XS.aloadN X36.here hx rfl (hb hby d13_61) rfl rfl ?_
    show Steps p.tables e below (T36.setTop (mkF m 62 #[.val (.ref a1), .val (.ref ab), .val (.ref o), .val (.ref w), .val (.int cl)] [(.ref ab)])) _
    refine XS.aloadN X36.here hx rfl (hb hby d13_62) rfl rfl ?_
    show Steps p.tables e below (T36.setTop (mkF m 63 #[.val (.ref a1), .val (.ref ab), .val (.ref o), .val (.ref w), .val (.int cl)] [(.ref w), (.ref ab)])) _
    exact κ)
  obtain ⟨T39, h39, X39, e39, W39, st39⟩ := putF X36 hx hZ hown (host := "") (Or.inl (hw _ (List.mem_of_getElem? (i := 17) rfl))) Via.refl e36 F_newest_ab_36 E_ab_36 (Or.inl (hw _ (List.mem_of_getElem? (i := 18) rfl))) (hw _ (List.mem_of_getElem? (i := 6) rfl)) (ty := (.array .int)) (by decide) rfl rfl (g := (mkF m 63 #[.val (.ref a1), .val (.ref ab), .val (.ref o), .val (.ref w), .val (.int cl)] [(.ref w), (.ref ab)])) rfl rfl (hb hby d13_63)
  have E_a1_39 : Exa Z h39 a1 "com/example/fettle/fettle/regex/Counts" := E_a1_36.wr W39
  have F_starting_a1_39 : Fld Z h39 a1 "com/example/fettle/fettle/regex/Counts" "starting" "Z" (.int st) := F_starting_a1_36.other W39 (Or.inl m1)
  have F_least_a1_39 : Fld Z h39 a1 "com/example/fettle/fettle/regex/Counts" "least" "I" (.int le) := F_least_a1_36.other W39 (Or.inl m1)
  have F_most_a1_39 : Fld Z h39 a1 "com/example/fettle/fettle/regex/Counts" "most" "I" (.int mo) := F_most_a1_36.other W39 (Or.inl m1)
  have V_o_a1_39 : Arv Z h39 o ko .int (4 : Int32) lo (.int (0 : Int32)) := V_o_a1_36.other W39 (Ne.symm m4)
  have V_w_a1_39 : Arv Z h39 w kw .int (4 : Int32) lw (.int (0 : Int32)) := V_w_a1_36.other W39 (Ne.symm m5)
  have E_ab_39 : Exa Z h39 ab "com/example/fettle/fettle/regex/Counts" := E_ab_36.wr W39
  have F_first_ab_39 : Fld Z h39 ab "com/example/fettle/fettle/regex/Counts" "first" "I" (.int fib) := F_first_ab_36.other W39 (Or.inr (slot_ne (Or.inl (hw _ (List.mem_of_getElem? (i := 57) rfl))) (Or.inl (hw _ (List.mem_of_getElem? (i := 18) rfl))) (by decide) (t := .int) (t' := (.array .int)) (by decide) (by decide)))
  have F_runs_ab_39 : Fld Z h39 ab "com/example/fettle/fettle/regex/Counts" "runs" "I" (.int rub) := F_runs_ab_36.other W39 (Or.inr (slot_ne (Or.inl (hw _ (List.mem_of_getElem? (i := 29) rfl))) (Or.inl (hw _ (List.mem_of_getElem? (i := 18) rfl))) (by decide) (t := .int) (t' := (.array .int)) (by decide) (by decide)))
  have F_clock_ab_39 : Fld Z h39 ab "com/example/fettle/fettle/regex/Counts" "clock" "I" (.int clb) := F_clock_ab_36.other W39 (Or.inr (slot_ne (Or.inl (hw _ (List.mem_of_getElem? (i := 47) rfl))) (Or.inl (hw _ (List.mem_of_getElem? (i := 18) rfl))) (by decide) (t := .int) (t' := (.array .int)) (by decide) (by decide)))
  have F_starting_ab_39 : Fld Z h39 ab "com/example/fettle/fettle/regex/Counts" "starting" "Z" (.int stb) := F_starting_ab_36.other W39 (Or.inr (slot_ne (Or.inl (hw _ (List.mem_of_getElem? (i := 31) rfl))) (Or.inl (hw _ (List.mem_of_getElem? (i := 18) rfl))) (by decide) (t := .boolean) (t' := (.array .int)) (by decide) (by decide)))
  have F_least_ab_39 : Fld Z h39 ab "com/example/fettle/fettle/regex/Counts" "least" "I" (.int leb) := F_least_ab_36.other W39 (Or.inr (slot_ne (Or.inr (hw _ (List.mem_of_getElem? (i := 20) rfl))) (Or.inl (hw _ (List.mem_of_getElem? (i := 18) rfl))) (by decide) (t := .int) (t' := (.array .int)) (by decide) (by decide)))
  have F_most_ab_39 : Fld Z h39 ab "com/example/fettle/fettle/regex/Counts" "most" "I" (.int mob) := F_most_ab_36.other W39 (Or.inr (slot_ne (Or.inr (hw _ (List.mem_of_getElem? (i := 22) rfl))) (Or.inl (hw _ (List.mem_of_getElem? (i := 18) rfl))) (by decide) (t := .int) (t' := (.array .int)) (by decide) (by decide)))
  have V_o_ab_39 : Arv Z h39 ob kob .int (4 : Int32) lob (.int (0 : Int32)) := V_o_ab_36.other W39 (Ne.symm m6)
  have V_w_ab_39 : Arv Z h39 wb kwb .int (4 : Int32) lwb (.int (0 : Int32)) := V_w_ab_36.other W39 (Ne.symm m7)
  have F_oldest_a1_39 : Fld Z h39 a1 "com/example/fettle/fettle/regex/Counts" "oldest" "[I" (.ref ob) := F_oldest_a1_36.other W39 (Or.inl m1)
  have F_newest_a1_39 : Fld Z h39 a1 "com/example/fettle/fettle/regex/Counts" "newest" "[I" (.ref wb) := F_newest_a1_36.other W39 (Or.inl m1)
  have F_first_a1_39 : Fld Z h39 a1 "com/example/fettle/fettle/regex/Counts" "first" "I" (.int fib) := F_first_a1_36.other W39 (Or.inl m1)
  have F_runs_a1_39 : Fld Z h39 a1 "com/example/fettle/fettle/regex/Counts" "runs" "I" (.int rub) := F_runs_a1_36.other W39 (Or.inl m1)
  have F_clock_a1_39 : Fld Z h39 a1 "com/example/fettle/fettle/regex/Counts" "clock" "I" (.int clb) := F_clock_a1_36.other W39 (Or.inl m1)
  have F_oldest_ab_39 : Fld Z h39 ab "com/example/fettle/fettle/regex/Counts" "oldest" "[I" (.ref o) := F_oldest_ab_36.other W39 (Or.inr (slot_ne (Or.inl (hw _ (List.mem_of_getElem? (i := 16) rfl))) (Or.inl (hw _ (List.mem_of_getElem? (i := 18) rfl))) (by decide) (t := (.array .int)) (t' := (.array .int)) (by decide) (by decide)))
  have Kp39 : Keep h0 h39 [a1, ab] := Kp36.wr W39 (Or.inl (List.mem_of_getElem? (i := 1) rfl))
  have N39 := Fr.snoc X39 N36 g_ab
  have Z39 : n0 ≤ h39.size := Nat.le_trans Z36 (Keep.of_wr W39).1
  have F_newest_ab_39 : Fld Z h39 ab "com/example/fettle/fettle/regex/Counts" "newest" "[I" (.ref w) := F_newest_ab_36.same W39
  have pre40 := fun τ (κ : Steps p.tables e below (T39.setTop (mkF m 66 #[.val (.ref a1), .val (.ref ab), .val (.ref o), .val (.ref w), .val (.int cl)] [])) τ) => pre38 τ (st39 _ κ)
  have pre41 := fun τ (κ : Steps p.tables e below (T39.setTop (mkF m 68 #[.val (.ref a1), .val (.ref ab), .val (.ref o), .val (.ref w), .val (.int cl)] [(.int (0 : Int32)), (.ref ab)])) τ) => pre40 τ (by
    refine XS.aloadN X39.here hx rfl (hb hby d13_66) rfl rfl ?_
    show Steps p.tables e below (T39.setTop (mkF m 67 #[.val (.ref a1), .val (.ref ab), .val (.ref o), .val (.ref w), .val (.int cl)] [(.ref ab)])) _
    refine XS.iconst X39.here hx rfl (hb hby d13_67) ?_
    show Steps p.tables e below (T39.setTop (mkF m 68 #[.val (.ref a1), .val (.ref ab), .val (.ref o), .val (.ref w), .val (.int cl)] [(.int (0 : Int32)), (.ref ab)])) _
    exact κ)
  obtain ⟨T42, h42, X42, e42, W42, st42⟩ := putF X39 hx hZ hown (host := "") (Or.inl (hw _ (List.mem_of_getElem? (i := 56) rfl))) Via.refl e39 F_first_ab_39 E_ab_39 (Or.inl (hw _ (List.mem_of_getElem? (i := 57) rfl))) (hw _ (List.mem_of_getElem? (i := 6) rfl)) (ty := .int) (by decide) rfl rfl (g := (mkF m 68 #[.val (.ref a1), .val (.ref ab), .val (.ref o), .val (.ref w), .val (.int cl)] [(.int (0 : Int32)), (.ref ab)])) rfl rfl (hb hby d13_68)
  have E_a1_42 : Exa Z h42 a1 "com/example/fettle/fettle/regex/Counts" := E_a1_39.wr W42
  have F_starting_a1_42 : Fld Z h42 a1 "com/example/fettle/fettle/regex/Counts" "starting" "Z" (.int st) := F_starting_a1_39.other W42 (Or.inl m1)
  have F_least_a1_42 : Fld Z h42 a1 "com/example/fettle/fettle/regex/Counts" "least" "I" (.int le) := F_least_a1_39.other W42 (Or.inl m1)
  have F_most_a1_42 : Fld Z h42 a1 "com/example/fettle/fettle/regex/Counts" "most" "I" (.int mo) := F_most_a1_39.other W42 (Or.inl m1)
  have V_o_a1_42 : Arv Z h42 o ko .int (4 : Int32) lo (.int (0 : Int32)) := V_o_a1_39.other W42 (Ne.symm m4)
  have V_w_a1_42 : Arv Z h42 w kw .int (4 : Int32) lw (.int (0 : Int32)) := V_w_a1_39.other W42 (Ne.symm m5)
  have E_ab_42 : Exa Z h42 ab "com/example/fettle/fettle/regex/Counts" := E_ab_39.wr W42
  have F_runs_ab_42 : Fld Z h42 ab "com/example/fettle/fettle/regex/Counts" "runs" "I" (.int rub) := F_runs_ab_39.other W42 (Or.inr (slot_ne (Or.inl (hw _ (List.mem_of_getElem? (i := 29) rfl))) (Or.inl (hw _ (List.mem_of_getElem? (i := 57) rfl))) (by decide) (t := .int) (t' := .int) (by decide) (by decide)))
  have F_clock_ab_42 : Fld Z h42 ab "com/example/fettle/fettle/regex/Counts" "clock" "I" (.int clb) := F_clock_ab_39.other W42 (Or.inr (slot_ne (Or.inl (hw _ (List.mem_of_getElem? (i := 47) rfl))) (Or.inl (hw _ (List.mem_of_getElem? (i := 57) rfl))) (by decide) (t := .int) (t' := .int) (by decide) (by decide)))
  have F_starting_ab_42 : Fld Z h42 ab "com/example/fettle/fettle/regex/Counts" "starting" "Z" (.int stb) := F_starting_ab_39.other W42 (Or.inr (slot_ne (Or.inl (hw _ (List.mem_of_getElem? (i := 31) rfl))) (Or.inl (hw _ (List.mem_of_getElem? (i := 57) rfl))) (by decide) (t := .boolean) (t' := .int) (by decide) (by decide)))
  have F_least_ab_42 : Fld Z h42 ab "com/example/fettle/fettle/regex/Counts" "least" "I" (.int leb) := F_least_ab_39.other W42 (Or.inr (slot_ne (Or.inr (hw _ (List.mem_of_getElem? (i := 20) rfl))) (Or.inl (hw _ (List.mem_of_getElem? (i := 57) rfl))) (by decide) (t := .int) (t' := .int) (by decide) (by decide)))
  have F_most_ab_42 : Fld Z h42 ab "com/example/fettle/fettle/regex/Counts" "most" "I" (.int mob) := F_most_ab_39.other W42 (Or.inr (slot_ne (Or.inr (hw _ (List.mem_of_getElem? (i := 22) rfl))) (Or.inl (hw _ (List.mem_of_getElem? (i := 57) rfl))) (by decide) (t := .int) (t' := .int) (by decide) (by decide)))
  have V_o_ab_42 : Arv Z h42 ob kob .int (4 : Int32) lob (.int (0 : Int32)) := V_o_ab_39.other W42 (Ne.symm m6)
  have V_w_ab_42 : Arv Z h42 wb kwb .int (4 : Int32) lwb (.int (0 : Int32)) := V_w_ab_39.other W42 (Ne.symm m7)
  have F_oldest_a1_42 : Fld Z h42 a1 "com/example/fettle/fettle/regex/Counts" "oldest" "[I" (.ref ob) := F_oldest_a1_39.other W42 (Or.inl m1)
  have F_newest_a1_42 : Fld Z h42 a1 "com/example/fettle/fettle/regex/Counts" "newest" "[I" (.ref wb) := F_newest_a1_39.other W42 (Or.inl m1)
  have F_first_a1_42 : Fld Z h42 a1 "com/example/fettle/fettle/regex/Counts" "first" "I" (.int fib) := F_first_a1_39.other W42 (Or.inl m1)
  have F_runs_a1_42 : Fld Z h42 a1 "com/example/fettle/fettle/regex/Counts" "runs" "I" (.int rub) := F_runs_a1_39.other W42 (Or.inl m1)
  have F_clock_a1_42 : Fld Z h42 a1 "com/example/fettle/fettle/regex/Counts" "clock" "I" (.int clb) := F_clock_a1_39.other W42 (Or.inl m1)
  have F_oldest_ab_42 : Fld Z h42 ab "com/example/fettle/fettle/regex/Counts" "oldest" "[I" (.ref o) := F_oldest_ab_39.other W42 (Or.inr (slot_ne (Or.inl (hw _ (List.mem_of_getElem? (i := 16) rfl))) (Or.inl (hw _ (List.mem_of_getElem? (i := 57) rfl))) (by decide) (t := (.array .int)) (t' := .int) (by decide) (by decide)))
  have F_newest_ab_42 : Fld Z h42 ab "com/example/fettle/fettle/regex/Counts" "newest" "[I" (.ref w) := F_newest_ab_39.other W42 (Or.inr (slot_ne (Or.inl (hw _ (List.mem_of_getElem? (i := 18) rfl))) (Or.inl (hw _ (List.mem_of_getElem? (i := 57) rfl))) (by decide) (t := (.array .int)) (t' := .int) (by decide) (by decide)))
  have Kp42 : Keep h0 h42 [a1, ab] := Kp39.wr W42 (Or.inl (List.mem_of_getElem? (i := 1) rfl))
  have N42 := Fr.snoc X42 N39 g_ab
  have Z42 : n0 ≤ h42.size := Nat.le_trans Z39 (Keep.of_wr W42).1
  have F_first_ab_42 : Fld Z h42 ab "com/example/fettle/fettle/regex/Counts" "first" "I" (.int (0 : Int32)) := F_first_ab_39.same W42
  have pre43 := fun τ (κ : Steps p.tables e below (T42.setTop (mkF m 71 #[.val (.ref a1), .val (.ref ab), .val (.ref o), .val (.ref w), .val (.int cl)] [])) τ) => pre41 τ (st42 _ κ)
  have pre44 := fun τ (κ : Steps p.tables e below (T42.setTop (mkF m 73 #[.val (.ref a1), .val (.ref ab), .val (.ref o), .val (.ref w), .val (.int cl)] [(.int (0 : Int32)), (.ref ab)])) τ) => pre43 τ (by
    refine XS.aloadN X42.here hx rfl (hb hby d13_71) rfl rfl ?_
    show Steps p.tables e below (T42.setTop (mkF m 72 #[.val (.ref a1), .val (.ref ab), .val (.ref o), .val (.ref w), .val (.int cl)] [(.ref ab)])) _
    refine XS.iconst X42.here hx rfl (hb hby d13_72) ?_
    show Steps p.tables e below (T42.setTop (mkF m 73 #[.val (.ref a1), .val (.ref ab), .val (.ref o), .val (.ref w), .val (.int cl)] [(.int (0 : Int32)), (.ref ab)])) _
    exact κ)
  obtain ⟨T45, h45, X45, e45, W45, st45⟩ := putF X42 hx hZ hown (host := "") (Or.inl (hw _ (List.mem_of_getElem? (i := 28) rfl))) Via.refl e42 F_runs_ab_42 E_ab_42 (Or.inl (hw _ (List.mem_of_getElem? (i := 29) rfl))) (hw _ (List.mem_of_getElem? (i := 6) rfl)) (ty := .int) (by decide) rfl rfl (g := (mkF m 73 #[.val (.ref a1), .val (.ref ab), .val (.ref o), .val (.ref w), .val (.int cl)] [(.int (0 : Int32)), (.ref ab)])) rfl rfl (hb hby d13_73)
  have E_a1_45 : Exa Z h45 a1 "com/example/fettle/fettle/regex/Counts" := E_a1_42.wr W45
  have F_starting_a1_45 : Fld Z h45 a1 "com/example/fettle/fettle/regex/Counts" "starting" "Z" (.int st) := F_starting_a1_42.other W45 (Or.inl m1)
  have F_least_a1_45 : Fld Z h45 a1 "com/example/fettle/fettle/regex/Counts" "least" "I" (.int le) := F_least_a1_42.other W45 (Or.inl m1)
  have F_most_a1_45 : Fld Z h45 a1 "com/example/fettle/fettle/regex/Counts" "most" "I" (.int mo) := F_most_a1_42.other W45 (Or.inl m1)
  have V_o_a1_45 : Arv Z h45 o ko .int (4 : Int32) lo (.int (0 : Int32)) := V_o_a1_42.other W45 (Ne.symm m4)
  have V_w_a1_45 : Arv Z h45 w kw .int (4 : Int32) lw (.int (0 : Int32)) := V_w_a1_42.other W45 (Ne.symm m5)
  have E_ab_45 : Exa Z h45 ab "com/example/fettle/fettle/regex/Counts" := E_ab_42.wr W45
  have F_clock_ab_45 : Fld Z h45 ab "com/example/fettle/fettle/regex/Counts" "clock" "I" (.int clb) := F_clock_ab_42.other W45 (Or.inr (slot_ne (Or.inl (hw _ (List.mem_of_getElem? (i := 47) rfl))) (Or.inl (hw _ (List.mem_of_getElem? (i := 29) rfl))) (by decide) (t := .int) (t' := .int) (by decide) (by decide)))
  have F_starting_ab_45 : Fld Z h45 ab "com/example/fettle/fettle/regex/Counts" "starting" "Z" (.int stb) := F_starting_ab_42.other W45 (Or.inr (slot_ne (Or.inl (hw _ (List.mem_of_getElem? (i := 31) rfl))) (Or.inl (hw _ (List.mem_of_getElem? (i := 29) rfl))) (by decide) (t := .boolean) (t' := .int) (by decide) (by decide)))
  have F_least_ab_45 : Fld Z h45 ab "com/example/fettle/fettle/regex/Counts" "least" "I" (.int leb) := F_least_ab_42.other W45 (Or.inr (slot_ne (Or.inr (hw _ (List.mem_of_getElem? (i := 20) rfl))) (Or.inl (hw _ (List.mem_of_getElem? (i := 29) rfl))) (by decide) (t := .int) (t' := .int) (by decide) (by decide)))
  have F_most_ab_45 : Fld Z h45 ab "com/example/fettle/fettle/regex/Counts" "most" "I" (.int mob) := F_most_ab_42.other W45 (Or.inr (slot_ne (Or.inr (hw _ (List.mem_of_getElem? (i := 22) rfl))) (Or.inl (hw _ (List.mem_of_getElem? (i := 29) rfl))) (by decide) (t := .int) (t' := .int) (by decide) (by decide)))
  have V_o_ab_45 : Arv Z h45 ob kob .int (4 : Int32) lob (.int (0 : Int32)) := V_o_ab_42.other W45 (Ne.symm m6)
  have V_w_ab_45 : Arv Z h45 wb kwb .int (4 : Int32) lwb (.int (0 : Int32)) := V_w_ab_42.other W45 (Ne.symm m7)
  have F_oldest_a1_45 : Fld Z h45 a1 "com/example/fettle/fettle/regex/Counts" "oldest" "[I" (.ref ob) := F_oldest_a1_42.other W45 (Or.inl m1)
  have F_newest_a1_45 : Fld Z h45 a1 "com/example/fettle/fettle/regex/Counts" "newest" "[I" (.ref wb) := F_newest_a1_42.other W45 (Or.inl m1)
  have F_first_a1_45 : Fld Z h45 a1 "com/example/fettle/fettle/regex/Counts" "first" "I" (.int fib) := F_first_a1_42.other W45 (Or.inl m1)
  have F_runs_a1_45 : Fld Z h45 a1 "com/example/fettle/fettle/regex/Counts" "runs" "I" (.int rub) := F_runs_a1_42.other W45 (Or.inl m1)
  have F_clock_a1_45 : Fld Z h45 a1 "com/example/fettle/fettle/regex/Counts" "clock" "I" (.int clb) := F_clock_a1_42.other W45 (Or.inl m1)
  have F_oldest_ab_45 : Fld Z h45 ab "com/example/fettle/fettle/regex/Counts" "oldest" "[I" (.ref o) := F_oldest_ab_42.other W45 (Or.inr (slot_ne (Or.inl (hw _ (List.mem_of_getElem? (i := 16) rfl))) (Or.inl (hw _ (List.mem_of_getElem? (i := 29) rfl))) (by decide) (t := (.array .int)) (t' := .int) (by decide) (by decide)))
  have F_newest_ab_45 : Fld Z h45 ab "com/example/fettle/fettle/regex/Counts" "newest" "[I" (.ref w) := F_newest_ab_42.other W45 (Or.inr (slot_ne (Or.inl (hw _ (List.mem_of_getElem? (i := 18) rfl))) (Or.inl (hw _ (List.mem_of_getElem? (i := 29) rfl))) (by decide) (t := (.array .int)) (t' := .int) (by decide) (by decide)))
  have F_first_ab_45 : Fld Z h45 ab "com/example/fettle/fettle/regex/Counts" "first" "I" (.int (0 : Int32)) := F_first_ab_42.other W45 (Or.inr (slot_ne (Or.inl (hw _ (List.mem_of_getElem? (i := 57) rfl))) (Or.inl (hw _ (List.mem_of_getElem? (i := 29) rfl))) (by decide) (t := .int) (t' := .int) (by decide) (by decide)))
  have Kp45 : Keep h0 h45 [a1, ab] := Kp42.wr W45 (Or.inl (List.mem_of_getElem? (i := 1) rfl))
  have N45 := Fr.snoc X45 N42 g_ab
  have Z45 : n0 ≤ h45.size := Nat.le_trans Z42 (Keep.of_wr W45).1
  have F_runs_ab_45 : Fld Z h45 ab "com/example/fettle/fettle/regex/Counts" "runs" "I" (.int (0 : Int32)) := F_runs_ab_42.same W45
  have pre46 := fun τ (κ : Steps p.tables e below (T45.setTop (mkF m 76 #[.val (.ref a1), .val (.ref ab), .val (.ref o), .val (.ref w), .val (.int cl)] [])) τ) => pre44 τ (st45 _ κ)
  have pre47 := fun τ (κ : Steps p.tables e below (T45.setTop (mkF m 79 #[.val (.ref a1), .val (.ref ab), .val (.ref o), .val (.ref w), .val (.int cl)] [(.int cl), (.ref ab)])) τ) => pre46 τ (by
    refine XS.aloadN X45.here hx rfl (hb hby d13_76) rfl rfl ?_
    show Steps p.tables e below (T45.setTop (mkF m 77 #[.val (.ref a1), .val (.ref ab), .val (.ref o), .val (.ref w), .val (.int cl)] [(.ref ab)])) _
    refine XS.iload X45.here hx rfl (hb hby d13_77) rfl ?_
    show Steps p.tables e below (T45.setTop (mkF m 79 #[.val (.ref a1), .val (.ref ab), .val (.ref o), .val (.ref w), .val (.int cl)] [(.int cl), (.ref ab)])) _
    exact κ)
  obtain ⟨T48, h48, X48, e48, W48, st48⟩ := putF X45 hx hZ hown (host := "") (Or.inl (hw _ (List.mem_of_getElem? (i := 46) rfl))) Via.refl e45 F_clock_ab_45 E_ab_45 (Or.inl (hw _ (List.mem_of_getElem? (i := 47) rfl))) (hw _ (List.mem_of_getElem? (i := 6) rfl)) (ty := .int) (by decide) rfl rfl (g := (mkF m 79 #[.val (.ref a1), .val (.ref ab), .val (.ref o), .val (.ref w), .val (.int cl)] [(.int cl), (.ref ab)])) rfl rfl (hb hby d13_79)
  have E_a1_48 : Exa Z h48 a1 "com/example/fettle/fettle/regex/Counts" := E_a1_45.wr W48
  have F_starting_a1_48 : Fld Z h48 a1 "com/example/fettle/fettle/regex/Counts" "starting" "Z" (.int st) := F_starting_a1_45.other W48 (Or.inl m1)
  have F_least_a1_48 : Fld Z h48 a1 "com/example/fettle/fettle/regex/Counts" "least" "I" (.int le) := F_least_a1_45.other W48 (Or.inl m1)
  have F_most_a1_48 : Fld Z h48 a1 "com/example/fettle/fettle/regex/Counts" "most" "I" (.int mo) := F_most_a1_45.other W48 (Or.inl m1)
  have V_o_a1_48 : Arv Z h48 o ko .int (4 : Int32) lo (.int (0 : Int32)) := V_o_a1_45.other W48 (Ne.symm m4)
  have V_w_a1_48 : Arv Z h48 w kw .int (4 : Int32) lw (.int (0 : Int32)) := V_w_a1_45.other W48 (Ne.symm m5)
  have E_ab_48 : Exa Z h48 ab "com/example/fettle/fettle/regex/Counts" := E_ab_45.wr W48
  have F_starting_ab_48 : Fld Z h48 ab "com/example/fettle/fettle/regex/Counts" "starting" "Z" (.int stb) := F_starting_ab_45.other W48 (Or.inr (slot_ne (Or.inl (hw _ (List.mem_of_getElem? (i := 31) rfl))) (Or.inl (hw _ (List.mem_of_getElem? (i := 47) rfl))) (by decide) (t := .boolean) (t' := .int) (by decide) (by decide)))
  have F_least_ab_48 : Fld Z h48 ab "com/example/fettle/fettle/regex/Counts" "least" "I" (.int leb) := F_least_ab_45.other W48 (Or.inr (slot_ne (Or.inr (hw _ (List.mem_of_getElem? (i := 20) rfl))) (Or.inl (hw _ (List.mem_of_getElem? (i := 47) rfl))) (by decide) (t := .int) (t' := .int) (by decide) (by decide)))
  have F_most_ab_48 : Fld Z h48 ab "com/example/fettle/fettle/regex/Counts" "most" "I" (.int mob) := F_most_ab_45.other W48 (Or.inr (slot_ne (Or.inr (hw _ (List.mem_of_getElem? (i := 22) rfl))) (Or.inl (hw _ (List.mem_of_getElem? (i := 47) rfl))) (by decide) (t := .int) (t' := .int) (by decide) (by decide)))
  have V_o_ab_48 : Arv Z h48 ob kob .int (4 : Int32) lob (.int (0 : Int32)) := V_o_ab_45.other W48 (Ne.symm m6)
  have V_w_ab_48 : Arv Z h48 wb kwb .int (4 : Int32) lwb (.int (0 : Int32)) := V_w_ab_45.other W48 (Ne.symm m7)
  have F_oldest_a1_48 : Fld Z h48 a1 "com/example/fettle/fettle/regex/Counts" "oldest" "[I" (.ref ob) := F_oldest_a1_45.other W48 (Or.inl m1)
  have F_newest_a1_48 : Fld Z h48 a1 "com/example/fettle/fettle/regex/Counts" "newest" "[I" (.ref wb) := F_newest_a1_45.other W48 (Or.inl m1)
  have F_first_a1_48 : Fld Z h48 a1 "com/example/fettle/fettle/regex/Counts" "first" "I" (.int fib) := F_first_a1_45.other W48 (Or.inl m1)
  have F_runs_a1_48 : Fld Z h48 a1 "com/example/fettle/fettle/regex/Counts" "runs" "I" (.int rub) := F_runs_a1_45.other W48 (Or.inl m1)
  have F_clock_a1_48 : Fld Z h48 a1 "com/example/fettle/fettle/regex/Counts" "clock" "I" (.int clb) := F_clock_a1_45.other W48 (Or.inl m1)
  have F_oldest_ab_48 : Fld Z h48 ab "com/example/fettle/fettle/regex/Counts" "oldest" "[I" (.ref o) := F_oldest_ab_45.other W48 (Or.inr (slot_ne (Or.inl (hw _ (List.mem_of_getElem? (i := 16) rfl))) (Or.inl (hw _ (List.mem_of_getElem? (i := 47) rfl))) (by decide) (t := (.array .int)) (t' := .int) (by decide) (by decide)))
  have F_newest_ab_48 : Fld Z h48 ab "com/example/fettle/fettle/regex/Counts" "newest" "[I" (.ref w) := F_newest_ab_45.other W48 (Or.inr (slot_ne (Or.inl (hw _ (List.mem_of_getElem? (i := 18) rfl))) (Or.inl (hw _ (List.mem_of_getElem? (i := 47) rfl))) (by decide) (t := (.array .int)) (t' := .int) (by decide) (by decide)))
  have F_first_ab_48 : Fld Z h48 ab "com/example/fettle/fettle/regex/Counts" "first" "I" (.int (0 : Int32)) := F_first_ab_45.other W48 (Or.inr (slot_ne (Or.inl (hw _ (List.mem_of_getElem? (i := 57) rfl))) (Or.inl (hw _ (List.mem_of_getElem? (i := 47) rfl))) (by decide) (t := .int) (t' := .int) (by decide) (by decide)))
  have F_runs_ab_48 : Fld Z h48 ab "com/example/fettle/fettle/regex/Counts" "runs" "I" (.int (0 : Int32)) := F_runs_ab_45.other W48 (Or.inr (slot_ne (Or.inl (hw _ (List.mem_of_getElem? (i := 29) rfl))) (Or.inl (hw _ (List.mem_of_getElem? (i := 47) rfl))) (by decide) (t := .int) (t' := .int) (by decide) (by decide)))
  have Kp48 : Keep h0 h48 [a1, ab] := Kp45.wr W48 (Or.inl (List.mem_of_getElem? (i := 1) rfl))
  have N48 := Fr.snoc X48 N45 g_ab
  have Z48 : n0 ≤ h48.size := Nat.le_trans Z45 (Keep.of_wr W48).1
  have F_clock_ab_48 : Fld Z h48 ab "com/example/fettle/fettle/regex/Counts" "clock" "I" (.int cl) := F_clock_ab_45.same W48
  have pre49 := fun τ (κ : Steps p.tables e below (T48.setTop (mkF m 82 #[.val (.ref a1), .val (.ref ab), .val (.ref o), .val (.ref w), .val (.int cl)] [])) τ) => pre47 τ (st48 _ κ)
  obtain ⟨fs, hr, hrun, hended, hW, hsame⟩ := X48.leave (v := none) (fun _ => rfl)
  refine ⟨_, _, pre49 _ ?_, hrun, hended, _, _, rfl, ?_, ⟨_, rfl⟩, hW, hsame.mono (by decide) (by decide)⟩
  · exact X48.returnOut hx Bd.returns (hb hby d13_82) hr
  · show Q13 Z a1 ab o w ko kw fi ru cl st le mo lo lw ob wb kob kwb fib rub clb stb leb mob lob lwb h0 n0 _ T48.heap _
    rw [e48]
    exact ⟨rfl, N48, Kp48, ⟨E_a1_48, F_oldest_a1_48, F_newest_a1_48, F_first_a1_48, F_runs_a1_48, F_clock_a1_48, F_starting_a1_48, F_least_a1_48, F_most_a1_48, V_o_ab_48, V_w_ab_48⟩, ⟨E_ab_48, F_oldest_ab_48, F_newest_ab_48, F_first_ab_48, F_runs_ab_48, F_clock_ab_48, F_starting_ab_48, F_least_ab_48, F_most_ab_48, V_o_a1_48, V_w_a1_48⟩⟩
theorem ef_12 (m : MethodId) (a1 : Addr) (ab : Addr) (o : Addr) (w : Addr) (fi : Int32) (ru : Int32) (cl : Int32) (st : Int32) (le : Int32) (mo : Int32) (ob : Addr) (wb : Addr) (fib : Int32) (rub : Int32) (clb : Int32) (stb : Int32) (leb : Int32) (mob : Int32) : entryFrame m #[(.ref a1), (.ref ab)] 8 = mkF m 0 #[.val (.ref a1), .val (.ref ab), .unset, .unset, .unset, .unset, .unset, .unset] [] := by first | (simp [entryFrame, mkF, argsToLocals, Value.category]; done) | rfl
def Q12 (Z : State) (a1 : Addr) (ab : Addr) (o : Addr) (w : Addr) (ko : ClassId) (kw : ClassId) (fi : Int32) (ru : Int32) (cl : Int32) (st : Int32) (le : Int32) (mo : Int32) (lo : List Value) (lw : List Value) (ob : Addr) (wb : Addr) (kob : ClassId) (kwb : ClassId) (fib : Int32) (rub : Int32) (clb : Int32) (stb : Int32) (leb : Int32) (mob : Int32) (lob : List Value) (lwb : List Value) (h0 : Heap) (n0 : Nat) (v : Option Value) (h : Heap) (L : List Loc) : Prop := v = none ∧ Fr n0 L ∧ Keep h0 h [a1, ab] ∧ own_C Z h a1 ob wb kob kwb fib rub clb st le mo lob lwb ∧ own_C Z h ab o w ko kw 0 0 cl stb leb mob lo lw
set_option maxRecDepth 65536 in
set_option maxHeartbeats 40000000 in
theorem rm12 (l : Launch) (Z : State) (a0 : Array Value) (hw : ∀ d ∈ tables_1, d.before a0 Z = true) (ws : List Jvm.Cond) (a1 : Addr) (ab : Addr) (o : Addr) (w : Addr) (ko : ClassId) (kw : ClassId) (fi : Int32) (ru : Int32) (cl : Int32) (st : Int32) (le : Int32) (mo : Int32) (lo : List Value) (lw : List Value) (ob : Addr) (wb : Addr) (kob : ClassId) (kwb : ClassId) (fib : Int32) (rub : Int32) (clb : Int32) (stb : Int32) (leb : Int32) (mob : Int32) (lob : List Value) (lwb : List Value) (h0 : Heap) (n0 : Nat) (Z0 : n0 ≤ h0.size) (P0 : own_C Z h0 a1 o w ko kw fi ru cl st le mo lo lw) (P2 : own_C Z h0 ab ob wb kob kwb fib rub clb stb leb mob lob lwb) (hru : ru = 0) (n1 : a1 ≠ o) (n2 : a1 ≠ w) (n3 : o ≠ w) (m1 : a1 ≠ ab) (m2 : a1 ≠ ob) (m3 : a1 ≠ wb) (m4 : ab ≠ o) (m5 : ab ≠ w) (m6 : ab ≠ ob) (m7 : ab ≠ wb) (g_a1 : n0 ≤ a1) (g_ab : n0 ≤ ab) :
    MetFree l (⟨"com/example/fettle/fettle/regex/Counts", "join", "(Lcom/example/fettle/fettle/regex/Counts;)V"⟩ : MethodName) (head1 (Jvm.Cond.code (⟨"com/example/fettle/fettle/regex/Counts", "join", "(Lcom/example/fettle/fettle/regex/Counts;)V"⟩ : MethodName) prog_24_method_7_code 8 none :: ws) ({ frames := 1, cells := 0, slots := 0, locals := 16 } : Room)) (fun α υ => α = #[(.ref a1), (.ref ab)] ∧ Z.Warmed39 υ.vm ∧ υ.heap = h0) (fun _ _ _ _ _ => True) (fun _ υ ω υ' => ∃ v L, ω = .returned v ∧ Q12 Z a1 ab o w ko kw fi ru cl st le mo lo lw ob wb kob kwb fib rub clb stb leb mob lob lwb h0 n0 v υ'.heap L ∧ FrameEnd υ ω υ' L ({ frames := 1, cells := 0, slots := 0, locals := 16 } : Room).cells ({ frames := 1, cells := 0, slots := 0, locals := 16 } : Room).slots) := by
  refine MetFree.of_bodySF (plainFor_of_name pn_com_example_fettle_fettle_regex_Counts) hisR ?_
  intro p e s m args below meth c s₁ Bd hml0 hP hK
  obtain ⟨rfl, hZ, hh⟩ := hP
  have hx := Bd.exec
  have hby := Bd.bytes
  have hml : c.maxLocals = 8 := hml0
  have hown : s.vm.findClass "com/example/fettle/fettle/regex/Counts" = some m.cls := findClass_of_methodNamed Bd.named
  have hnm := (name_of_methodNamed Bd.named Bd.method).1
  have X0 : Stand p l e ({ frames := 1, cells := 0, slots := 0, locals := 16 } : Room) s m #[(.ref a1), (.ref ab)] below meth c s₁ [] 0 0 := Stand.of_body Bd
  have e0 : s₁.heap = h0 := by rw [← hh, Bd.state]; rfl
  have N0 := Fr.nil n0
  have pre0 : ∀ τ, Steps p.tables e below (s₁.setTop (mkF m 0 #[.val (.ref a1), .val (.ref ab), .unset, .unset, .unset, .unset, .unset, .unset] [])) τ → Steps p.tables e below (s₁.setTop (entryFrame m #[(.ref a1), (.ref ab)] 8)) τ := fun τ κ => castTop (ef_12 m a1 ab o w fi ru cl st le mo ob wb fib rub clb stb leb mob) κ
  obtain ⟨E_a1, F_oldest_a1, F_newest_a1, F_first_a1, F_runs_a1, F_clock_a1, F_starting_a1, F_least_a1, F_most_a1, V_o_a1, V_w_a1⟩ := P0
  obtain ⟨E_ab, F_oldest_ab, F_newest_ab, F_first_ab, F_runs_ab, F_clock_ab, F_starting_ab, F_least_ab, F_most_ab, V_o_ab, V_w_ab⟩ := P2
  have Kp0 : Keep h0 h0 [a1, ab] := Keep.refl _ _
  have Fx_runs_a1 : Fld Z h0 a1 "com/example/fettle/fettle/regex/Counts" "runs" "I" (.int (0 : Int32)) := by have q := F_runs_a1; rw [hru] at q; exact q
  have pre1 := fun τ (κ : Steps p.tables e below (s₁.setTop (mkF m 1 #[.val (.ref a1), .val (.ref ab), .unset, .unset, .unset, .unset, .unset, .unset] [(.ref a1)])) τ) => pre0 τ (by
    refine XS.aloadN X0.here hx rfl (hb hby d12_0) rfl rfl ?_
    show Steps p.tables e below (s₁.setTop (mkF m 1 #[.val (.ref a1), .val (.ref ab), .unset, .unset, .unset, .unset, .unset, .unset] [(.ref a1)])) _
    exact κ)
  obtain ⟨T2, X2, e2, st2⟩ := getF X0 hx hZ hown (host := "") (Or.inl (hw _ (List.mem_of_getElem? (i := 28) rfl))) Via.refl e0 Fx_runs_a1 (g := (mkF m 1 #[.val (.ref a1), .val (.ref ab), .unset, .unset, .unset, .unset, .unset, .unset] [(.ref a1)])) rfl rfl (hb hby d12_1)
  have pre3 := fun τ (κ : Steps p.tables e below (T2.setTop (mkF m 4 #[.val (.ref a1), .val (.ref ab), .unset, .unset, .unset, .unset, .unset, .unset] [(.int (0 : Int32))])) τ) => pre1 τ (st2 _ κ)
  have pre4 := fun τ (κ : Steps p.tables e below (T2.setTop (mkF m 9 #[.val (.ref a1), .val (.ref ab), .unset, .unset, .unset, .unset, .unset, .unset] [(.ref ab), (.ref a1)])) τ) => pre3 τ (by
    refine XS.ifNo X2.here hx rfl (hb hby d12_4) rfl ((if0 _ _).trans (teq rfl).2) ?_
    show Steps p.tables e below (T2.setTop (mkF m 7 #[.val (.ref a1), .val (.ref ab), .unset, .unset, .unset, .unset, .unset, .unset] [])) _
    refine XS.aloadN X2.here hx rfl (hb hby d12_7) rfl rfl ?_
    show Steps p.tables e below (T2.setTop (mkF m 8 #[.val (.ref a1), .val (.ref ab), .unset, .unset, .unset, .unset, .unset, .unset] [(.ref a1)])) _
    refine XS.aloadN X2.here hx rfl (hb hby d12_8) rfl rfl ?_
    show Steps p.tables e below (T2.setTop (mkF m 9 #[.val (.ref a1), .val (.ref ab), .unset, .unset, .unset, .unset, .unset, .unset] [(.ref ab), (.ref a1)])) _
    exact κ)
  obtain ⟨cq5, q5, q5'⟩ := E_a1.cell
  obtain ⟨_, _, ⟨T5, L5, k5, n5⟩, -, X5, ⟨Lc5, hQ5, l5, y5, z5⟩, st5⟩ := X2.privateBack hx (y := (⟨"com/example/fettle/fettle/regex/Counts", "takeRunsOf", "(Lcom/example/fettle/fettle/regex/Counts;)V"⟩ : MethodName)) hown (mvT hZ (hw _ (List.mem_of_getElem? (i := 70) rfl))) (mvT hZ (hw _ (List.mem_of_getElem? (i := 71) rfl))) (own_sel hZ (hw _ (List.mem_of_getElem? (i := 6) rfl)) (hw _ (List.mem_of_getElem? (i := 72) rfl)) (hw _ (List.mem_of_getElem? (i := 71) rfl)) (by decide)) (Cond.privateMethod_at (mvP hZ (hw _ (List.mem_of_getElem? (i := 72) rfl)) (args := #[]))) (mvT hZ (hw _ (List.mem_of_getElem? (i := 73) rfl))) (by decide) (backOf (W := 0) (rm13 l Z a0 hw [] a1 ab o w ko kw fi 0 cl st le mo lo lw ob wb kob kwb fib rub clb stb leb mob lob lwb h0 n0 Z0 ⟨E_a1, F_oldest_a1, F_newest_a1, F_first_a1, Fx_runs_a1, F_clock_a1, F_starting_a1, F_least_a1, F_most_a1, V_o_a1, V_w_a1⟩ ⟨E_ab, F_oldest_ab, F_newest_ab, F_first_ab, F_runs_ab, F_clock_ab, F_starting_ab, F_least_ab, F_most_ab, V_o_ab, V_w_ab⟩ n1 n2 n3 m1 m2 m3 m4 m5 m6 m7 g_a1 g_ab) hZ (hw _ (List.mem_of_getElem? (i := 73) rfl)) (hw _ (List.mem_of_getElem? (i := 7) rfl)) (by decide) (by decide)) (g := (mkF m 9 #[.val (.ref a1), .val (.ref ab), .unset, .unset, .unset, .unset, .unset, .unset] [(.ref ab), (.ref a1)])) rfl (by rw [hml]; rfl) (Steps.refl _) (a := a1) (by rw [e2]; exact q5) q5' (argsL := [(.ref ab)]) (rest := []) (lenOf pd_3 rfl) rfl (by show 2 * 0 + _ ≤ _; exact Nat.le_of_eq rfl) (hb hby d12_9) (fun _ _ => ⟨rfl, e2, (by decide : 0 + 0 ≤ _), (by decide : 0 + 0 ≤ _)⟩)
  dsimp only [Pt.U, Pt.locs, Pt.cells, Pt.slots] at X5 l5 y5 z5 st5 hQ5
  subst l5 y5 z5
  obtain ⟨rfl, Nq5, K5, Q15, Q25⟩ := hQ5
  have E_a1_5 : Exa Z T5.heap a1 "com/example/fettle/fettle/regex/Counts" := E_a1.keep K5
  have V_o_a1_5 : Arv Z T5.heap o ko .int (4 : Int32) lo (.int (0 : Int32)) := V_o_a1.keep K5 (ninS (Ne.symm n1) (ninS (Ne.symm m4) nin0))
  have V_w_a1_5 : Arv Z T5.heap w kw .int (4 : Int32) lw (.int (0 : Int32)) := V_w_a1.keep K5 (ninS (Ne.symm n2) (ninS (Ne.symm m5) nin0))
  have E_ab_5 : Exa Z T5.heap ab "com/example/fettle/fettle/regex/Counts" := E_ab.keep K5
  have V_o_ab_5 : Arv Z T5.heap ob kob .int (4 : Int32) lob (.int (0 : Int32)) := V_o_ab.keep K5 (ninS (Ne.symm m2) (ninS (Ne.symm m6) nin0))
  have V_w_ab_5 : Arv Z T5.heap wb kwb .int (4 : Int32) lwb (.int (0 : Int32)) := V_w_ab.keep K5 (ninS (Ne.symm m3) (ninS (Ne.symm m7) nin0))
  have Z5 : n0 ≤ T5.heap.size := Nat.le_trans Z0 K5.1
  have Kp5 : Keep h0 T5.heap [a1, ab] := Kp0.trans K5 (allS (Or.inl (List.mem_of_getElem? (i := 0) rfl)) (allS (Or.inl (List.mem_of_getElem? (i := 1) rfl)) all0))
  have N5 := Fr.app N0 Nq5
  have pre6 := fun τ (κ : Steps p.tables e below (T5.setTop (mkF m 12 #[.val (.ref a1), .val (.ref ab), .unset, .unset, .unset, .unset, .unset, .unset] [])) τ) => pre4 τ (st5.trans κ)
  obtain ⟨fs, hr, hrun, hended, hW, hsame⟩ := X5.leave (v := none) (fun _ => rfl)
  refine ⟨_, _, pre6 _ ?_, hrun, hended, _, _, rfl, ?_, ⟨_, rfl⟩, hW, hsame.mono (by decide) (by decide)⟩
  · exact X5.returnOut hx Bd.returns (hb hby d12_12) hr
  · show Q12 Z a1 ab o w ko kw fi ru cl st le mo lo lw ob wb kob kwb fib rub clb stb leb mob lob lwb h0 n0 _ T5.heap _
    exact ⟨rfl, N5, Kp5, Q15, Q25⟩
theorem ef_6a (m : MethodId) (a1 : Addr) (ab : Addr) (o : Addr) (w : Addr) (fi : Int32) (ru : Int32) (cl : Int32) (st : Int32) (le : Int32) (mo : Int32) (ob : Addr) (wb : Addr) (fib : Int32) (rub : Int32) (clb : Int32) (stb : Int32) (leb : Int32) (mob : Int32) : entryFrame m #[(.ref a1), (.ref ab)] 3 = mkF m 0 #[.val (.ref a1), .val (.ref ab), .unset] [] := by first | (simp [entryFrame, mkF, argsToLocals, Value.category]; done) | rfl
def Q6a (Z : State) (a1 : Addr) (ab : Addr) (o : Addr) (w : Addr) (ko : ClassId) (kw : ClassId) (fi : Int32) (ru : Int32) (cl : Int32) (st : Int32) (le : Int32) (mo : Int32) (lo : List Value) (lw : List Value) (ob : Addr) (wb : Addr) (kob : ClassId) (kwb : ClassId) (fib : Int32) (rub : Int32) (clb : Int32) (stb : Int32) (leb : Int32) (mob : Int32) (lob : List Value) (lwb : List Value) (h0 : Heap) (n0 : Nat) (v : Option Value) (h : Heap) (L : List Loc) : Prop := ∃ x : Int32, v = some (.int x) ∧ Fr n0 L ∧ Keep h0 h [a1, o, w, ab] ∧ ((mo = 1 ∧ own_C Z h ab o w ko kw ((fi + 1) &&& ((4 : Int32) - (1 : Int32))) (1 - 1) (cl + 1) stb leb mob (lo.set fi.toNatClampNeg (.int cl)) (lw.set fi.toNatClampNeg (.int cl))) ∨ (mo ≠ 1 ∧ own_C Z h ab o w ko kw fi 1 (cl + 1) stb leb mob (lo.set fi.toNatClampNeg (.int cl)) (lw.set fi.toNatClampNeg (.int cl)))) ∧ own_C Z h a1 ob wb kob kwb 0 0 clb 0 le mo lob lwb
set_option maxRecDepth 65536 in
set_option maxHeartbeats 40000000 in
theorem rm6a (l : Launch) (Z : State) (a0 : Array Value) (hw : ∀ d ∈ tables_1, d.before a0 Z = true) (ws : List Jvm.Cond) (a1 : Addr) (ab : Addr) (o : Addr) (w : Addr) (ko : ClassId) (kw : ClassId) (fi : Int32) (ru : Int32) (cl : Int32) (st : Int32) (le : Int32) (mo : Int32) (lo : List Value) (lw : List Value) (ob : Addr) (wb : Addr) (kob : ClassId) (kwb : ClassId) (fib : Int32) (rub : Int32) (clb : Int32) (stb : Int32) (leb : Int32) (mob : Int32) (lob : List Value) (lwb : List Value) (h0 : Heap) (n0 : Nat) (Z0 : n0 ≤ h0.size) (P0 : own_C Z h0 a1 o w ko kw fi ru cl st le mo lo lw) (P2 : own_C Z h0 ab ob wb kob kwb fib rub clb stb leb mob lob lwb) (hru2 : rub = 0) (hfi : fi = 0 ∨ fi = 1) (hlo : lo.length = 4) (hlw : lw.length = 4) (hle0 : ¬ le < 0) (n1 : a1 ≠ o) (n2 : a1 ≠ w) (n3 : o ≠ w) (m1 : a1 ≠ ab) (m2 : a1 ≠ ob) (m3 : a1 ≠ wb) (m4 : ab ≠ o) (m5 : ab ≠ w) (m6 : ab ≠ ob) (m7 : ab ≠ wb) (n32 : ob ≠ wb) (k1 : o ≠ ob) (k2 : o ≠ wb) (k3 : w ≠ ob) (k4 : w ≠ wb) (g_a1 : n0 ≤ a1) (g_o : n0 ≤ o) (g_w : n0 ≤ w) (g_ab : n0 ≤ ab) (hst : st = 1) (h7 : le = 0 ∨ ru = 0) :
    MetFree l (⟨"com/example/fettle/fettle/regex/Counts", "takeInto", "(Lcom/example/fettle/fettle/regex/Counts;)Z"⟩ : MethodName) (head1 (Jvm.Cond.code (⟨"com/example/fettle/fettle/regex/Counts", "takeInto", "(Lcom/example/fettle/fettle/regex/Counts;)Z"⟩ : MethodName) prog_24_method_5_code 3 (some .boolean) :: ws) ({ frames := 3, cells := 0, slots := 0, locals := 43 } : Room)) (fun α υ => α = #[(.ref a1), (.ref ab)] ∧ Z.Warmed39 υ.vm ∧ υ.heap = h0) (fun _ _ _ _ _ => True) (fun _ υ ω υ' => ∃ v L, ω = .returned v ∧ Q6a Z a1 ab o w ko kw fi ru cl st le mo lo lw ob wb kob kwb fib rub clb stb leb mob lob lwb h0 n0 v υ'.heap L ∧ FrameEnd υ ω υ' L ({ frames := 3, cells := 0, slots := 0, locals := 43 } : Room).cells ({ frames := 3, cells := 0, slots := 0, locals := 43 } : Room).slots) := by
  refine MetFree.of_bodySF (plainFor_of_name pn_com_example_fettle_fettle_regex_Counts) hisR ?_
  intro p e s m args below meth c s₁ Bd hml0 hP hK
  obtain ⟨rfl, hZ, hh⟩ := hP
  have hx := Bd.exec
  have hby := Bd.bytes
  have hml : c.maxLocals = 3 := hml0
  have hown : s.vm.findClass "com/example/fettle/fettle/regex/Counts" = some m.cls := findClass_of_methodNamed Bd.named
  have hnm := (name_of_methodNamed Bd.named Bd.method).1
  have X0 : Stand p l e ({ frames := 3, cells := 0, slots := 0, locals := 43 } : Room) s m #[(.ref a1), (.ref ab)] below meth c s₁ [] 0 0 := Stand.of_body Bd
  have e0 : s₁.heap = h0 := by rw [← hh, Bd.state]; rfl
  have N0 := Fr.nil n0
  have pre0 : ∀ τ, Steps p.tables e below (s₁.setTop (mkF m 0 #[.val (.ref a1), .val (.ref ab), .unset] [])) τ → Steps p.tables e below (s₁.setTop (entryFrame m #[(.ref a1), (.ref ab)] 3)) τ := fun τ κ => castTop (ef_6a m a1 ab o w fi ru cl st le mo ob wb fib rub clb stb leb mob) κ
  obtain ⟨E_a1, F_oldest_a1, F_newest_a1, F_first_a1, F_runs_a1, F_clock_a1, F_starting_a1, F_least_a1, F_most_a1, V_o_a1, V_w_a1⟩ := P0
  obtain ⟨E_ab, F_oldest_ab, F_newest_ab, F_first_ab, F_runs_ab, F_clock_ab, F_starting_ab, F_least_ab, F_most_ab, V_o_ab, V_w_ab⟩ := P2
  have Kp0 : Keep h0 h0 [a1, o, w, ab] := Keep.refl _ _
  have Fx_runs_ab : Fld Z h0 ab "com/example/fettle/fettle/regex/Counts" "runs" "I" (.int (0 : Int32)) := by have q := F_runs_ab; rw [hru2] at q; exact q
  have Fx_starting_a1 : Fld Z h0 a1 "com/example/fettle/fettle/regex/Counts" "starting" "Z" (.int (1 : Int32)) := by have q := F_starting_a1; rw [hst] at q; exact q
  have pre1 := fun τ (κ : Steps p.tables e below (s₁.setTop (mkF m 1 #[.val (.ref a1), .val (.ref ab), .unset] [(.ref a1)])) τ) => pre0 τ (by
    refine XS.aloadN X0.here hx rfl (hb hby d6_0) rfl rfl ?_
    show Steps p.tables e below (s₁.setTop (mkF m 1 #[.val (.ref a1), .val (.ref ab), .unset] [(.ref a1)])) _
    exact κ)
  obtain ⟨T2, X2, e2, st2⟩ := getF X0 hx hZ hown (host := "") (Or.inl (hw _ (List.mem_of_getElem? (i := 30) rfl))) Via.refl e0 Fx_starting_a1 (g := (mkF m 1 #[.val (.ref a1), .val (.ref ab), .unset] [(.ref a1)])) rfl rfl (hb hby d6_1)
  have pre3 := fun τ (κ : Steps p.tables e below (T2.setTop (mkF m 4 #[.val (.ref a1), .val (.ref ab), .unset] [(.int (1 : Int32))])) τ) => pre1 τ (st2 _ κ)
  have pre4 := fun τ (κ : Steps p.tables e below (T2.setTop (mkF m 8 #[.val (.ref a1), .val (.ref ab), .unset] [(.ref a1)])) τ) => pre3 τ (by
    refine XS.ifNo X2.here hx rfl (hb hby d6_4) rfl ((if0 _ _).trans (feq (by decide)).1) ?_
    show Steps p.tables e below (T2.setTop (mkF m 7 #[.val (.ref a1), .val (.ref ab), .unset] [])) _
    refine XS.aloadN X2.here hx rfl (hb hby d6_7) rfl rfl ?_
    show Steps p.tables e below (T2.setTop (mkF m 8 #[.val (.ref a1), .val (.ref ab), .unset] [(.ref a1)])) _
    exact κ)
  obtain ⟨cq5, q5, q5'⟩ := E_a1.cell
  obtain ⟨_, _, ⟨T5, L5, k5, n5⟩, -, X5, ⟨Lc5, hQ5, l5, y5, z5⟩, st5⟩ := X2.privateBack hx (y := (⟨"com/example/fettle/fettle/regex/Counts", "addStarted", "()V"⟩ : MethodName)) hown (mvT hZ (hw _ (List.mem_of_getElem? (i := 42) rfl))) (mvT hZ (hw _ (List.mem_of_getElem? (i := 43) rfl))) (own_sel hZ (hw _ (List.mem_of_getElem? (i := 6) rfl)) (hw _ (List.mem_of_getElem? (i := 44) rfl)) (hw _ (List.mem_of_getElem? (i := 43) rfl)) (by decide)) (Cond.privateMethod_at (mvP hZ (hw _ (List.mem_of_getElem? (i := 44) rfl)) (args := #[]))) (mvT hZ (hw _ (List.mem_of_getElem? (i := 45) rfl))) (by decide) (backOf (W := 0) (rm7a l Z a0 hw [] a1 o w ko kw fi ru cl 1 le mo lo lw h0 n0 Z0 ⟨E_a1, F_oldest_a1, F_newest_a1, F_first_a1, F_runs_a1, F_clock_a1, Fx_starting_a1, F_least_a1, F_most_a1, V_o_a1, V_w_a1⟩ h7 hfi hlo hlw n1 n2 n3 g_a1 g_o g_w) hZ (hw _ (List.mem_of_getElem? (i := 45) rfl)) (hw _ (List.mem_of_getElem? (i := 7) rfl)) (by decide) (by decide)) (g := (mkF m 8 #[.val (.ref a1), .val (.ref ab), .unset] [(.ref a1)])) rfl (by rw [hml]; rfl) (Steps.refl _) (a := a1) (by rw [e2]; exact q5) q5' (argsL := []) (rest := []) (lenOf pd_4 rfl) rfl (by show 2 * 0 + _ ≤ _; exact Nat.le_of_eq rfl) (hb hby d6_8) (fun _ _ => ⟨rfl, e2, (by decide : 0 + 0 ≤ _), (by decide : 0 + 0 ≤ _)⟩)
  dsimp only [Pt.U, Pt.locs, Pt.cells, Pt.slots] at X5 l5 y5 z5 st5 hQ5
  subst l5 y5 z5
  obtain ⟨rfl, Nq5, K5, P5⟩ := hQ5
  have E_a1_5 : Exa Z T5.heap a1 "com/example/fettle/fettle/regex/Counts" := E_a1.keep K5
  have E_ab_5 : Exa Z T5.heap ab "com/example/fettle/fettle/regex/Counts" := E_ab.keep K5
  have F_oldest_ab_5 : Fld Z T5.heap ab "com/example/fettle/fettle/regex/Counts" "oldest" "[I" (.ref ob) := F_oldest_ab.keep K5 (ninS (Ne.symm m1) (ninS m4 (ninS m5 nin0)))
  have F_newest_ab_5 : Fld Z T5.heap ab "com/example/fettle/fettle/regex/Counts" "newest" "[I" (.ref wb) := F_newest_ab.keep K5 (ninS (Ne.symm m1) (ninS m4 (ninS m5 nin0)))
  have F_first_ab_5 : Fld Z T5.heap ab "com/example/fettle/fettle/regex/Counts" "first" "I" (.int fib) := F_first_ab.keep K5 (ninS (Ne.symm m1) (ninS m4 (ninS m5 nin0)))
  have Fx_runs_ab_5 : Fld Z T5.heap ab "com/example/fettle/fettle/regex/Counts" "runs" "I" (.int (0 : Int32)) := Fx_runs_ab.keep K5 (ninS (Ne.symm m1) (ninS m4 (ninS m5 nin0)))
  have F_clock_ab_5 : Fld Z T5.heap ab "com/example/fettle/fettle/regex/Counts" "clock" "I" (.int clb) := F_clock_ab.keep K5 (ninS (Ne.symm m1) (ninS m4 (ninS m5 nin0)))
  have F_starting_ab_5 : Fld Z T5.heap ab "com/example/fettle/fettle/regex/Counts" "starting" "Z" (.int stb) := F_starting_ab.keep K5 (ninS (Ne.symm m1) (ninS m4 (ninS m5 nin0)))
  have F_least_ab_5 : Fld Z T5.heap ab "com/example/fettle/fettle/regex/Counts" "least" "I" (.int leb) := F_least_ab.keep K5 (ninS (Ne.symm m1) (ninS m4 (ninS m5 nin0)))
  have F_most_ab_5 : Fld Z T5.heap ab "com/example/fettle/fettle/regex/Counts" "most" "I" (.int mob) := F_most_ab.keep K5 (ninS (Ne.symm m1) (ninS m4 (ninS m5 nin0)))
  have V_o_ab_5 : Arv Z T5.heap ob kob .int (4 : Int32) lob (.int (0 : Int32)) := V_o_ab.keep K5 (ninS (Ne.symm m2) (ninS (Ne.symm k1) (ninS (Ne.symm k3) nin0)))
  have V_w_ab_5 : Arv Z T5.heap wb kwb .int (4 : Int32) lwb (.int (0 : Int32)) := V_w_ab.keep K5 (ninS (Ne.symm m3) (ninS (Ne.symm k2) (ninS (Ne.symm k4) nin0)))
  have Z5 : n0 ≤ T5.heap.size := Nat.le_trans Z0 K5.1
  have Kp5 : Keep h0 T5.heap [a1, o, w, ab] := Kp0.trans K5 (allS (Or.inl (List.mem_of_getElem? (i := 0) rfl)) (allS (Or.inl (List.mem_of_getElem? (i := 1) rfl)) (allS (Or.inl (List.mem_of_getElem? (i := 2) rfl)) all0)))
  have N5 := Fr.app N0 Nq5
  have pre6 := fun τ (κ : Steps p.tables e below (T5.setTop (mkF m 11 #[.val (.ref a1), .val (.ref ab), .unset] [])) τ) => pre4 τ (st5.trans κ)
  obtain ⟨E_a1s, F_oldest_a1s, F_newest_a1s, F_first_a1s, F_runs_a1s, F_clock_a1s, F_starting_a1s, F_least_a1s, F_most_a1s, V_o_a1s, V_w_a1s⟩ := P5
  have pre7 := fun τ (κ : Steps p.tables e below (T5.setTop (mkF m 13 #[.val (.ref a1), .val (.ref ab), .unset] [(.int (0 : Int32)), (.ref a1)])) τ) => pre6 τ (by
    refine XS.aloadN X5.here hx rfl (hb hby d6_11) rfl rfl ?_
    show Steps p.tables e below (T5.setTop (mkF m 12 #[.val (.ref a1), .val (.ref ab), .unset] [(.ref a1)])) _
    refine XS.iconst X5.here hx rfl (hb hby d6_12) ?_
    show Steps p.tables e below (T5.setTop (mkF m 13 #[.val (.ref a1), .val (.ref ab), .unset] [(.int (0 : Int32)), (.ref a1)])) _
    exact κ)
  obtain ⟨T8, h8, X8, e8, W8, st8⟩ := putFN X5 hx hZ hown (hw _ (List.mem_of_getElem? (i := 30) rfl)) Via.refl rfl F_starting_a1s E_a1s (Or.inl (hw _ (List.mem_of_getElem? (i := 31) rfl))) (hw _ (List.mem_of_getElem? (i := 6) rfl)) (ty := .boolean) (v' := (.int (0 : Int32))) (by decide) rfl (by decide) (g := (mkF m 13 #[.val (.ref a1), .val (.ref ab), .unset] [(.int (0 : Int32)), (.ref a1)])) rfl rfl (hb hby d6_13)
  have E_a1s_8 : Exa Z h8 a1 "com/example/fettle/fettle/regex/Counts" := E_a1s.wr W8
  have E_ab_8 : Exa Z h8 ab "com/example/fettle/fettle/regex/Counts" := E_ab_5.wr W8
  have F_oldest_ab_8 : Fld Z h8 ab "com/example/fettle/fettle/regex/Counts" "oldest" "[I" (.ref ob) := F_oldest_ab_5.other W8 (Or.inl (Ne.symm m1))
  have F_newest_ab_8 : Fld Z h8 ab "com/example/fettle/fettle/regex/Counts" "newest" "[I" (.ref wb) := F_newest_ab_5.other W8 (Or.inl (Ne.symm m1))
  have F_first_ab_8 : Fld Z h8 ab "com/example/fettle/fettle/regex/Counts" "first" "I" (.int fib) := F_first_ab_5.other W8 (Or.inl (Ne.symm m1))
  have Fx_runs_ab_8 : Fld Z h8 ab "com/example/fettle/fettle/regex/Counts" "runs" "I" (.int (0 : Int32)) := Fx_runs_ab_5.other W8 (Or.inl (Ne.symm m1))
  have F_clock_ab_8 : Fld Z h8 ab "com/example/fettle/fettle/regex/Counts" "clock" "I" (.int clb) := F_clock_ab_5.other W8 (Or.inl (Ne.symm m1))
  have F_starting_ab_8 : Fld Z h8 ab "com/example/fettle/fettle/regex/Counts" "starting" "Z" (.int stb) := F_starting_ab_5.other W8 (Or.inl (Ne.symm m1))
  have F_least_ab_8 : Fld Z h8 ab "com/example/fettle/fettle/regex/Counts" "least" "I" (.int leb) := F_least_ab_5.other W8 (Or.inl (Ne.symm m1))
  have F_most_ab_8 : Fld Z h8 ab "com/example/fettle/fettle/regex/Counts" "most" "I" (.int mob) := F_most_ab_5.other W8 (Or.inl (Ne.symm m1))
  have V_o_ab_8 : Arv Z h8 ob kob .int (4 : Int32) lob (.int (0 : Int32)) := V_o_ab_5.other W8 (Ne.symm m2)
  have V_w_ab_8 : Arv Z h8 wb kwb .int (4 : Int32) lwb (.int (0 : Int32)) := V_w_ab_5.other W8 (Ne.symm m3)
  have F_oldest_a1s_8 : Fld Z h8 a1 "com/example/fettle/fettle/regex/Counts" "oldest" "[I" (.ref o) := F_oldest_a1s.other W8 (Or.inr (slot_ne (Or.inl (hw _ (List.mem_of_getElem? (i := 16) rfl))) (Or.inl (hw _ (List.mem_of_getElem? (i := 31) rfl))) (by decide) (t := (.array .int)) (t' := .boolean) (by decide) (by decide)))
  have F_newest_a1s_8 : Fld Z h8 a1 "com/example/fettle/fettle/regex/Counts" "newest" "[I" (.ref w) := F_newest_a1s.other W8 (Or.inr (slot_ne (Or.inl (hw _ (List.mem_of_getElem? (i := 18) rfl))) (Or.inl (hw _ (List.mem_of_getElem? (i := 31) rfl))) (by decide) (t := (.array .int)) (t' := .boolean) (by decide) (by decide)))
  have F_first_a1s_8 : Fld Z h8 a1 "com/example/fettle/fettle/regex/Counts" "first" "I" (.int fi) := F_first_a1s.other W8 (Or.inr (slot_ne (Or.inl (hw _ (List.mem_of_getElem? (i := 57) rfl))) (Or.inl (hw _ (List.mem_of_getElem? (i := 31) rfl))) (by decide) (t := .int) (t' := .boolean) (by decide) (by decide)))
  have F_runs_a1s_8 : Fld Z h8 a1 "com/example/fettle/fettle/regex/Counts" "runs" "I" (.int 1) := F_runs_a1s.other W8 (Or.inr (slot_ne (Or.inl (hw _ (List.mem_of_getElem? (i := 29) rfl))) (Or.inl (hw _ (List.mem_of_getElem? (i := 31) rfl))) (by decide) (t := .int) (t' := .boolean) (by decide) (by decide)))
  have F_clock_a1s_8 : Fld Z h8 a1 "com/example/fettle/fettle/regex/Counts" "clock" "I" (.int cl) := F_clock_a1s.other W8 (Or.inr (slot_ne (Or.inl (hw _ (List.mem_of_getElem? (i := 47) rfl))) (Or.inl (hw _ (List.mem_of_getElem? (i := 31) rfl))) (by decide) (t := .int) (t' := .boolean) (by decide) (by decide)))
  have F_least_a1s_8 : Fld Z h8 a1 "com/example/fettle/fettle/regex/Counts" "least" "I" (.int le) := F_least_a1s.other W8 (Or.inr (slot_ne (Or.inr (hw _ (List.mem_of_getElem? (i := 20) rfl))) (Or.inl (hw _ (List.mem_of_getElem? (i := 31) rfl))) (by decide) (t := .int) (t' := .boolean) (by decide) (by decide)))
  have F_most_a1s_8 : Fld Z h8 a1 "com/example/fettle/fettle/regex/Counts" "most" "I" (.int mo) := F_most_a1s.other W8 (Or.inr (slot_ne (Or.inr (hw _ (List.mem_of_getElem? (i := 22) rfl))) (Or.inl (hw _ (List.mem_of_getElem? (i := 31) rfl))) (by decide) (t := .int) (t' := .boolean) (by decide) (by decide)))
  have V_o_a1s_8 : Arv Z h8 o ko .int (4 : Int32) (lo.set fi.toNatClampNeg (.int cl)) (.int (0 : Int32)) := V_o_a1s.other W8 (Ne.symm n1)
  have V_w_a1s_8 : Arv Z h8 w kw .int (4 : Int32) (lw.set fi.toNatClampNeg (.int cl)) (.int (0 : Int32)) := V_w_a1s.other W8 (Ne.symm n2)
  have Kp8 : Keep h0 h8 [a1, o, w, ab] := Kp5.wr W8 (Or.inl (List.mem_of_getElem? (i := 0) rfl))
  have N8 := Fr.snoc X8 N5 g_a1
  have Z8 : n0 ≤ h8.size := Nat.le_trans Z5 (Keep.of_wr W8).1
  have F_starting_a1_8 : Fld Z h8 a1 "com/example/fettle/fettle/regex/Counts" "starting" "Z" (.int (0 : Int32)) := F_starting_a1s.same W8
  have pre9 := fun τ (κ : Steps p.tables e below (T8.setTop (mkF m 16 #[.val (.ref a1), .val (.ref ab), .unset] [])) τ) => pre7 τ (st8 _ κ)
  have hov := own_get hfi hlo (.int cl) (.int (0 : Int32))
  have hnv := own_get hfi hlw (.int cl) (.int (0 : Int32))
  have hlo' : (lo.set fi.toNatClampNeg (.int cl)).length = 4 := by rw [List.length_set]; exact hlo
  have pre10 := fun τ (κ : Steps p.tables e below (T8.setTop (mkF m 18 #[.val (.ref a1), .val (.ref ab), .unset] [(.ref a1), (.ref a1)])) τ) => pre9 τ (by
    refine XS.aloadN X8.here hx rfl (hb hby d6_16) rfl rfl ?_
    show Steps p.tables e below (T8.setTop (mkF m 17 #[.val (.ref a1), .val (.ref ab), .unset] [(.ref a1)])) _
    refine XS.dup X8.here hx rfl (hb hby d6_17) rfl rfl ?_
    show Steps p.tables e below (T8.setTop (mkF m 18 #[.val (.ref a1), .val (.ref ab), .unset] [(.ref a1), (.ref a1)])) _
    exact κ)
  obtain ⟨T11, X11, e11, st11⟩ := getF X8 hx hZ hown (host := "") (Or.inl (hw _ (List.mem_of_getElem? (i := 46) rfl))) Via.refl e8 F_clock_a1s_8 (g := (mkF m 18 #[.val (.ref a1), .val (.ref ab), .unset] [(.ref a1), (.ref a1)])) rfl rfl (hb hby d6_18)
  have pre12 := fun τ (κ : Steps p.tables e below (T11.setTop (mkF m 21 #[.val (.ref a1), .val (.ref ab), .unset] [(.int cl), (.ref a1)])) τ) => pre10 τ (st11 _ κ)
  have pre13 := fun τ (κ : Steps p.tables e below (T11.setTop (mkF m 23 #[.val (.ref a1), .val (.ref ab), .unset] [(.int (cl + (1 : Int32))), (.ref a1)])) τ) => pre12 τ (by
    refine XS.iconst X11.here hx rfl (hb hby d6_21) ?_
    show Steps p.tables e below (T11.setTop (mkF m 22 #[.val (.ref a1), .val (.ref ab), .unset] [(.int (1 : Int32)), (.int cl), (.ref a1)])) _
    refine XS.iadd X11.here hx rfl (hb hby d6_22) rfl ?_
    show Steps p.tables e below (T11.setTop (mkF m 23 #[.val (.ref a1), .val (.ref ab), .unset] [(.int (cl + (1 : Int32))), (.ref a1)])) _
    exact κ)
  obtain ⟨T14, h14, X14, e14, W14, st14⟩ := putF X11 hx hZ hown (host := "") (Or.inl (hw _ (List.mem_of_getElem? (i := 46) rfl))) Via.refl e11 F_clock_a1s_8 E_a1s_8 (Or.inl (hw _ (List.mem_of_getElem? (i := 47) rfl))) (hw _ (List.mem_of_getElem? (i := 6) rfl)) (ty := .int) (by decide) rfl rfl (g := (mkF m 23 #[.val (.ref a1), .val (.ref ab), .unset] [(.int (cl + (1 : Int32))), (.ref a1)])) rfl rfl (hb hby d6_23)
  have E_a1s_14 : Exa Z h14 a1 "com/example/fettle/fettle/regex/Counts" := E_a1s_8.wr W14
  have E_ab_14 : Exa Z h14 ab "com/example/fettle/fettle/regex/Counts" := E_ab_8.wr W14
  have F_oldest_ab_14 : Fld Z h14 ab "com/example/fettle/fettle/regex/Counts" "oldest" "[I" (.ref ob) := F_oldest_ab_8.other W14 (Or.inl (Ne.symm m1))
  have F_newest_ab_14 : Fld Z h14 ab "com/example/fettle/fettle/regex/Counts" "newest" "[I" (.ref wb) := F_newest_ab_8.other W14 (Or.inl (Ne.symm m1))
  have F_first_ab_14 : Fld Z h14 ab "com/example/fettle/fettle/regex/Counts" "first" "I" (.int fib) := F_first_ab_8.other W14 (Or.inl (Ne.symm m1))
  have Fx_runs_ab_14 : Fld Z h14 ab "com/example/fettle/fettle/regex/Counts" "runs" "I" (.int (0 : Int32)) := Fx_runs_ab_8.other W14 (Or.inl (Ne.symm m1))
  have F_clock_ab_14 : Fld Z h14 ab "com/example/fettle/fettle/regex/Counts" "clock" "I" (.int clb) := F_clock_ab_8.other W14 (Or.inl (Ne.symm m1))
  have F_starting_ab_14 : Fld Z h14 ab "com/example/fettle/fettle/regex/Counts" "starting" "Z" (.int stb) := F_starting_ab_8.other W14 (Or.inl (Ne.symm m1))
  have F_least_ab_14 : Fld Z h14 ab "com/example/fettle/fettle/regex/Counts" "least" "I" (.int leb) := F_least_ab_8.other W14 (Or.inl (Ne.symm m1))
  have F_most_ab_14 : Fld Z h14 ab "com/example/fettle/fettle/regex/Counts" "most" "I" (.int mob) := F_most_ab_8.other W14 (Or.inl (Ne.symm m1))
  have V_o_ab_14 : Arv Z h14 ob kob .int (4 : Int32) lob (.int (0 : Int32)) := V_o_ab_8.other W14 (Ne.symm m2)
  have V_w_ab_14 : Arv Z h14 wb kwb .int (4 : Int32) lwb (.int (0 : Int32)) := V_w_ab_8.other W14 (Ne.symm m3)
  have F_oldest_a1s_14 : Fld Z h14 a1 "com/example/fettle/fettle/regex/Counts" "oldest" "[I" (.ref o) := F_oldest_a1s_8.other W14 (Or.inr (slot_ne (Or.inl (hw _ (List.mem_of_getElem? (i := 16) rfl))) (Or.inl (hw _ (List.mem_of_getElem? (i := 47) rfl))) (by decide) (t := (.array .int)) (t' := .int) (by decide) (by decide)))
  have F_newest_a1s_14 : Fld Z h14 a1 "com/example/fettle/fettle/regex/Counts" "newest" "[I" (.ref w) := F_newest_a1s_8.other W14 (Or.inr (slot_ne (Or.inl (hw _ (List.mem_of_getElem? (i := 18) rfl))) (Or.inl (hw _ (List.mem_of_getElem? (i := 47) rfl))) (by decide) (t := (.array .int)) (t' := .int) (by decide) (by decide)))
  have F_first_a1s_14 : Fld Z h14 a1 "com/example/fettle/fettle/regex/Counts" "first" "I" (.int fi) := F_first_a1s_8.other W14 (Or.inr (slot_ne (Or.inl (hw _ (List.mem_of_getElem? (i := 57) rfl))) (Or.inl (hw _ (List.mem_of_getElem? (i := 47) rfl))) (by decide) (t := .int) (t' := .int) (by decide) (by decide)))
  have F_runs_a1s_14 : Fld Z h14 a1 "com/example/fettle/fettle/regex/Counts" "runs" "I" (.int 1) := F_runs_a1s_8.other W14 (Or.inr (slot_ne (Or.inl (hw _ (List.mem_of_getElem? (i := 29) rfl))) (Or.inl (hw _ (List.mem_of_getElem? (i := 47) rfl))) (by decide) (t := .int) (t' := .int) (by decide) (by decide)))
  have F_least_a1s_14 : Fld Z h14 a1 "com/example/fettle/fettle/regex/Counts" "least" "I" (.int le) := F_least_a1s_8.other W14 (Or.inr (slot_ne (Or.inr (hw _ (List.mem_of_getElem? (i := 20) rfl))) (Or.inl (hw _ (List.mem_of_getElem? (i := 47) rfl))) (by decide) (t := .int) (t' := .int) (by decide) (by decide)))
  have F_most_a1s_14 : Fld Z h14 a1 "com/example/fettle/fettle/regex/Counts" "most" "I" (.int mo) := F_most_a1s_8.other W14 (Or.inr (slot_ne (Or.inr (hw _ (List.mem_of_getElem? (i := 22) rfl))) (Or.inl (hw _ (List.mem_of_getElem? (i := 47) rfl))) (by decide) (t := .int) (t' := .int) (by decide) (by decide)))
  have V_o_a1s_14 : Arv Z h14 o ko .int (4 : Int32) (lo.set fi.toNatClampNeg (.int cl)) (.int (0 : Int32)) := V_o_a1s_8.other W14 (Ne.symm n1)
  have V_w_a1s_14 : Arv Z h14 w kw .int (4 : Int32) (lw.set fi.toNatClampNeg (.int cl)) (.int (0 : Int32)) := V_w_a1s_8.other W14 (Ne.symm n2)
  have F_starting_a1_14 : Fld Z h14 a1 "com/example/fettle/fettle/regex/Counts" "starting" "Z" (.int (0 : Int32)) := F_starting_a1_8.other W14 (Or.inr (slot_ne (Or.inl (hw _ (List.mem_of_getElem? (i := 31) rfl))) (Or.inl (hw _ (List.mem_of_getElem? (i := 47) rfl))) (by decide) (t := .boolean) (t' := .int) (by decide) (by decide)))
  have Kp14 : Keep h0 h14 [a1, o, w, ab] := Kp8.wr W14 (Or.inl (List.mem_of_getElem? (i := 0) rfl))
  have N14 := Fr.snoc X14 N8 g_a1
  have Z14 : n0 ≤ h14.size := Nat.le_trans Z8 (Keep.of_wr W14).1
  have F_clock_a1_14 : Fld Z h14 a1 "com/example/fettle/fettle/regex/Counts" "clock" "I" (.int (cl + (1 : Int32))) := F_clock_a1s_8.same W14
  have pre15 := fun τ (κ : Steps p.tables e below (T14.setTop (mkF m 26 #[.val (.ref a1), .val (.ref ab), .unset] [])) τ) => pre13 τ (st14 _ κ)
  have pre16 := fun τ (κ : Steps p.tables e below (T14.setTop (mkF m 27 #[.val (.ref a1), .val (.ref ab), .unset] [(.ref a1)])) τ) => pre15 τ (by
    refine XS.aloadN X14.here hx rfl (hb hby d6_26) rfl rfl ?_
    show Steps p.tables e below (T14.setTop (mkF m 27 #[.val (.ref a1), .val (.ref ab), .unset] [(.ref a1)])) _
    exact κ)
  obtain ⟨cq17, q17, q17'⟩ := E_a1s_14.cell
  obtain ⟨_, _, ⟨T17, L17, k17, n17⟩, -, X17, ⟨Lc17, hQ17, l17, y17, z17⟩, st17⟩ := X14.privateBack hx (y := (⟨"com/example/fettle/fettle/regex/Counts", "largest", "()I"⟩ : MethodName)) hown (mvT hZ (hw _ (List.mem_of_getElem? (i := 58) rfl))) (mvT hZ (hw _ (List.mem_of_getElem? (i := 59) rfl))) (own_sel hZ (hw _ (List.mem_of_getElem? (i := 6) rfl)) (hw _ (List.mem_of_getElem? (i := 60) rfl)) (hw _ (List.mem_of_getElem? (i := 59) rfl)) (by decide)) (Cond.privateMethod_at (mvP hZ (hw _ (List.mem_of_getElem? (i := 60) rfl)) (args := #[]))) (mvT hZ (hw _ (List.mem_of_getElem? (i := 61) rfl))) (by decide) (backOf (W := 0) (rm10 l Z a0 hw [] a1 o ko fi (cl + (1 : Int32)) cl (lo.set fi.toNatClampNeg (.int cl)) h14 n0 Z14 F_clock_a1_14 F_oldest_a1s_14 F_first_a1s_14 V_o_a1s_14 hfi hov) hZ (hw _ (List.mem_of_getElem? (i := 61) rfl)) (hw _ (List.mem_of_getElem? (i := 7) rfl)) (by decide) (by decide)) (g := (mkF m 27 #[.val (.ref a1), .val (.ref ab), .unset] [(.ref a1)])) rfl (by rw [hml]; rfl) (Steps.refl _) (a := a1) (by rw [e14]; exact q17) q17' (argsL := []) (rest := []) (lenOf pd_2 rfl) rfl (by show 2 * 0 + _ ≤ _; exact Nat.le_of_eq rfl) (hb hby d6_27) (fun _ _ => ⟨rfl, e14, (by decide : 0 + 0 ≤ _), (by decide : 0 + 0 ≤ _)⟩)
  dsimp only [Pt.U, Pt.locs, Pt.cells, Pt.slots] at X17 l17 y17 z17 st17 hQ17
  subst l17 y17 z17
  obtain ⟨rfl, Nq17, hh17⟩ := hQ17
  have E_a1s_17 : Exa Z T17.heap a1 "com/example/fettle/fettle/regex/Counts" := by rw [hh17]; exact E_a1s_14
  have E_ab_17 : Exa Z T17.heap ab "com/example/fettle/fettle/regex/Counts" := by rw [hh17]; exact E_ab_14
  have F_oldest_ab_17 : Fld Z T17.heap ab "com/example/fettle/fettle/regex/Counts" "oldest" "[I" (.ref ob) := by rw [hh17]; exact F_oldest_ab_14
  have F_newest_ab_17 : Fld Z T17.heap ab "com/example/fettle/fettle/regex/Counts" "newest" "[I" (.ref wb) := by rw [hh17]; exact F_newest_ab_14
  have F_first_ab_17 : Fld Z T17.heap ab "com/example/fettle/fettle/regex/Counts" "first" "I" (.int fib) := by rw [hh17]; exact F_first_ab_14
  have Fx_runs_ab_17 : Fld Z T17.heap ab "com/example/fettle/fettle/regex/Counts" "runs" "I" (.int (0 : Int32)) := by rw [hh17]; exact Fx_runs_ab_14
  have F_clock_ab_17 : Fld Z T17.heap ab "com/example/fettle/fettle/regex/Counts" "clock" "I" (.int clb) := by rw [hh17]; exact F_clock_ab_14
  have F_starting_ab_17 : Fld Z T17.heap ab "com/example/fettle/fettle/regex/Counts" "starting" "Z" (.int stb) := by rw [hh17]; exact F_starting_ab_14
  have F_least_ab_17 : Fld Z T17.heap ab "com/example/fettle/fettle/regex/Counts" "least" "I" (.int leb) := by rw [hh17]; exact F_least_ab_14
  have F_most_ab_17 : Fld Z T17.heap ab "com/example/fettle/fettle/regex/Counts" "most" "I" (.int mob) := by rw [hh17]; exact F_most_ab_14
  have V_o_ab_17 : Arv Z T17.heap ob kob .int (4 : Int32) lob (.int (0 : Int32)) := by rw [hh17]; exact V_o_ab_14
  have V_w_ab_17 : Arv Z T17.heap wb kwb .int (4 : Int32) lwb (.int (0 : Int32)) := by rw [hh17]; exact V_w_ab_14
  have F_oldest_a1s_17 : Fld Z T17.heap a1 "com/example/fettle/fettle/regex/Counts" "oldest" "[I" (.ref o) := by rw [hh17]; exact F_oldest_a1s_14
  have F_newest_a1s_17 : Fld Z T17.heap a1 "com/example/fettle/fettle/regex/Counts" "newest" "[I" (.ref w) := by rw [hh17]; exact F_newest_a1s_14
  have F_first_a1s_17 : Fld Z T17.heap a1 "com/example/fettle/fettle/regex/Counts" "first" "I" (.int fi) := by rw [hh17]; exact F_first_a1s_14
  have F_runs_a1s_17 : Fld Z T17.heap a1 "com/example/fettle/fettle/regex/Counts" "runs" "I" (.int 1) := by rw [hh17]; exact F_runs_a1s_14
  have F_least_a1s_17 : Fld Z T17.heap a1 "com/example/fettle/fettle/regex/Counts" "least" "I" (.int le) := by rw [hh17]; exact F_least_a1s_14
  have F_most_a1s_17 : Fld Z T17.heap a1 "com/example/fettle/fettle/regex/Counts" "most" "I" (.int mo) := by rw [hh17]; exact F_most_a1s_14
  have V_o_a1s_17 : Arv Z T17.heap o ko .int (4 : Int32) (lo.set fi.toNatClampNeg (.int cl)) (.int (0 : Int32)) := by rw [hh17]; exact V_o_a1s_14
  have V_w_a1s_17 : Arv Z T17.heap w kw .int (4 : Int32) (lw.set fi.toNatClampNeg (.int cl)) (.int (0 : Int32)) := by rw [hh17]; exact V_w_a1s_14
  have F_starting_a1_17 : Fld Z T17.heap a1 "com/example/fettle/fettle/regex/Counts" "starting" "Z" (.int (0 : Int32)) := by rw [hh17]; exact F_starting_a1_14
  have F_clock_a1_17 : Fld Z T17.heap a1 "com/example/fettle/fettle/regex/Counts" "clock" "I" (.int (cl + (1 : Int32))) := by rw [hh17]; exact F_clock_a1_14
  have Z17 : n0 ≤ T17.heap.size := by rw [hh17]; exact Z14
  have Kp17 : Keep h0 T17.heap [a1, o, w, ab] := by rw [hh17]; exact Kp14
  have N17 := Fr.app N14 Nq17
  have pre18 := fun τ (κ : Steps p.tables e below (T17.setTop (mkF m 30 #[.val (.ref a1), .val (.ref ab), .unset] [(.int ((cl + (1 : Int32)) - cl))])) τ) => pre16 τ (st17.trans κ)
  have pre19 := fun τ (κ : Steps p.tables e below (T17.setTop (mkF m 31 #[.val (.ref a1), .val (.ref ab), .unset] [(.ref a1), (.int ((cl + (1 : Int32)) - cl))])) τ) => pre18 τ (by
    refine XS.aloadN X17.here hx rfl (hb hby d6_30) rfl rfl ?_
    show Steps p.tables e below (T17.setTop (mkF m 31 #[.val (.ref a1), .val (.ref ab), .unset] [(.ref a1), (.int ((cl + (1 : Int32)) - cl))])) _
    exact κ)
  obtain ⟨T20, X20, e20, st20⟩ := getF X17 hx hZ hown (host := "") (Or.inl (hw _ (List.mem_of_getElem? (i := 19) rfl))) Via.refl rfl F_least_a1s_17 (g := (mkF m 31 #[.val (.ref a1), .val (.ref ab), .unset] [(.ref a1), (.int ((cl + (1 : Int32)) - cl))])) rfl rfl (hb hby d6_31)
  have pre21 := fun τ (κ : Steps p.tables e below (T20.setTop (mkF m 34 #[.val (.ref a1), .val (.ref ab), .unset] [(.int le), (.int ((cl + (1 : Int32)) - cl))])) τ) => pre19 τ (st20 _ κ)
  obtain ⟨may, pre22⟩ : ∃ may : Int32, ∀ τ, Steps p.tables e below (T20.setTop (mkF m 43 #[.val (.ref a1), .val (.ref ab), .val (.int may)] [])) τ → Steps p.tables e below (s₁.setTop (entryFrame m #[(.ref a1), (.ref ab)] 3)) τ := by
    by_cases q1 : ((cl + (1 : Int32)) - cl) < le
    · have pre23 := fun τ (κ : Steps p.tables e below (T20.setTop (mkF m 43 #[.val (.ref a1), .val (.ref ab), .val (.int (0 : Int32))] [])) τ) => pre21 τ (by
        refine XS.icmpYes X20.here hx rfl (pc0 := 34) (pc' := 41) rfl (hb hby d6_34) rfl (tlt q1).1 (by decide) (by decide) ?_
        show Steps p.tables e below (T20.setTop (mkF m 41 #[.val (.ref a1), .val (.ref ab), .unset] [])) _
        refine XS.iconst X20.here hx rfl (hb hby d6_41) ?_
        show Steps p.tables e below (T20.setTop (mkF m 42 #[.val (.ref a1), .val (.ref ab), .unset] [(.int (0 : Int32))])) _
        refine XS.istoreN X20.here hx rfl (hb hby d6_42) rfl (l' := #[.val (.ref a1), .val (.ref ab), .val (.int (0 : Int32))]) rfl ?_
        show Steps p.tables e below (T20.setTop (mkF m 43 #[.val (.ref a1), .val (.ref ab), .val (.int (0 : Int32))] [])) _
        exact κ)
      exact ⟨_, pre23⟩
    · have pre24 := fun τ (κ : Steps p.tables e below (T20.setTop (mkF m 43 #[.val (.ref a1), .val (.ref ab), .val (.int (1 : Int32))] [])) τ) => pre21 τ (by
        refine XS.icmpNo X20.here hx rfl (hb hby d6_34) rfl (flt q1).1 ?_
        show Steps p.tables e below (T20.setTop (mkF m 37 #[.val (.ref a1), .val (.ref ab), .unset] [])) _
        refine XS.iconst X20.here hx rfl (hb hby d6_37) ?_
        show Steps p.tables e below (T20.setTop (mkF m 38 #[.val (.ref a1), .val (.ref ab), .unset] [(.int (1 : Int32))])) _
        refine XS.goto X20.here hx rfl (pc0 := 38) (pc' := 42) rfl (hb hby d6_38) (by decide) (by decide) ?_
        show Steps p.tables e below (T20.setTop (mkF m 42 #[.val (.ref a1), .val (.ref ab), .unset] [(.int (1 : Int32))])) _
        refine XS.istoreN X20.here hx rfl (hb hby d6_42) rfl (l' := #[.val (.ref a1), .val (.ref ab), .val (.int (1 : Int32))]) rfl ?_
        show Steps p.tables e below (T20.setTop (mkF m 43 #[.val (.ref a1), .val (.ref ab), .val (.int (1 : Int32))] [])) _
        exact κ)
      exact ⟨_, pre24⟩
  have h1 : (cl + (1 : Int32)) - cl = 1 := by rw [Int32.add_comm]; exact Int32.add_sub_cancel _ _
  have pre25 := fun τ (κ : Steps p.tables e below (T20.setTop (mkF m 44 #[.val (.ref a1), .val (.ref ab), .val (.int may)] [(.ref a1)])) τ) => pre22 τ (by
    refine XS.aloadN X20.here hx rfl (hb hby d6_43) rfl rfl ?_
    show Steps p.tables e below (T20.setTop (mkF m 44 #[.val (.ref a1), .val (.ref ab), .val (.int may)] [(.ref a1)])) _
    exact κ)
  obtain ⟨T26, X26, e26, st26⟩ := getF X20 hx hZ hown (host := "") (Or.inl (hw _ (List.mem_of_getElem? (i := 21) rfl))) Via.refl e20 F_most_a1s_17 (g := (mkF m 44 #[.val (.ref a1), .val (.ref ab), .val (.int may)] [(.ref a1)])) rfl rfl (hb hby d6_44)
  have pre27 := fun τ (κ : Steps p.tables e below (T26.setTop (mkF m 47 #[.val (.ref a1), .val (.ref ab), .val (.int may)] [(.int mo)])) τ) => pre25 τ (st26 _ κ)
  have pre28 := fun τ (κ : Steps p.tables e below (T26.setTop (mkF m 48 #[.val (.ref a1), .val (.ref ab), .val (.int may)] [(.int (-1 : Int32)), (.int mo)])) τ) => pre27 τ (by
    refine XS.iconst X26.here hx rfl (hb hby d6_47) ?_
    show Steps p.tables e below (T26.setTop (mkF m 48 #[.val (.ref a1), .val (.ref ab), .val (.int may)] [(.int (-1 : Int32)), (.int mo)])) _
    exact κ)
  by_cases q1 : mo = (-1 : Int32)
  · have pre29 := fun τ (κ : Steps p.tables e below (T26.setTop (mkF m 63 #[.val (.ref a1), .val (.ref ab), .val (.int may)] [(.ref a1)])) τ) => pre28 τ (by
      refine XS.icmpYes X26.here hx rfl (pc0 := 48) (pc' := 62) rfl (hb hby d6_48) rfl (teq q1).1 (by decide) (by decide) ?_
      show Steps p.tables e below (T26.setTop (mkF m 62 #[.val (.ref a1), .val (.ref ab), .val (.int may)] [])) _
      refine XS.aloadN X26.here hx rfl (hb hby d6_62) rfl rfl ?_
      show Steps p.tables e below (T26.setTop (mkF m 63 #[.val (.ref a1), .val (.ref ab), .val (.int may)] [(.ref a1)])) _
      exact κ)
    obtain ⟨cq30, q30, q30'⟩ := E_a1s_17.cell
    obtain ⟨_, _, ⟨T30, L30, k30, n30⟩, -, X30, ⟨Lc30, hQ30, l30, y30, z30⟩, st30⟩ := X26.privateBack hx (y := (⟨"com/example/fettle/fettle/regex/Counts", "secondLargest", "()I"⟩ : MethodName)) hown (mvT hZ (hw _ (List.mem_of_getElem? (i := 62) rfl))) (mvT hZ (hw _ (List.mem_of_getElem? (i := 63) rfl))) (own_sel hZ (hw _ (List.mem_of_getElem? (i := 6) rfl)) (hw _ (List.mem_of_getElem? (i := 64) rfl)) (hw _ (List.mem_of_getElem? (i := 63) rfl)) (by decide)) (Cond.privateMethod_at (mvP hZ (hw _ (List.mem_of_getElem? (i := 64) rfl)) (args := #[]))) (mvT hZ (hw _ (List.mem_of_getElem? (i := 65) rfl))) (by decide) (backOf (W := 0) (rm11 l Z a0 hw [] a1 o w ko kw fi 1 (cl + (1 : Int32)) 0 le mo (lo.set fi.toNatClampNeg (.int cl)) (lw.set fi.toNatClampNeg (.int cl)) cl cl T17.heap n0 Z17 ⟨E_a1s_17, F_oldest_a1s_17, F_newest_a1s_17, F_first_a1s_17, F_runs_a1s_17, F_clock_a1_17, F_starting_a1_17, F_least_a1s_17, F_most_a1s_17, V_o_a1s_17, V_w_a1s_17⟩ (Or.inr rfl) hfi hov hnv n1 n2 n3) hZ (hw _ (List.mem_of_getElem? (i := 65) rfl)) (hw _ (List.mem_of_getElem? (i := 7) rfl)) (by decide) (by decide)) (g := (mkF m 63 #[.val (.ref a1), .val (.ref ab), .val (.int may)] [(.ref a1)])) rfl (by rw [hml]; rfl) (Steps.refl _) (a := a1) (by rw [e26]; exact q30) q30' (argsL := []) (rest := []) (lenOf pd_2 rfl) rfl (by show 2 * 0 + _ ≤ _; exact Nat.le_of_eq rfl) (hb hby d6_63) (fun _ _ => ⟨rfl, e26, (by decide : 0 + 0 ≤ _), (by decide : 0 + 0 ≤ _)⟩)
    dsimp only [Pt.U, Pt.locs, Pt.cells, Pt.slots] at X30 l30 y30 z30 st30 hQ30
    subst l30 y30 z30
    obtain ⟨rfl, Nq30, hh30⟩ := hQ30
    have E_a1s_30 : Exa Z T30.heap a1 "com/example/fettle/fettle/regex/Counts" := by rw [hh30]; exact E_a1s_17
    have E_ab_30 : Exa Z T30.heap ab "com/example/fettle/fettle/regex/Counts" := by rw [hh30]; exact E_ab_17
    have F_oldest_ab_30 : Fld Z T30.heap ab "com/example/fettle/fettle/regex/Counts" "oldest" "[I" (.ref ob) := by rw [hh30]; exact F_oldest_ab_17
    have F_newest_ab_30 : Fld Z T30.heap ab "com/example/fettle/fettle/regex/Counts" "newest" "[I" (.ref wb) := by rw [hh30]; exact F_newest_ab_17
    have F_first_ab_30 : Fld Z T30.heap ab "com/example/fettle/fettle/regex/Counts" "first" "I" (.int fib) := by rw [hh30]; exact F_first_ab_17
    have Fx_runs_ab_30 : Fld Z T30.heap ab "com/example/fettle/fettle/regex/Counts" "runs" "I" (.int (0 : Int32)) := by rw [hh30]; exact Fx_runs_ab_17
    have F_clock_ab_30 : Fld Z T30.heap ab "com/example/fettle/fettle/regex/Counts" "clock" "I" (.int clb) := by rw [hh30]; exact F_clock_ab_17
    have F_starting_ab_30 : Fld Z T30.heap ab "com/example/fettle/fettle/regex/Counts" "starting" "Z" (.int stb) := by rw [hh30]; exact F_starting_ab_17
    have F_least_ab_30 : Fld Z T30.heap ab "com/example/fettle/fettle/regex/Counts" "least" "I" (.int leb) := by rw [hh30]; exact F_least_ab_17
    have F_most_ab_30 : Fld Z T30.heap ab "com/example/fettle/fettle/regex/Counts" "most" "I" (.int mob) := by rw [hh30]; exact F_most_ab_17
    have V_o_ab_30 : Arv Z T30.heap ob kob .int (4 : Int32) lob (.int (0 : Int32)) := by rw [hh30]; exact V_o_ab_17
    have V_w_ab_30 : Arv Z T30.heap wb kwb .int (4 : Int32) lwb (.int (0 : Int32)) := by rw [hh30]; exact V_w_ab_17
    have F_oldest_a1s_30 : Fld Z T30.heap a1 "com/example/fettle/fettle/regex/Counts" "oldest" "[I" (.ref o) := by rw [hh30]; exact F_oldest_a1s_17
    have F_newest_a1s_30 : Fld Z T30.heap a1 "com/example/fettle/fettle/regex/Counts" "newest" "[I" (.ref w) := by rw [hh30]; exact F_newest_a1s_17
    have F_first_a1s_30 : Fld Z T30.heap a1 "com/example/fettle/fettle/regex/Counts" "first" "I" (.int fi) := by rw [hh30]; exact F_first_a1s_17
    have F_runs_a1s_30 : Fld Z T30.heap a1 "com/example/fettle/fettle/regex/Counts" "runs" "I" (.int 1) := by rw [hh30]; exact F_runs_a1s_17
    have F_least_a1s_30 : Fld Z T30.heap a1 "com/example/fettle/fettle/regex/Counts" "least" "I" (.int le) := by rw [hh30]; exact F_least_a1s_17
    have F_most_a1s_30 : Fld Z T30.heap a1 "com/example/fettle/fettle/regex/Counts" "most" "I" (.int mo) := by rw [hh30]; exact F_most_a1s_17
    have V_o_a1s_30 : Arv Z T30.heap o ko .int (4 : Int32) (lo.set fi.toNatClampNeg (.int cl)) (.int (0 : Int32)) := by rw [hh30]; exact V_o_a1s_17
    have V_w_a1s_30 : Arv Z T30.heap w kw .int (4 : Int32) (lw.set fi.toNatClampNeg (.int cl)) (.int (0 : Int32)) := by rw [hh30]; exact V_w_a1s_17
    have F_starting_a1_30 : Fld Z T30.heap a1 "com/example/fettle/fettle/regex/Counts" "starting" "Z" (.int (0 : Int32)) := by rw [hh30]; exact F_starting_a1_17
    have F_clock_a1_30 : Fld Z T30.heap a1 "com/example/fettle/fettle/regex/Counts" "clock" "I" (.int (cl + (1 : Int32))) := by rw [hh30]; exact F_clock_a1_17
    have Z30 : n0 ≤ T30.heap.size := by rw [hh30]; exact Z17
    have Kp30 : Keep h0 T30.heap [a1, o, w, ab] := by rw [hh30]; exact Kp17
    have N30 := Fr.app N17 Nq30
    have pre31 := fun τ (κ : Steps p.tables e below (T30.setTop (mkF m 66 #[.val (.ref a1), .val (.ref ab), .val (.int may)] [(.int (own_sec 1 cl cl (cl + (1 : Int32))))])) τ) => pre29 τ (st30.trans κ)
    have pre32 := fun τ (κ : Steps p.tables e below (T30.setTop (mkF m 67 #[.val (.ref a1), .val (.ref ab), .val (.int may)] [(.ref a1), (.int (own_sec 1 cl cl (cl + (1 : Int32))))])) τ) => pre31 τ (by
      refine XS.aloadN X30.here hx rfl (hb hby d6_66) rfl rfl ?_
      show Steps p.tables e below (T30.setTop (mkF m 67 #[.val (.ref a1), .val (.ref ab), .val (.int may)] [(.ref a1), (.int (own_sec 1 cl cl (cl + (1 : Int32))))])) _
      exact κ)
    obtain ⟨T33, X33, e33, st33⟩ := getF X30 hx hZ hown (host := "") (Or.inl (hw _ (List.mem_of_getElem? (i := 19) rfl))) Via.refl rfl F_least_a1s_30 (g := (mkF m 67 #[.val (.ref a1), .val (.ref ab), .val (.int may)] [(.ref a1), (.int (own_sec 1 cl cl (cl + (1 : Int32))))])) rfl rfl (hb hby d6_67)
    have pre34 := fun τ (κ : Steps p.tables e below (T33.setTop (mkF m 70 #[.val (.ref a1), .val (.ref ab), .val (.int may)] [(.int le), (.int (own_sec 1 cl cl (cl + (1 : Int32))))])) τ) => pre32 τ (st33 _ κ)
    have pre35 := fun τ (κ : Steps p.tables e below (T33.setTop (mkF m 79 #[.val (.ref a1), .val (.ref ab), .val (.int may)] [(.ref a1), (.ref ab)])) τ) => pre34 τ (by
      refine XS.icmpYes X33.here hx rfl (pc0 := 70) (pc' := 77) rfl (hb hby d6_70) rfl (tlt (by rw [own_sec, if_neg fun z => z.2 rfl]; exact own_nn1 hle0)).1 (by decide) (by decide) ?_
      show Steps p.tables e below (T33.setTop (mkF m 77 #[.val (.ref a1), .val (.ref ab), .val (.int may)] [])) _
      refine XS.aloadN X33.here hx rfl (hb hby d6_77) rfl rfl ?_
      show Steps p.tables e below (T33.setTop (mkF m 78 #[.val (.ref a1), .val (.ref ab), .val (.int may)] [(.ref ab)])) _
      refine XS.aloadN X33.here hx rfl (hb hby d6_78) rfl rfl ?_
      show Steps p.tables e below (T33.setTop (mkF m 79 #[.val (.ref a1), .val (.ref ab), .val (.int may)] [(.ref a1), (.ref ab)])) _
      exact κ)
    obtain ⟨cq36, q36, q36'⟩ := E_ab_30.cell
    obtain ⟨_, _, ⟨T36, L36, k36, n36⟩, -, X36, ⟨Lc36, hQ36, l36, y36, z36⟩, st36⟩ := X33.privateBack hx (y := (⟨"com/example/fettle/fettle/regex/Counts", "join", "(Lcom/example/fettle/fettle/regex/Counts;)V"⟩ : MethodName)) hown (mvT hZ (hw _ (List.mem_of_getElem? (i := 66) rfl))) (mvT hZ (hw _ (List.mem_of_getElem? (i := 67) rfl))) (own_sel hZ (hw _ (List.mem_of_getElem? (i := 6) rfl)) (hw _ (List.mem_of_getElem? (i := 68) rfl)) (hw _ (List.mem_of_getElem? (i := 67) rfl)) (by decide)) (Cond.privateMethod_at (mvP hZ (hw _ (List.mem_of_getElem? (i := 68) rfl)) (args := #[]))) (mvT hZ (hw _ (List.mem_of_getElem? (i := 69) rfl))) (by decide) (backOf (W := 0) (rm12 l Z a0 hw [] ab a1 ob wb kob kwb fib 0 clb stb leb mob lob lwb o w ko kw fi 1 (cl + (1 : Int32)) 0 le mo (lo.set fi.toNatClampNeg (.int cl)) (lw.set fi.toNatClampNeg (.int cl)) T30.heap n0 Z30 ⟨E_ab_30, F_oldest_ab_30, F_newest_ab_30, F_first_ab_30, Fx_runs_ab_30, F_clock_ab_30, F_starting_ab_30, F_least_ab_30, F_most_ab_30, V_o_ab_30, V_w_ab_30⟩ ⟨E_a1s_30, F_oldest_a1s_30, F_newest_a1s_30, F_first_a1s_30, F_runs_a1s_30, F_clock_a1_30, F_starting_a1_30, F_least_a1s_30, F_most_a1s_30, V_o_a1s_30, V_w_a1s_30⟩ rfl m6 m7 n32 (Ne.symm m1) m4 m5 m2 m3 n1 n2 g_ab g_a1) hZ (hw _ (List.mem_of_getElem? (i := 69) rfl)) (hw _ (List.mem_of_getElem? (i := 7) rfl)) (by decide) (by decide)) (g := (mkF m 79 #[.val (.ref a1), .val (.ref ab), .val (.int may)] [(.ref a1), (.ref ab)])) rfl (by rw [hml]; rfl) (Steps.refl _) (a := ab) (by rw [e33]; exact q36) q36' (argsL := [(.ref a1)]) (rest := []) (lenOf pd_3 rfl) rfl (by show 2 * 0 + _ ≤ _; exact Nat.le_of_eq rfl) (hb hby d6_79) (fun _ _ => ⟨rfl, e33, (by decide : 0 + 0 ≤ _), (by decide : 0 + 0 ≤ _)⟩)
    dsimp only [Pt.U, Pt.locs, Pt.cells, Pt.slots] at X36 l36 y36 z36 st36 hQ36
    subst l36 y36 z36
    obtain ⟨rfl, Nq36, K36, Q136, Q236⟩ := hQ36
    have E_a1s_36 : Exa Z T36.heap a1 "com/example/fettle/fettle/regex/Counts" := E_a1s_30.keep K36
    have E_ab_36 : Exa Z T36.heap ab "com/example/fettle/fettle/regex/Counts" := E_ab_30.keep K36
    have V_o_ab_36 : Arv Z T36.heap ob kob .int (4 : Int32) lob (.int (0 : Int32)) := V_o_ab_30.keep K36 (ninS (Ne.symm m6) (ninS (Ne.symm m2) nin0))
    have V_w_ab_36 : Arv Z T36.heap wb kwb .int (4 : Int32) lwb (.int (0 : Int32)) := V_w_ab_30.keep K36 (ninS (Ne.symm m7) (ninS (Ne.symm m3) nin0))
    have V_o_a1s_36 : Arv Z T36.heap o ko .int (4 : Int32) (lo.set fi.toNatClampNeg (.int cl)) (.int (0 : Int32)) := V_o_a1s_30.keep K36 (ninS (Ne.symm m4) (ninS (Ne.symm n1) nin0))
    have V_w_a1s_36 : Arv Z T36.heap w kw .int (4 : Int32) (lw.set fi.toNatClampNeg (.int cl)) (.int (0 : Int32)) := V_w_a1s_30.keep K36 (ninS (Ne.symm m5) (ninS (Ne.symm n2) nin0))
    have Z36 : n0 ≤ T36.heap.size := Nat.le_trans Z30 K36.1
    have Kp36 : Keep h0 T36.heap [a1, o, w, ab] := Kp30.trans K36 (allS (Or.inl (List.mem_of_getElem? (i := 3) rfl)) (allS (Or.inl (List.mem_of_getElem? (i := 0) rfl)) all0))
    have N36 := Fr.app N30 Nq36
    have pre37 := fun τ (κ : Steps p.tables e below (T36.setTop (mkF m 82 #[.val (.ref a1), .val (.ref ab), .val (.int may)] [])) τ) => pre35 τ (st36.trans κ)
    have pre38 := fun τ (κ : Steps p.tables e below (T36.setTop (mkF m 83 #[.val (.ref a1), .val (.ref ab), .val (.int may)] [(.int may)])) τ) => pre37 τ (by
      refine XS.iloadN X36.here hx rfl (hb hby d6_82) rfl ?_
      show Steps p.tables e below (T36.setTop (mkF m 83 #[.val (.ref a1), .val (.ref ab), .val (.int may)] [(.int may)])) _
      exact κ)
    obtain ⟨fs, hr, hrun, hended, hW, hsame⟩ := X36.leave (v := some (.int (nar .boolean may))) (fun h => by rw [Bd.returns] at h; cases h)
    refine ⟨_, _, pre38 _ ?_, hrun, hended, _, _, rfl, ?_, ⟨_, rfl⟩, hW, hsame.mono (by decide) (by decide)⟩
    · exact retN X36 hx (t := .boolean) Bd.returns (by simp) (hb hby d6_83) hr
    · show Q6a Z a1 ab o w ko kw fi ru cl st le mo lo lw ob wb kob kwb fib rub clb stb leb mob lob lwb h0 n0 _ T36.heap _
      exact ⟨_, rfl, N36, Kp36, Or.inr ⟨fun z => absurd (q1.symm.trans z) (by decide), Q136⟩, Q236⟩
  · have pre39 := fun τ (κ : Steps p.tables e below (T26.setTop (mkF m 52 #[.val (.ref a1), .val (.ref ab), .val (.int may)] [(.ref a1)])) τ) => pre28 τ (by
      refine XS.icmpNo X26.here hx rfl (hb hby d6_48) rfl (feq q1).1 ?_
      show Steps p.tables e below (T26.setTop (mkF m 51 #[.val (.ref a1), .val (.ref ab), .val (.int may)] [])) _
      refine XS.aloadN X26.here hx rfl (hb hby d6_51) rfl rfl ?_
      show Steps p.tables e below (T26.setTop (mkF m 52 #[.val (.ref a1), .val (.ref ab), .val (.int may)] [(.ref a1)])) _
      exact κ)
    obtain ⟨cq40, q40, q40'⟩ := E_a1s_17.cell
    obtain ⟨_, _, ⟨T40, L40, k40, n40⟩, -, X40, ⟨Lc40, hQ40, l40, y40, z40⟩, st40⟩ := X26.privateBack hx (y := (⟨"com/example/fettle/fettle/regex/Counts", "largest", "()I"⟩ : MethodName)) hown (mvT hZ (hw _ (List.mem_of_getElem? (i := 58) rfl))) (mvT hZ (hw _ (List.mem_of_getElem? (i := 59) rfl))) (own_sel hZ (hw _ (List.mem_of_getElem? (i := 6) rfl)) (hw _ (List.mem_of_getElem? (i := 60) rfl)) (hw _ (List.mem_of_getElem? (i := 59) rfl)) (by decide)) (Cond.privateMethod_at (mvP hZ (hw _ (List.mem_of_getElem? (i := 60) rfl)) (args := #[]))) (mvT hZ (hw _ (List.mem_of_getElem? (i := 61) rfl))) (by decide) (backOf (W := 0) (rm10 l Z a0 hw [] a1 o ko fi (cl + (1 : Int32)) cl (lo.set fi.toNatClampNeg (.int cl)) T17.heap n0 Z17 F_clock_a1_17 F_oldest_a1s_17 F_first_a1s_17 V_o_a1s_17 hfi hov) hZ (hw _ (List.mem_of_getElem? (i := 61) rfl)) (hw _ (List.mem_of_getElem? (i := 7) rfl)) (by decide) (by decide)) (g := (mkF m 52 #[.val (.ref a1), .val (.ref ab), .val (.int may)] [(.ref a1)])) rfl (by rw [hml]; rfl) (Steps.refl _) (a := a1) (by rw [e26]; exact q40) q40' (argsL := []) (rest := []) (lenOf pd_2 rfl) rfl (by show 2 * 0 + _ ≤ _; exact Nat.le_of_eq rfl) (hb hby d6_52) (fun _ _ => ⟨rfl, e26, (by decide : 0 + 0 ≤ _), (by decide : 0 + 0 ≤ _)⟩)
    dsimp only [Pt.U, Pt.locs, Pt.cells, Pt.slots] at X40 l40 y40 z40 st40 hQ40
    subst l40 y40 z40
    obtain ⟨rfl, Nq40, hh40⟩ := hQ40
    have E_a1s_40 : Exa Z T40.heap a1 "com/example/fettle/fettle/regex/Counts" := by rw [hh40]; exact E_a1s_17
    have E_ab_40 : Exa Z T40.heap ab "com/example/fettle/fettle/regex/Counts" := by rw [hh40]; exact E_ab_17
    have F_oldest_ab_40 : Fld Z T40.heap ab "com/example/fettle/fettle/regex/Counts" "oldest" "[I" (.ref ob) := by rw [hh40]; exact F_oldest_ab_17
    have F_newest_ab_40 : Fld Z T40.heap ab "com/example/fettle/fettle/regex/Counts" "newest" "[I" (.ref wb) := by rw [hh40]; exact F_newest_ab_17
    have F_first_ab_40 : Fld Z T40.heap ab "com/example/fettle/fettle/regex/Counts" "first" "I" (.int fib) := by rw [hh40]; exact F_first_ab_17
    have Fx_runs_ab_40 : Fld Z T40.heap ab "com/example/fettle/fettle/regex/Counts" "runs" "I" (.int (0 : Int32)) := by rw [hh40]; exact Fx_runs_ab_17
    have F_clock_ab_40 : Fld Z T40.heap ab "com/example/fettle/fettle/regex/Counts" "clock" "I" (.int clb) := by rw [hh40]; exact F_clock_ab_17
    have F_starting_ab_40 : Fld Z T40.heap ab "com/example/fettle/fettle/regex/Counts" "starting" "Z" (.int stb) := by rw [hh40]; exact F_starting_ab_17
    have F_least_ab_40 : Fld Z T40.heap ab "com/example/fettle/fettle/regex/Counts" "least" "I" (.int leb) := by rw [hh40]; exact F_least_ab_17
    have F_most_ab_40 : Fld Z T40.heap ab "com/example/fettle/fettle/regex/Counts" "most" "I" (.int mob) := by rw [hh40]; exact F_most_ab_17
    have V_o_ab_40 : Arv Z T40.heap ob kob .int (4 : Int32) lob (.int (0 : Int32)) := by rw [hh40]; exact V_o_ab_17
    have V_w_ab_40 : Arv Z T40.heap wb kwb .int (4 : Int32) lwb (.int (0 : Int32)) := by rw [hh40]; exact V_w_ab_17
    have F_oldest_a1s_40 : Fld Z T40.heap a1 "com/example/fettle/fettle/regex/Counts" "oldest" "[I" (.ref o) := by rw [hh40]; exact F_oldest_a1s_17
    have F_newest_a1s_40 : Fld Z T40.heap a1 "com/example/fettle/fettle/regex/Counts" "newest" "[I" (.ref w) := by rw [hh40]; exact F_newest_a1s_17
    have F_first_a1s_40 : Fld Z T40.heap a1 "com/example/fettle/fettle/regex/Counts" "first" "I" (.int fi) := by rw [hh40]; exact F_first_a1s_17
    have F_runs_a1s_40 : Fld Z T40.heap a1 "com/example/fettle/fettle/regex/Counts" "runs" "I" (.int 1) := by rw [hh40]; exact F_runs_a1s_17
    have F_least_a1s_40 : Fld Z T40.heap a1 "com/example/fettle/fettle/regex/Counts" "least" "I" (.int le) := by rw [hh40]; exact F_least_a1s_17
    have F_most_a1s_40 : Fld Z T40.heap a1 "com/example/fettle/fettle/regex/Counts" "most" "I" (.int mo) := by rw [hh40]; exact F_most_a1s_17
    have V_o_a1s_40 : Arv Z T40.heap o ko .int (4 : Int32) (lo.set fi.toNatClampNeg (.int cl)) (.int (0 : Int32)) := by rw [hh40]; exact V_o_a1s_17
    have V_w_a1s_40 : Arv Z T40.heap w kw .int (4 : Int32) (lw.set fi.toNatClampNeg (.int cl)) (.int (0 : Int32)) := by rw [hh40]; exact V_w_a1s_17
    have F_starting_a1_40 : Fld Z T40.heap a1 "com/example/fettle/fettle/regex/Counts" "starting" "Z" (.int (0 : Int32)) := by rw [hh40]; exact F_starting_a1_17
    have F_clock_a1_40 : Fld Z T40.heap a1 "com/example/fettle/fettle/regex/Counts" "clock" "I" (.int (cl + (1 : Int32))) := by rw [hh40]; exact F_clock_a1_17
    have Z40 : n0 ≤ T40.heap.size := by rw [hh40]; exact Z17
    have Kp40 : Keep h0 T40.heap [a1, o, w, ab] := by rw [hh40]; exact Kp17
    have N40 := Fr.app N17 Nq40
    have pre41 := fun τ (κ : Steps p.tables e below (T40.setTop (mkF m 55 #[.val (.ref a1), .val (.ref ab), .val (.int may)] [(.int ((cl + (1 : Int32)) - cl))])) τ) => pre39 τ (st40.trans κ)
    have pre42 := fun τ (κ : Steps p.tables e below (T40.setTop (mkF m 56 #[.val (.ref a1), .val (.ref ab), .val (.int may)] [(.ref a1), (.int ((cl + (1 : Int32)) - cl))])) τ) => pre41 τ (by
      refine XS.aloadN X40.here hx rfl (hb hby d6_55) rfl rfl ?_
      show Steps p.tables e below (T40.setTop (mkF m 56 #[.val (.ref a1), .val (.ref ab), .val (.int may)] [(.ref a1), (.int ((cl + (1 : Int32)) - cl))])) _
      exact κ)
    obtain ⟨T43, X43, e43, st43⟩ := getF X40 hx hZ hown (host := "") (Or.inl (hw _ (List.mem_of_getElem? (i := 21) rfl))) Via.refl rfl F_most_a1s_40 (g := (mkF m 56 #[.val (.ref a1), .val (.ref ab), .val (.int may)] [(.ref a1), (.int ((cl + (1 : Int32)) - cl))])) rfl rfl (hb hby d6_56)
    have pre44 := fun τ (κ : Steps p.tables e below (T43.setTop (mkF m 59 #[.val (.ref a1), .val (.ref ab), .val (.int may)] [(.int mo), (.int ((cl + (1 : Int32)) - cl))])) τ) => pre42 τ (st43 _ κ)
    by_cases q2 : ((cl + (1 : Int32)) - cl) = mo
    · have hmo : mo = 1 := q2.symm.trans h1
      have pre45 := fun τ (κ : Steps p.tables e below (T43.setTop (mkF m 74 #[.val (.ref a1), .val (.ref ab), .val (.int may)] [(.ref a1)])) τ) => pre44 τ (by
        refine XS.icmpYes X43.here hx rfl (pc0 := 59) (pc' := 73) rfl (hb hby d6_59) rfl (teq q2).1 (by decide) (by decide) ?_
        show Steps p.tables e below (T43.setTop (mkF m 73 #[.val (.ref a1), .val (.ref ab), .val (.int may)] [])) _
        refine XS.aloadN X43.here hx rfl (hb hby d6_73) rfl rfl ?_
        show Steps p.tables e below (T43.setTop (mkF m 74 #[.val (.ref a1), .val (.ref ab), .val (.int may)] [(.ref a1)])) _
        exact κ)
      obtain ⟨cq46, q46, q46'⟩ := E_a1s_40.cell
      obtain ⟨_, _, ⟨T46, L46, k46, n46⟩, -, X46, ⟨Lc46, hQ46, l46, y46, z46⟩, st46⟩ := X43.privateBack hx (y := (⟨"com/example/fettle/fettle/regex/Counts", "dropLargest", "()V"⟩ : MethodName)) hown (mvT hZ (hw _ (List.mem_of_getElem? (i := 74) rfl))) (mvT hZ (hw _ (List.mem_of_getElem? (i := 75) rfl))) (own_sel hZ (hw _ (List.mem_of_getElem? (i := 6) rfl)) (hw _ (List.mem_of_getElem? (i := 76) rfl)) (hw _ (List.mem_of_getElem? (i := 75) rfl)) (by decide)) (Cond.privateMethod_at (mvP hZ (hw _ (List.mem_of_getElem? (i := 76) rfl)) (args := #[]))) (mvT hZ (hw _ (List.mem_of_getElem? (i := 77) rfl))) (by decide) (backOf (W := 0) (rm14a l Z a0 hw [] a1 o w ko kw fi 1 (cl + (1 : Int32)) 0 le mo (lo.set fi.toNatClampNeg (.int cl)) (lw.set fi.toNatClampNeg (.int cl)) cl cl T40.heap n0 Z40 ⟨E_a1s_40, F_oldest_a1s_40, F_newest_a1s_40, F_first_a1s_40, F_runs_a1s_40, F_clock_a1_40, F_starting_a1_40, F_least_a1s_40, F_most_a1s_40, V_o_a1s_40, V_w_a1s_40⟩ rfl hfi hov hnv hlo' n1 n2 n3 g_a1 g_o g_w) hZ (hw _ (List.mem_of_getElem? (i := 77) rfl)) (hw _ (List.mem_of_getElem? (i := 7) rfl)) (by decide) (by decide)) (g := (mkF m 74 #[.val (.ref a1), .val (.ref ab), .val (.int may)] [(.ref a1)])) rfl (by rw [hml]; rfl) (Steps.refl _) (a := a1) (by rw [e43]; exact q46) q46' (argsL := []) (rest := []) (lenOf pd_4 rfl) rfl (by show 2 * 0 + _ ≤ _; exact Nat.le_of_eq rfl) (hb hby d6_74) (fun _ _ => ⟨rfl, e43, (by decide : 0 + 0 ≤ _), (by decide : 0 + 0 ≤ _)⟩)
      dsimp only [Pt.U, Pt.locs, Pt.cells, Pt.slots] at X46 l46 y46 z46 st46 hQ46
      subst l46 y46 z46
      obtain ⟨rfl, Nq46, K46, P46⟩ := hQ46
      have E_a1s_46 : Exa Z T46.heap a1 "com/example/fettle/fettle/regex/Counts" := E_a1s_40.keep K46
      have E_ab_46 : Exa Z T46.heap ab "com/example/fettle/fettle/regex/Counts" := E_ab_40.keep K46
      have F_oldest_ab_46 : Fld Z T46.heap ab "com/example/fettle/fettle/regex/Counts" "oldest" "[I" (.ref ob) := F_oldest_ab_40.keep K46 (ninS (Ne.symm m1) (ninS m4 nin0))
      have F_newest_ab_46 : Fld Z T46.heap ab "com/example/fettle/fettle/regex/Counts" "newest" "[I" (.ref wb) := F_newest_ab_40.keep K46 (ninS (Ne.symm m1) (ninS m4 nin0))
      have F_first_ab_46 : Fld Z T46.heap ab "com/example/fettle/fettle/regex/Counts" "first" "I" (.int fib) := F_first_ab_40.keep K46 (ninS (Ne.symm m1) (ninS m4 nin0))
      have Fx_runs_ab_46 : Fld Z T46.heap ab "com/example/fettle/fettle/regex/Counts" "runs" "I" (.int (0 : Int32)) := Fx_runs_ab_40.keep K46 (ninS (Ne.symm m1) (ninS m4 nin0))
      have F_clock_ab_46 : Fld Z T46.heap ab "com/example/fettle/fettle/regex/Counts" "clock" "I" (.int clb) := F_clock_ab_40.keep K46 (ninS (Ne.symm m1) (ninS m4 nin0))
      have F_starting_ab_46 : Fld Z T46.heap ab "com/example/fettle/fettle/regex/Counts" "starting" "Z" (.int stb) := F_starting_ab_40.keep K46 (ninS (Ne.symm m1) (ninS m4 nin0))
      have F_least_ab_46 : Fld Z T46.heap ab "com/example/fettle/fettle/regex/Counts" "least" "I" (.int leb) := F_least_ab_40.keep K46 (ninS (Ne.symm m1) (ninS m4 nin0))
      have F_most_ab_46 : Fld Z T46.heap ab "com/example/fettle/fettle/regex/Counts" "most" "I" (.int mob) := F_most_ab_40.keep K46 (ninS (Ne.symm m1) (ninS m4 nin0))
      have V_o_ab_46 : Arv Z T46.heap ob kob .int (4 : Int32) lob (.int (0 : Int32)) := V_o_ab_40.keep K46 (ninS (Ne.symm m2) (ninS (Ne.symm k1) nin0))
      have V_w_ab_46 : Arv Z T46.heap wb kwb .int (4 : Int32) lwb (.int (0 : Int32)) := V_w_ab_40.keep K46 (ninS (Ne.symm m3) (ninS (Ne.symm k2) nin0))
      have V_w_a1s_46 : Arv Z T46.heap w kw .int (4 : Int32) (lw.set fi.toNatClampNeg (.int cl)) (.int (0 : Int32)) := V_w_a1s_40.keep K46 (ninS (Ne.symm n2) (ninS (Ne.symm n3) nin0))
      have Z46 : n0 ≤ T46.heap.size := Nat.le_trans Z40 K46.1
      have Kp46 : Keep h0 T46.heap [a1, o, w, ab] := Kp40.trans K46 (allS (Or.inl (List.mem_of_getElem? (i := 0) rfl)) (allS (Or.inl (List.mem_of_getElem? (i := 1) rfl)) all0))
      have N46 := Fr.app N40 Nq46
      have pre47 := fun τ (κ : Steps p.tables e below (T46.setTop (mkF m 77 #[.val (.ref a1), .val (.ref ab), .val (.int may)] [])) τ) => pre45 τ (st46.trans κ)
      obtain ⟨E_a1d, F_oldest_a1d, F_newest_a1d, F_first_a1d, F_runs_a1d, F_clock_a1d, F_starting_a1d, F_least_a1d, F_most_a1d, V_o_a1d, V_w_a1d⟩ := P46
      have pre48 := fun τ (κ : Steps p.tables e below (T46.setTop (mkF m 79 #[.val (.ref a1), .val (.ref ab), .val (.int may)] [(.ref a1), (.ref ab)])) τ) => pre47 τ (by
        refine XS.aloadN X46.here hx rfl (hb hby d6_77) rfl rfl ?_
        show Steps p.tables e below (T46.setTop (mkF m 78 #[.val (.ref a1), .val (.ref ab), .val (.int may)] [(.ref ab)])) _
        refine XS.aloadN X46.here hx rfl (hb hby d6_78) rfl rfl ?_
        show Steps p.tables e below (T46.setTop (mkF m 79 #[.val (.ref a1), .val (.ref ab), .val (.int may)] [(.ref a1), (.ref ab)])) _
        exact κ)
      obtain ⟨cq49, q49, q49'⟩ := E_ab_46.cell
      obtain ⟨_, _, ⟨T49, L49, k49, n49⟩, -, X49, ⟨Lc49, hQ49, l49, y49, z49⟩, st49⟩ := X46.privateBack hx (y := (⟨"com/example/fettle/fettle/regex/Counts", "join", "(Lcom/example/fettle/fettle/regex/Counts;)V"⟩ : MethodName)) hown (mvT hZ (hw _ (List.mem_of_getElem? (i := 66) rfl))) (mvT hZ (hw _ (List.mem_of_getElem? (i := 67) rfl))) (own_sel hZ (hw _ (List.mem_of_getElem? (i := 6) rfl)) (hw _ (List.mem_of_getElem? (i := 68) rfl)) (hw _ (List.mem_of_getElem? (i := 67) rfl)) (by decide)) (Cond.privateMethod_at (mvP hZ (hw _ (List.mem_of_getElem? (i := 68) rfl)) (args := #[]))) (mvT hZ (hw _ (List.mem_of_getElem? (i := 69) rfl))) (by decide) (backOf (W := 0) (rm12 l Z a0 hw [] ab a1 ob wb kob kwb fib 0 clb stb leb mob lob lwb o w ko kw ((fi + 1) &&& ((4 : Int32) - (1 : Int32))) ((1 : Int32) - 1) (cl + (1 : Int32)) 0 le mo (lo.set fi.toNatClampNeg (.int cl)) (lw.set fi.toNatClampNeg (.int cl)) T46.heap n0 Z46 ⟨E_ab_46, F_oldest_ab_46, F_newest_ab_46, F_first_ab_46, Fx_runs_ab_46, F_clock_ab_46, F_starting_ab_46, F_least_ab_46, F_most_ab_46, V_o_ab_46, V_w_ab_46⟩ ⟨E_a1d, F_oldest_a1d, F_newest_a1d, F_first_a1d, F_runs_a1d, F_clock_a1d, F_starting_a1d, F_least_a1d, F_most_a1d, V_o_a1d, V_w_a1d⟩ rfl m6 m7 n32 (Ne.symm m1) m4 m5 m2 m3 n1 n2 g_ab g_a1) hZ (hw _ (List.mem_of_getElem? (i := 69) rfl)) (hw _ (List.mem_of_getElem? (i := 7) rfl)) (by decide) (by decide)) (g := (mkF m 79 #[.val (.ref a1), .val (.ref ab), .val (.int may)] [(.ref a1), (.ref ab)])) rfl (by rw [hml]; rfl) (Steps.refl _) (a := ab) q49 q49' (argsL := [(.ref a1)]) (rest := []) (lenOf pd_3 rfl) rfl (by show 2 * 0 + _ ≤ _; exact Nat.le_of_eq rfl) (hb hby d6_79) (fun _ _ => ⟨rfl, rfl, (by decide : 0 + 0 ≤ _), (by decide : 0 + 0 ≤ _)⟩)
      dsimp only [Pt.U, Pt.locs, Pt.cells, Pt.slots] at X49 l49 y49 z49 st49 hQ49
      subst l49 y49 z49
      obtain ⟨rfl, Nq49, K49, Q149, Q249⟩ := hQ49
      have E_a1d_49 : Exa Z T49.heap a1 "com/example/fettle/fettle/regex/Counts" := E_a1d.keep K49
      have E_ab_49 : Exa Z T49.heap ab "com/example/fettle/fettle/regex/Counts" := E_ab_46.keep K49
      have V_o_ab_49 : Arv Z T49.heap ob kob .int (4 : Int32) lob (.int (0 : Int32)) := V_o_ab_46.keep K49 (ninS (Ne.symm m6) (ninS (Ne.symm m2) nin0))
      have V_w_ab_49 : Arv Z T49.heap wb kwb .int (4 : Int32) lwb (.int (0 : Int32)) := V_w_ab_46.keep K49 (ninS (Ne.symm m7) (ninS (Ne.symm m3) nin0))
      have V_w_a1d_49 : Arv Z T49.heap w kw .int (4 : Int32) (lw.set fi.toNatClampNeg (.int cl)) (.int (0 : Int32)) := V_w_a1d.keep K49 (ninS (Ne.symm m5) (ninS (Ne.symm n2) nin0))
      have V_o_a1d_49 : Arv Z T49.heap o ko .int (4 : Int32) (lo.set fi.toNatClampNeg (.int cl)) (.int (0 : Int32)) := V_o_a1d.keep K49 (ninS (Ne.symm m4) (ninS (Ne.symm n1) nin0))
      have Z49 : n0 ≤ T49.heap.size := Nat.le_trans Z46 K49.1
      have Kp49 : Keep h0 T49.heap [a1, o, w, ab] := Kp46.trans K49 (allS (Or.inl (List.mem_of_getElem? (i := 3) rfl)) (allS (Or.inl (List.mem_of_getElem? (i := 0) rfl)) all0))
      have N49 := Fr.app N46 Nq49
      have pre50 := fun τ (κ : Steps p.tables e below (T49.setTop (mkF m 82 #[.val (.ref a1), .val (.ref ab), .val (.int may)] [])) τ) => pre48 τ (st49.trans κ)
      have pre51 := fun τ (κ : Steps p.tables e below (T49.setTop (mkF m 83 #[.val (.ref a1), .val (.ref ab), .val (.int may)] [(.int may)])) τ) => pre50 τ (by
        refine XS.iloadN X49.here hx rfl (hb hby d6_82) rfl ?_
        show Steps p.tables e below (T49.setTop (mkF m 83 #[.val (.ref a1), .val (.ref ab), .val (.int may)] [(.int may)])) _
        exact κ)
      obtain ⟨fs, hr, hrun, hended, hW, hsame⟩ := X49.leave (v := some (.int (nar .boolean may))) (fun h => by rw [Bd.returns] at h; cases h)
      refine ⟨_, _, pre51 _ ?_, hrun, hended, _, _, rfl, ?_, ⟨_, rfl⟩, hW, hsame.mono (by decide) (by decide)⟩
      · exact retN X49 hx (t := .boolean) Bd.returns (by simp) (hb hby d6_83) hr
      · show Q6a Z a1 ab o w ko kw fi ru cl st le mo lo lw ob wb kob kwb fib rub clb stb leb mob lob lwb h0 n0 _ T49.heap _
        exact ⟨_, rfl, N49, Kp49, Or.inl ⟨hmo, Q149⟩, Q249⟩
    · have pre52 := fun τ (κ : Steps p.tables e below (T43.setTop (mkF m 63 #[.val (.ref a1), .val (.ref ab), .val (.int may)] [(.ref a1)])) τ) => pre44 τ (by
        refine XS.icmpNo X43.here hx rfl (hb hby d6_59) rfl (feq q2).1 ?_
        show Steps p.tables e below (T43.setTop (mkF m 62 #[.val (.ref a1), .val (.ref ab), .val (.int may)] [])) _
        refine XS.aloadN X43.here hx rfl (hb hby d6_62) rfl rfl ?_
        show Steps p.tables e below (T43.setTop (mkF m 63 #[.val (.ref a1), .val (.ref ab), .val (.int may)] [(.ref a1)])) _
        exact κ)
      obtain ⟨cq53, q53, q53'⟩ := E_a1s_40.cell
      obtain ⟨_, _, ⟨T53, L53, k53, n53⟩, -, X53, ⟨Lc53, hQ53, l53, y53, z53⟩, st53⟩ := X43.privateBack hx (y := (⟨"com/example/fettle/fettle/regex/Counts", "secondLargest", "()I"⟩ : MethodName)) hown (mvT hZ (hw _ (List.mem_of_getElem? (i := 62) rfl))) (mvT hZ (hw _ (List.mem_of_getElem? (i := 63) rfl))) (own_sel hZ (hw _ (List.mem_of_getElem? (i := 6) rfl)) (hw _ (List.mem_of_getElem? (i := 64) rfl)) (hw _ (List.mem_of_getElem? (i := 63) rfl)) (by decide)) (Cond.privateMethod_at (mvP hZ (hw _ (List.mem_of_getElem? (i := 64) rfl)) (args := #[]))) (mvT hZ (hw _ (List.mem_of_getElem? (i := 65) rfl))) (by decide) (backOf (W := 0) (rm11 l Z a0 hw [] a1 o w ko kw fi 1 (cl + (1 : Int32)) 0 le mo (lo.set fi.toNatClampNeg (.int cl)) (lw.set fi.toNatClampNeg (.int cl)) cl cl T40.heap n0 Z40 ⟨E_a1s_40, F_oldest_a1s_40, F_newest_a1s_40, F_first_a1s_40, F_runs_a1s_40, F_clock_a1_40, F_starting_a1_40, F_least_a1s_40, F_most_a1s_40, V_o_a1s_40, V_w_a1s_40⟩ (Or.inr rfl) hfi hov hnv n1 n2 n3) hZ (hw _ (List.mem_of_getElem? (i := 65) rfl)) (hw _ (List.mem_of_getElem? (i := 7) rfl)) (by decide) (by decide)) (g := (mkF m 63 #[.val (.ref a1), .val (.ref ab), .val (.int may)] [(.ref a1)])) rfl (by rw [hml]; rfl) (Steps.refl _) (a := a1) (by rw [e43]; exact q53) q53' (argsL := []) (rest := []) (lenOf pd_2 rfl) rfl (by show 2 * 0 + _ ≤ _; exact Nat.le_of_eq rfl) (hb hby d6_63) (fun _ _ => ⟨rfl, e43, (by decide : 0 + 0 ≤ _), (by decide : 0 + 0 ≤ _)⟩)
      dsimp only [Pt.U, Pt.locs, Pt.cells, Pt.slots] at X53 l53 y53 z53 st53 hQ53
      subst l53 y53 z53
      obtain ⟨rfl, Nq53, hh53⟩ := hQ53
      have E_a1s_53 : Exa Z T53.heap a1 "com/example/fettle/fettle/regex/Counts" := by rw [hh53]; exact E_a1s_40
      have E_ab_53 : Exa Z T53.heap ab "com/example/fettle/fettle/regex/Counts" := by rw [hh53]; exact E_ab_40
      have F_oldest_ab_53 : Fld Z T53.heap ab "com/example/fettle/fettle/regex/Counts" "oldest" "[I" (.ref ob) := by rw [hh53]; exact F_oldest_ab_40
      have F_newest_ab_53 : Fld Z T53.heap ab "com/example/fettle/fettle/regex/Counts" "newest" "[I" (.ref wb) := by rw [hh53]; exact F_newest_ab_40
      have F_first_ab_53 : Fld Z T53.heap ab "com/example/fettle/fettle/regex/Counts" "first" "I" (.int fib) := by rw [hh53]; exact F_first_ab_40
      have Fx_runs_ab_53 : Fld Z T53.heap ab "com/example/fettle/fettle/regex/Counts" "runs" "I" (.int (0 : Int32)) := by rw [hh53]; exact Fx_runs_ab_40
      have F_clock_ab_53 : Fld Z T53.heap ab "com/example/fettle/fettle/regex/Counts" "clock" "I" (.int clb) := by rw [hh53]; exact F_clock_ab_40
      have F_starting_ab_53 : Fld Z T53.heap ab "com/example/fettle/fettle/regex/Counts" "starting" "Z" (.int stb) := by rw [hh53]; exact F_starting_ab_40
      have F_least_ab_53 : Fld Z T53.heap ab "com/example/fettle/fettle/regex/Counts" "least" "I" (.int leb) := by rw [hh53]; exact F_least_ab_40
      have F_most_ab_53 : Fld Z T53.heap ab "com/example/fettle/fettle/regex/Counts" "most" "I" (.int mob) := by rw [hh53]; exact F_most_ab_40
      have V_o_ab_53 : Arv Z T53.heap ob kob .int (4 : Int32) lob (.int (0 : Int32)) := by rw [hh53]; exact V_o_ab_40
      have V_w_ab_53 : Arv Z T53.heap wb kwb .int (4 : Int32) lwb (.int (0 : Int32)) := by rw [hh53]; exact V_w_ab_40
      have F_oldest_a1s_53 : Fld Z T53.heap a1 "com/example/fettle/fettle/regex/Counts" "oldest" "[I" (.ref o) := by rw [hh53]; exact F_oldest_a1s_40
      have F_newest_a1s_53 : Fld Z T53.heap a1 "com/example/fettle/fettle/regex/Counts" "newest" "[I" (.ref w) := by rw [hh53]; exact F_newest_a1s_40
      have F_first_a1s_53 : Fld Z T53.heap a1 "com/example/fettle/fettle/regex/Counts" "first" "I" (.int fi) := by rw [hh53]; exact F_first_a1s_40
      have F_runs_a1s_53 : Fld Z T53.heap a1 "com/example/fettle/fettle/regex/Counts" "runs" "I" (.int 1) := by rw [hh53]; exact F_runs_a1s_40
      have F_least_a1s_53 : Fld Z T53.heap a1 "com/example/fettle/fettle/regex/Counts" "least" "I" (.int le) := by rw [hh53]; exact F_least_a1s_40
      have F_most_a1s_53 : Fld Z T53.heap a1 "com/example/fettle/fettle/regex/Counts" "most" "I" (.int mo) := by rw [hh53]; exact F_most_a1s_40
      have V_o_a1s_53 : Arv Z T53.heap o ko .int (4 : Int32) (lo.set fi.toNatClampNeg (.int cl)) (.int (0 : Int32)) := by rw [hh53]; exact V_o_a1s_40
      have V_w_a1s_53 : Arv Z T53.heap w kw .int (4 : Int32) (lw.set fi.toNatClampNeg (.int cl)) (.int (0 : Int32)) := by rw [hh53]; exact V_w_a1s_40
      have F_starting_a1_53 : Fld Z T53.heap a1 "com/example/fettle/fettle/regex/Counts" "starting" "Z" (.int (0 : Int32)) := by rw [hh53]; exact F_starting_a1_40
      have F_clock_a1_53 : Fld Z T53.heap a1 "com/example/fettle/fettle/regex/Counts" "clock" "I" (.int (cl + (1 : Int32))) := by rw [hh53]; exact F_clock_a1_40
      have Z53 : n0 ≤ T53.heap.size := by rw [hh53]; exact Z40
      have Kp53 : Keep h0 T53.heap [a1, o, w, ab] := by rw [hh53]; exact Kp40
      have N53 := Fr.app N40 Nq53
      have pre54 := fun τ (κ : Steps p.tables e below (T53.setTop (mkF m 66 #[.val (.ref a1), .val (.ref ab), .val (.int may)] [(.int (own_sec 1 cl cl (cl + (1 : Int32))))])) τ) => pre52 τ (st53.trans κ)
      have pre55 := fun τ (κ : Steps p.tables e below (T53.setTop (mkF m 67 #[.val (.ref a1), .val (.ref ab), .val (.int may)] [(.ref a1), (.int (own_sec 1 cl cl (cl + (1 : Int32))))])) τ) => pre54 τ (by
        refine XS.aloadN X53.here hx rfl (hb hby d6_66) rfl rfl ?_
        show Steps p.tables e below (T53.setTop (mkF m 67 #[.val (.ref a1), .val (.ref ab), .val (.int may)] [(.ref a1), (.int (own_sec 1 cl cl (cl + (1 : Int32))))])) _
        exact κ)
      obtain ⟨T56, X56, e56, st56⟩ := getF X53 hx hZ hown (host := "") (Or.inl (hw _ (List.mem_of_getElem? (i := 19) rfl))) Via.refl rfl F_least_a1s_53 (g := (mkF m 67 #[.val (.ref a1), .val (.ref ab), .val (.int may)] [(.ref a1), (.int (own_sec 1 cl cl (cl + (1 : Int32))))])) rfl rfl (hb hby d6_67)
      have pre57 := fun τ (κ : Steps p.tables e below (T56.setTop (mkF m 70 #[.val (.ref a1), .val (.ref ab), .val (.int may)] [(.int le), (.int (own_sec 1 cl cl (cl + (1 : Int32))))])) τ) => pre55 τ (st56 _ κ)
      have pre58 := fun τ (κ : Steps p.tables e below (T56.setTop (mkF m 79 #[.val (.ref a1), .val (.ref ab), .val (.int may)] [(.ref a1), (.ref ab)])) τ) => pre57 τ (by
        refine XS.icmpYes X56.here hx rfl (pc0 := 70) (pc' := 77) rfl (hb hby d6_70) rfl (tlt (by rw [own_sec, if_neg fun z => z.2 rfl]; exact own_nn1 hle0)).1 (by decide) (by decide) ?_
        show Steps p.tables e below (T56.setTop (mkF m 77 #[.val (.ref a1), .val (.ref ab), .val (.int may)] [])) _
        refine XS.aloadN X56.here hx rfl (hb hby d6_77) rfl rfl ?_
        show Steps p.tables e below (T56.setTop (mkF m 78 #[.val (.ref a1), .val (.ref ab), .val (.int may)] [(.ref ab)])) _
        refine XS.aloadN X56.here hx rfl (hb hby d6_78) rfl rfl ?_
        show Steps p.tables e below (T56.setTop (mkF m 79 #[.val (.ref a1), .val (.ref ab), .val (.int may)] [(.ref a1), (.ref ab)])) _
        exact κ)
      obtain ⟨cq59, q59, q59'⟩ := E_ab_53.cell
      obtain ⟨_, _, ⟨T59, L59, k59, n59⟩, -, X59, ⟨Lc59, hQ59, l59, y59, z59⟩, st59⟩ := X56.privateBack hx (y := (⟨"com/example/fettle/fettle/regex/Counts", "join", "(Lcom/example/fettle/fettle/regex/Counts;)V"⟩ : MethodName)) hown (mvT hZ (hw _ (List.mem_of_getElem? (i := 66) rfl))) (mvT hZ (hw _ (List.mem_of_getElem? (i := 67) rfl))) (own_sel hZ (hw _ (List.mem_of_getElem? (i := 6) rfl)) (hw _ (List.mem_of_getElem? (i := 68) rfl)) (hw _ (List.mem_of_getElem? (i := 67) rfl)) (by decide)) (Cond.privateMethod_at (mvP hZ (hw _ (List.mem_of_getElem? (i := 68) rfl)) (args := #[]))) (mvT hZ (hw _ (List.mem_of_getElem? (i := 69) rfl))) (by decide) (backOf (W := 0) (rm12 l Z a0 hw [] ab a1 ob wb kob kwb fib 0 clb stb leb mob lob lwb o w ko kw fi 1 (cl + (1 : Int32)) 0 le mo (lo.set fi.toNatClampNeg (.int cl)) (lw.set fi.toNatClampNeg (.int cl)) T53.heap n0 Z53 ⟨E_ab_53, F_oldest_ab_53, F_newest_ab_53, F_first_ab_53, Fx_runs_ab_53, F_clock_ab_53, F_starting_ab_53, F_least_ab_53, F_most_ab_53, V_o_ab_53, V_w_ab_53⟩ ⟨E_a1s_53, F_oldest_a1s_53, F_newest_a1s_53, F_first_a1s_53, F_runs_a1s_53, F_clock_a1_53, F_starting_a1_53, F_least_a1s_53, F_most_a1s_53, V_o_a1s_53, V_w_a1s_53⟩ rfl m6 m7 n32 (Ne.symm m1) m4 m5 m2 m3 n1 n2 g_ab g_a1) hZ (hw _ (List.mem_of_getElem? (i := 69) rfl)) (hw _ (List.mem_of_getElem? (i := 7) rfl)) (by decide) (by decide)) (g := (mkF m 79 #[.val (.ref a1), .val (.ref ab), .val (.int may)] [(.ref a1), (.ref ab)])) rfl (by rw [hml]; rfl) (Steps.refl _) (a := ab) (by rw [e56]; exact q59) q59' (argsL := [(.ref a1)]) (rest := []) (lenOf pd_3 rfl) rfl (by show 2 * 0 + _ ≤ _; exact Nat.le_of_eq rfl) (hb hby d6_79) (fun _ _ => ⟨rfl, e56, (by decide : 0 + 0 ≤ _), (by decide : 0 + 0 ≤ _)⟩)
      dsimp only [Pt.U, Pt.locs, Pt.cells, Pt.slots] at X59 l59 y59 z59 st59 hQ59
      subst l59 y59 z59
      obtain ⟨rfl, Nq59, K59, Q159, Q259⟩ := hQ59
      have E_a1s_59 : Exa Z T59.heap a1 "com/example/fettle/fettle/regex/Counts" := E_a1s_53.keep K59
      have E_ab_59 : Exa Z T59.heap ab "com/example/fettle/fettle/regex/Counts" := E_ab_53.keep K59
      have V_o_ab_59 : Arv Z T59.heap ob kob .int (4 : Int32) lob (.int (0 : Int32)) := V_o_ab_53.keep K59 (ninS (Ne.symm m6) (ninS (Ne.symm m2) nin0))
      have V_w_ab_59 : Arv Z T59.heap wb kwb .int (4 : Int32) lwb (.int (0 : Int32)) := V_w_ab_53.keep K59 (ninS (Ne.symm m7) (ninS (Ne.symm m3) nin0))
      have V_o_a1s_59 : Arv Z T59.heap o ko .int (4 : Int32) (lo.set fi.toNatClampNeg (.int cl)) (.int (0 : Int32)) := V_o_a1s_53.keep K59 (ninS (Ne.symm m4) (ninS (Ne.symm n1) nin0))
      have V_w_a1s_59 : Arv Z T59.heap w kw .int (4 : Int32) (lw.set fi.toNatClampNeg (.int cl)) (.int (0 : Int32)) := V_w_a1s_53.keep K59 (ninS (Ne.symm m5) (ninS (Ne.symm n2) nin0))
      have Z59 : n0 ≤ T59.heap.size := Nat.le_trans Z53 K59.1
      have Kp59 : Keep h0 T59.heap [a1, o, w, ab] := Kp53.trans K59 (allS (Or.inl (List.mem_of_getElem? (i := 3) rfl)) (allS (Or.inl (List.mem_of_getElem? (i := 0) rfl)) all0))
      have N59 := Fr.app N53 Nq59
      have pre60 := fun τ (κ : Steps p.tables e below (T59.setTop (mkF m 82 #[.val (.ref a1), .val (.ref ab), .val (.int may)] [])) τ) => pre58 τ (st59.trans κ)
      have pre61 := fun τ (κ : Steps p.tables e below (T59.setTop (mkF m 83 #[.val (.ref a1), .val (.ref ab), .val (.int may)] [(.int may)])) τ) => pre60 τ (by
        refine XS.iloadN X59.here hx rfl (hb hby d6_82) rfl ?_
        show Steps p.tables e below (T59.setTop (mkF m 83 #[.val (.ref a1), .val (.ref ab), .val (.int may)] [(.int may)])) _
        exact κ)
      obtain ⟨fs, hr, hrun, hended, hW, hsame⟩ := X59.leave (v := some (.int (nar .boolean may))) (fun h => by rw [Bd.returns] at h; cases h)
      refine ⟨_, _, pre61 _ ?_, hrun, hended, _, _, rfl, ?_, ⟨_, rfl⟩, hW, hsame.mono (by decide) (by decide)⟩
      · exact retN X59 hx (t := .boolean) Bd.returns (by simp) (hb hby d6_83) hr
      · show Q6a Z a1 ab o w ko kw fi ru cl st le mo lo lw ob wb kob kwb fib rub clb stb leb mob lob lwb h0 n0 _ T59.heap _
        exact ⟨_, rfl, N59, Kp59, Or.inr ⟨fun z => q2 (h1.trans z.symm), Q159⟩, Q259⟩
theorem ef_6b (m : MethodId) (a1 : Addr) (ab : Addr) (o : Addr) (w : Addr) (fi : Int32) (ru : Int32) (cl : Int32) (st : Int32) (le : Int32) (mo : Int32) (ob : Addr) (wb : Addr) (fib : Int32) (rub : Int32) (clb : Int32) (stb : Int32) (leb : Int32) (mob : Int32) (ov : Int32) : entryFrame m #[(.ref a1), (.ref ab)] 3 = mkF m 0 #[.val (.ref a1), .val (.ref ab), .unset] [] := by first | (simp [entryFrame, mkF, argsToLocals, Value.category]; done) | rfl
def Q6b (Z : State) (a1 : Addr) (ab : Addr) (o : Addr) (w : Addr) (ko : ClassId) (kw : ClassId) (fi : Int32) (ru : Int32) (cl : Int32) (st : Int32) (le : Int32) (mo : Int32) (lo : List Value) (lw : List Value) (ob : Addr) (wb : Addr) (kob : ClassId) (kwb : ClassId) (fib : Int32) (rub : Int32) (clb : Int32) (stb : Int32) (leb : Int32) (mob : Int32) (lob : List Value) (lwb : List Value) (ov : Int32) (h0 : Heap) (n0 : Nat) (v : Option Value) (h : Heap) (L : List Loc) : Prop := ∃ x : Int32, v = some (.int x) ∧ Fr n0 L ∧ Keep h0 h [a1, o, w, ab] ∧ Exa Z h a1 "com/example/fettle/fettle/regex/Counts" ∧ Fld Z h a1 "com/example/fettle/fettle/regex/Counts" "runs" "I" (.int 0) ∧ Fld Z h a1 "com/example/fettle/fettle/regex/Counts" "starting" "Z" (.int 0) ∧ Exa Z h ab "com/example/fettle/fettle/regex/Counts" ∧ Fld Z h ab "com/example/fettle/fettle/regex/Counts" "starting" "Z" (.int stb) ∧ Fld Z h ab "com/example/fettle/fettle/regex/Counts" "runs" "I" (.int 1)
set_option maxRecDepth 65536 in
set_option maxHeartbeats 40000000 in
theorem rm6b (l : Launch) (Z : State) (a0 : Array Value) (hw : ∀ d ∈ tables_1, d.before a0 Z = true) (ws : List Jvm.Cond) (a1 : Addr) (ab : Addr) (o : Addr) (w : Addr) (ko : ClassId) (kw : ClassId) (fi : Int32) (ru : Int32) (cl : Int32) (st : Int32) (le : Int32) (mo : Int32) (lo : List Value) (lw : List Value) (ob : Addr) (wb : Addr) (kob : ClassId) (kwb : ClassId) (fib : Int32) (rub : Int32) (clb : Int32) (stb : Int32) (leb : Int32) (mob : Int32) (lob : List Value) (lwb : List Value) (ov : Int32) (h0 : Heap) (n0 : Nat) (Z0 : n0 ≤ h0.size) (P0 : own_C Z h0 a1 o w ko kw fi ru cl st le mo lo lw) (P2 : own_C Z h0 ab ob wb kob kwb fib rub clb stb leb mob lob lwb) (hru2 : rub = 0) (hfi : fi = 0 ∨ fi = 1) (hlo : lo.length = 4) (hlw : lw.length = 4) (hle0 : ¬ le < 0) (n1 : a1 ≠ o) (n2 : a1 ≠ w) (n3 : o ≠ w) (m1 : a1 ≠ ab) (m2 : a1 ≠ ob) (m3 : a1 ≠ wb) (m4 : ab ≠ o) (m5 : ab ≠ w) (m6 : ab ≠ ob) (m7 : ab ≠ wb) (n32 : ob ≠ wb) (k1 : o ≠ ob) (k2 : o ≠ wb) (k3 : w ≠ ob) (k4 : w ≠ wb) (g_a1 : n0 ≤ a1) (g_o : n0 ≤ o) (g_w : n0 ≤ w) (g_ab : n0 ≤ ab) (hst : st = 1) (hru : ru = 1) (hle : ¬ le = 0) (hnv0 : lw.getD fi.toNatClampNeg (.int (0 : Int32)) = .int (cl - 1)) (hov : lo.getD fi.toNatClampNeg (.int (0 : Int32)) = .int ov) (hne : ¬ ov = cl) :
    MetFree l (⟨"com/example/fettle/fettle/regex/Counts", "takeInto", "(Lcom/example/fettle/fettle/regex/Counts;)Z"⟩ : MethodName) (head1 (Jvm.Cond.code (⟨"com/example/fettle/fettle/regex/Counts", "takeInto", "(Lcom/example/fettle/fettle/regex/Counts;)Z"⟩ : MethodName) prog_24_method_5_code 3 (some .boolean) :: ws) ({ frames := 2, cells := 0, slots := 0, locals := 35 } : Room)) (fun α υ => α = #[(.ref a1), (.ref ab)] ∧ Z.Warmed39 υ.vm ∧ υ.heap = h0) (fun _ _ _ _ _ => True) (fun _ υ ω υ' => ∃ v L, ω = .returned v ∧ Q6b Z a1 ab o w ko kw fi ru cl st le mo lo lw ob wb kob kwb fib rub clb stb leb mob lob lwb ov h0 n0 v υ'.heap L ∧ FrameEnd υ ω υ' L ({ frames := 2, cells := 0, slots := 0, locals := 35 } : Room).cells ({ frames := 2, cells := 0, slots := 0, locals := 35 } : Room).slots) := by
  refine MetFree.of_bodySF (plainFor_of_name pn_com_example_fettle_fettle_regex_Counts) hisR ?_
  intro p e s m args below meth c s₁ Bd hml0 hP hK
  obtain ⟨rfl, hZ, hh⟩ := hP
  have hx := Bd.exec
  have hby := Bd.bytes
  have hml : c.maxLocals = 3 := hml0
  have hown : s.vm.findClass "com/example/fettle/fettle/regex/Counts" = some m.cls := findClass_of_methodNamed Bd.named
  have hnm := (name_of_methodNamed Bd.named Bd.method).1
  have X0 : Stand p l e ({ frames := 2, cells := 0, slots := 0, locals := 35 } : Room) s m #[(.ref a1), (.ref ab)] below meth c s₁ [] 0 0 := Stand.of_body Bd
  have e0 : s₁.heap = h0 := by rw [← hh, Bd.state]; rfl
  have N0 := Fr.nil n0
  have pre0 : ∀ τ, Steps p.tables e below (s₁.setTop (mkF m 0 #[.val (.ref a1), .val (.ref ab), .unset] [])) τ → Steps p.tables e below (s₁.setTop (entryFrame m #[(.ref a1), (.ref ab)] 3)) τ := fun τ κ => castTop (ef_6b m a1 ab o w fi ru cl st le mo ob wb fib rub clb stb leb mob ov) κ
  obtain ⟨E_a1, F_oldest_a1, F_newest_a1, F_first_a1, F_runs_a1, F_clock_a1, F_starting_a1, F_least_a1, F_most_a1, V_o_a1, V_w_a1⟩ := P0
  obtain ⟨E_ab, F_oldest_ab, F_newest_ab, F_first_ab, F_runs_ab, F_clock_ab, F_starting_ab, F_least_ab, F_most_ab, V_o_ab, V_w_ab⟩ := P2
  have Kp0 : Keep h0 h0 [a1, o, w, ab] := Keep.refl _ _
  have Fx_runs_ab : Fld Z h0 ab "com/example/fettle/fettle/regex/Counts" "runs" "I" (.int (0 : Int32)) := by have q := F_runs_ab; rw [hru2] at q; exact q
  have Fx_runs_a1 : Fld Z h0 a1 "com/example/fettle/fettle/regex/Counts" "runs" "I" (.int (1 : Int32)) := by have q := F_runs_a1; rw [hru] at q; exact q
  have Fx_starting_a1 : Fld Z h0 a1 "com/example/fettle/fettle/regex/Counts" "starting" "Z" (.int (1 : Int32)) := by have q := F_starting_a1; rw [hst] at q; exact q
  have pre1 := fun τ (κ : Steps p.tables e below (s₁.setTop (mkF m 1 #[.val (.ref a1), .val (.ref ab), .unset] [(.ref a1)])) τ) => pre0 τ (by
    refine XS.aloadN X0.here hx rfl (hb hby d6_0) rfl rfl ?_
    show Steps p.tables e below (s₁.setTop (mkF m 1 #[.val (.ref a1), .val (.ref ab), .unset] [(.ref a1)])) _
    exact κ)
  obtain ⟨T2, X2, e2, st2⟩ := getF X0 hx hZ hown (host := "") (Or.inl (hw _ (List.mem_of_getElem? (i := 30) rfl))) Via.refl e0 Fx_starting_a1 (g := (mkF m 1 #[.val (.ref a1), .val (.ref ab), .unset] [(.ref a1)])) rfl rfl (hb hby d6_1)
  have pre3 := fun τ (κ : Steps p.tables e below (T2.setTop (mkF m 4 #[.val (.ref a1), .val (.ref ab), .unset] [(.int (1 : Int32))])) τ) => pre1 τ (st2 _ κ)
  have pre4 := fun τ (κ : Steps p.tables e below (T2.setTop (mkF m 8 #[.val (.ref a1), .val (.ref ab), .unset] [(.ref a1)])) τ) => pre3 τ (by
    refine XS.ifNo X2.here hx rfl (hb hby d6_4) rfl ((if0 _ _).trans (feq (by decide)).1) ?_
    show Steps p.tables e below (T2.setTop (mkF m 7 #[.val (.ref a1), .val (.ref ab), .unset] [])) _
    refine XS.aloadN X2.here hx rfl (hb hby d6_7) rfl rfl ?_
    show Steps p.tables e below (T2.setTop (mkF m 8 #[.val (.ref a1), .val (.ref ab), .unset] [(.ref a1)])) _
    exact κ)
  obtain ⟨cq5, q5, q5'⟩ := E_a1.cell
  obtain ⟨_, _, ⟨T5, L5, k5, n5⟩, -, X5, ⟨Lc5, hQ5, l5, y5, z5⟩, st5⟩ := X2.privateBack hx (y := (⟨"com/example/fettle/fettle/regex/Counts", "addStarted", "()V"⟩ : MethodName)) hown (mvT hZ (hw _ (List.mem_of_getElem? (i := 42) rfl))) (mvT hZ (hw _ (List.mem_of_getElem? (i := 43) rfl))) (own_sel hZ (hw _ (List.mem_of_getElem? (i := 6) rfl)) (hw _ (List.mem_of_getElem? (i := 44) rfl)) (hw _ (List.mem_of_getElem? (i := 43) rfl)) (by decide)) (Cond.privateMethod_at (mvP hZ (hw _ (List.mem_of_getElem? (i := 44) rfl)) (args := #[]))) (mvT hZ (hw _ (List.mem_of_getElem? (i := 45) rfl))) (by decide) (backOf (W := 0) (rm7b l Z a0 hw [] a1 o w ko kw fi 1 cl 1 le mo lo lw h0 n0 Z0 ⟨E_a1, F_oldest_a1, F_newest_a1, F_first_a1, Fx_runs_a1, F_clock_a1, Fx_starting_a1, F_least_a1, F_most_a1, V_o_a1, V_w_a1⟩ rfl hle hfi hlw hnv0 n1 n2 n3 g_a1 g_o g_w) hZ (hw _ (List.mem_of_getElem? (i := 45) rfl)) (hw _ (List.mem_of_getElem? (i := 7) rfl)) (by decide) (by decide)) (g := (mkF m 8 #[.val (.ref a1), .val (.ref ab), .unset] [(.ref a1)])) rfl (by rw [hml]; rfl) (Steps.refl _) (a := a1) (by rw [e2]; exact q5) q5' (argsL := []) (rest := []) (lenOf pd_4 rfl) rfl (by show 2 * 0 + _ ≤ _; exact Nat.le_of_eq rfl) (hb hby d6_8) (fun _ _ => ⟨rfl, e2, (by decide : 0 + 0 ≤ _), (by decide : 0 + 0 ≤ _)⟩)
  dsimp only [Pt.U, Pt.locs, Pt.cells, Pt.slots] at X5 l5 y5 z5 st5 hQ5
  subst l5 y5 z5
  obtain ⟨rfl, Nq5, K5, P5⟩ := hQ5
  have E_a1_5 : Exa Z T5.heap a1 "com/example/fettle/fettle/regex/Counts" := E_a1.keep K5
  have E_ab_5 : Exa Z T5.heap ab "com/example/fettle/fettle/regex/Counts" := E_ab.keep K5
  have F_oldest_ab_5 : Fld Z T5.heap ab "com/example/fettle/fettle/regex/Counts" "oldest" "[I" (.ref ob) := F_oldest_ab.keep K5 (ninS (Ne.symm m1) (ninS m4 (ninS m5 nin0)))
  have F_newest_ab_5 : Fld Z T5.heap ab "com/example/fettle/fettle/regex/Counts" "newest" "[I" (.ref wb) := F_newest_ab.keep K5 (ninS (Ne.symm m1) (ninS m4 (ninS m5 nin0)))
  have F_first_ab_5 : Fld Z T5.heap ab "com/example/fettle/fettle/regex/Counts" "first" "I" (.int fib) := F_first_ab.keep K5 (ninS (Ne.symm m1) (ninS m4 (ninS m5 nin0)))
  have Fx_runs_ab_5 : Fld Z T5.heap ab "com/example/fettle/fettle/regex/Counts" "runs" "I" (.int (0 : Int32)) := Fx_runs_ab.keep K5 (ninS (Ne.symm m1) (ninS m4 (ninS m5 nin0)))
  have F_clock_ab_5 : Fld Z T5.heap ab "com/example/fettle/fettle/regex/Counts" "clock" "I" (.int clb) := F_clock_ab.keep K5 (ninS (Ne.symm m1) (ninS m4 (ninS m5 nin0)))
  have F_starting_ab_5 : Fld Z T5.heap ab "com/example/fettle/fettle/regex/Counts" "starting" "Z" (.int stb) := F_starting_ab.keep K5 (ninS (Ne.symm m1) (ninS m4 (ninS m5 nin0)))
  have F_least_ab_5 : Fld Z T5.heap ab "com/example/fettle/fettle/regex/Counts" "least" "I" (.int leb) := F_least_ab.keep K5 (ninS (Ne.symm m1) (ninS m4 (ninS m5 nin0)))
  have F_most_ab_5 : Fld Z T5.heap ab "com/example/fettle/fettle/regex/Counts" "most" "I" (.int mob) := F_most_ab.keep K5 (ninS (Ne.symm m1) (ninS m4 (ninS m5 nin0)))
  have V_o_ab_5 : Arv Z T5.heap ob kob .int (4 : Int32) lob (.int (0 : Int32)) := V_o_ab.keep K5 (ninS (Ne.symm m2) (ninS (Ne.symm k1) (ninS (Ne.symm k3) nin0)))
  have V_w_ab_5 : Arv Z T5.heap wb kwb .int (4 : Int32) lwb (.int (0 : Int32)) := V_w_ab.keep K5 (ninS (Ne.symm m3) (ninS (Ne.symm k2) (ninS (Ne.symm k4) nin0)))
  have Z5 : n0 ≤ T5.heap.size := Nat.le_trans Z0 K5.1
  have Kp5 : Keep h0 T5.heap [a1, o, w, ab] := Kp0.trans K5 (allS (Or.inl (List.mem_of_getElem? (i := 0) rfl)) (allS (Or.inl (List.mem_of_getElem? (i := 1) rfl)) (allS (Or.inl (List.mem_of_getElem? (i := 2) rfl)) all0)))
  have N5 := Fr.app N0 Nq5
  have pre6 := fun τ (κ : Steps p.tables e below (T5.setTop (mkF m 11 #[.val (.ref a1), .val (.ref ab), .unset] [])) τ) => pre4 τ (st5.trans κ)
  obtain ⟨E_a1s, F_oldest_a1s, F_newest_a1s, F_first_a1s, F_runs_a1s, F_clock_a1s, F_starting_a1s, F_least_a1s, F_most_a1s, V_o_a1s, V_w_a1s⟩ := P5
  have pre7 := fun τ (κ : Steps p.tables e below (T5.setTop (mkF m 13 #[.val (.ref a1), .val (.ref ab), .unset] [(.int (0 : Int32)), (.ref a1)])) τ) => pre6 τ (by
    refine XS.aloadN X5.here hx rfl (hb hby d6_11) rfl rfl ?_
    show Steps p.tables e below (T5.setTop (mkF m 12 #[.val (.ref a1), .val (.ref ab), .unset] [(.ref a1)])) _
    refine XS.iconst X5.here hx rfl (hb hby d6_12) ?_
    show Steps p.tables e below (T5.setTop (mkF m 13 #[.val (.ref a1), .val (.ref ab), .unset] [(.int (0 : Int32)), (.ref a1)])) _
    exact κ)
  obtain ⟨T8, h8, X8, e8, W8, st8⟩ := putFN X5 hx hZ hown (hw _ (List.mem_of_getElem? (i := 30) rfl)) Via.refl rfl F_starting_a1s E_a1s (Or.inl (hw _ (List.mem_of_getElem? (i := 31) rfl))) (hw _ (List.mem_of_getElem? (i := 6) rfl)) (ty := .boolean) (v' := (.int (0 : Int32))) (by decide) rfl (by decide) (g := (mkF m 13 #[.val (.ref a1), .val (.ref ab), .unset] [(.int (0 : Int32)), (.ref a1)])) rfl rfl (hb hby d6_13)
  have E_a1s_8 : Exa Z h8 a1 "com/example/fettle/fettle/regex/Counts" := E_a1s.wr W8
  have E_ab_8 : Exa Z h8 ab "com/example/fettle/fettle/regex/Counts" := E_ab_5.wr W8
  have F_oldest_ab_8 : Fld Z h8 ab "com/example/fettle/fettle/regex/Counts" "oldest" "[I" (.ref ob) := F_oldest_ab_5.other W8 (Or.inl (Ne.symm m1))
  have F_newest_ab_8 : Fld Z h8 ab "com/example/fettle/fettle/regex/Counts" "newest" "[I" (.ref wb) := F_newest_ab_5.other W8 (Or.inl (Ne.symm m1))
  have F_first_ab_8 : Fld Z h8 ab "com/example/fettle/fettle/regex/Counts" "first" "I" (.int fib) := F_first_ab_5.other W8 (Or.inl (Ne.symm m1))
  have Fx_runs_ab_8 : Fld Z h8 ab "com/example/fettle/fettle/regex/Counts" "runs" "I" (.int (0 : Int32)) := Fx_runs_ab_5.other W8 (Or.inl (Ne.symm m1))
  have F_clock_ab_8 : Fld Z h8 ab "com/example/fettle/fettle/regex/Counts" "clock" "I" (.int clb) := F_clock_ab_5.other W8 (Or.inl (Ne.symm m1))
  have F_starting_ab_8 : Fld Z h8 ab "com/example/fettle/fettle/regex/Counts" "starting" "Z" (.int stb) := F_starting_ab_5.other W8 (Or.inl (Ne.symm m1))
  have F_least_ab_8 : Fld Z h8 ab "com/example/fettle/fettle/regex/Counts" "least" "I" (.int leb) := F_least_ab_5.other W8 (Or.inl (Ne.symm m1))
  have F_most_ab_8 : Fld Z h8 ab "com/example/fettle/fettle/regex/Counts" "most" "I" (.int mob) := F_most_ab_5.other W8 (Or.inl (Ne.symm m1))
  have V_o_ab_8 : Arv Z h8 ob kob .int (4 : Int32) lob (.int (0 : Int32)) := V_o_ab_5.other W8 (Ne.symm m2)
  have V_w_ab_8 : Arv Z h8 wb kwb .int (4 : Int32) lwb (.int (0 : Int32)) := V_w_ab_5.other W8 (Ne.symm m3)
  have F_oldest_a1s_8 : Fld Z h8 a1 "com/example/fettle/fettle/regex/Counts" "oldest" "[I" (.ref o) := F_oldest_a1s.other W8 (Or.inr (slot_ne (Or.inl (hw _ (List.mem_of_getElem? (i := 16) rfl))) (Or.inl (hw _ (List.mem_of_getElem? (i := 31) rfl))) (by decide) (t := (.array .int)) (t' := .boolean) (by decide) (by decide)))
  have F_newest_a1s_8 : Fld Z h8 a1 "com/example/fettle/fettle/regex/Counts" "newest" "[I" (.ref w) := F_newest_a1s.other W8 (Or.inr (slot_ne (Or.inl (hw _ (List.mem_of_getElem? (i := 18) rfl))) (Or.inl (hw _ (List.mem_of_getElem? (i := 31) rfl))) (by decide) (t := (.array .int)) (t' := .boolean) (by decide) (by decide)))
  have F_first_a1s_8 : Fld Z h8 a1 "com/example/fettle/fettle/regex/Counts" "first" "I" (.int fi) := F_first_a1s.other W8 (Or.inr (slot_ne (Or.inl (hw _ (List.mem_of_getElem? (i := 57) rfl))) (Or.inl (hw _ (List.mem_of_getElem? (i := 31) rfl))) (by decide) (t := .int) (t' := .boolean) (by decide) (by decide)))
  have F_runs_a1s_8 : Fld Z h8 a1 "com/example/fettle/fettle/regex/Counts" "runs" "I" (.int 1) := F_runs_a1s.other W8 (Or.inr (slot_ne (Or.inl (hw _ (List.mem_of_getElem? (i := 29) rfl))) (Or.inl (hw _ (List.mem_of_getElem? (i := 31) rfl))) (by decide) (t := .int) (t' := .boolean) (by decide) (by decide)))
  have F_clock_a1s_8 : Fld Z h8 a1 "com/example/fettle/fettle/regex/Counts" "clock" "I" (.int cl) := F_clock_a1s.other W8 (Or.inr (slot_ne (Or.inl (hw _ (List.mem_of_getElem? (i := 47) rfl))) (Or.inl (hw _ (List.mem_of_getElem? (i := 31) rfl))) (by decide) (t := .int) (t' := .boolean) (by decide) (by decide)))
  have F_least_a1s_8 : Fld Z h8 a1 "com/example/fettle/fettle/regex/Counts" "least" "I" (.int le) := F_least_a1s.other W8 (Or.inr (slot_ne (Or.inr (hw _ (List.mem_of_getElem? (i := 20) rfl))) (Or.inl (hw _ (List.mem_of_getElem? (i := 31) rfl))) (by decide) (t := .int) (t' := .boolean) (by decide) (by decide)))
  have F_most_a1s_8 : Fld Z h8 a1 "com/example/fettle/fettle/regex/Counts" "most" "I" (.int mo) := F_most_a1s.other W8 (Or.inr (slot_ne (Or.inr (hw _ (List.mem_of_getElem? (i := 22) rfl))) (Or.inl (hw _ (List.mem_of_getElem? (i := 31) rfl))) (by decide) (t := .int) (t' := .boolean) (by decide) (by decide)))
  have V_o_a1s_8 : Arv Z h8 o ko .int (4 : Int32) lo (.int (0 : Int32)) := V_o_a1s.other W8 (Ne.symm n1)
  have V_w_a1s_8 : Arv Z h8 w kw .int (4 : Int32) (lw.set fi.toNatClampNeg (.int cl)) (.int (0 : Int32)) := V_w_a1s.other W8 (Ne.symm n2)
  have Kp8 : Keep h0 h8 [a1, o, w, ab] := Kp5.wr W8 (Or.inl (List.mem_of_getElem? (i := 0) rfl))
  have N8 := Fr.snoc X8 N5 g_a1
  have Z8 : n0 ≤ h8.size := Nat.le_trans Z5 (Keep.of_wr W8).1
  have F_starting_a1_8 : Fld Z h8 a1 "com/example/fettle/fettle/regex/Counts" "starting" "Z" (.int (0 : Int32)) := F_starting_a1s.same W8
  have pre9 := fun τ (κ : Steps p.tables e below (T8.setTop (mkF m 16 #[.val (.ref a1), .val (.ref ab), .unset] [])) τ) => pre7 τ (st8 _ κ)
  have hnv := own_get hfi hlw (.int cl) (.int (0 : Int32))
  have hlo' := hlo
  have pre10 := fun τ (κ : Steps p.tables e below (T8.setTop (mkF m 18 #[.val (.ref a1), .val (.ref ab), .unset] [(.ref a1), (.ref a1)])) τ) => pre9 τ (by
    refine XS.aloadN X8.here hx rfl (hb hby d6_16) rfl rfl ?_
    show Steps p.tables e below (T8.setTop (mkF m 17 #[.val (.ref a1), .val (.ref ab), .unset] [(.ref a1)])) _
    refine XS.dup X8.here hx rfl (hb hby d6_17) rfl rfl ?_
    show Steps p.tables e below (T8.setTop (mkF m 18 #[.val (.ref a1), .val (.ref ab), .unset] [(.ref a1), (.ref a1)])) _
    exact κ)
  obtain ⟨T11, X11, e11, st11⟩ := getF X8 hx hZ hown (host := "") (Or.inl (hw _ (List.mem_of_getElem? (i := 46) rfl))) Via.refl e8 F_clock_a1s_8 (g := (mkF m 18 #[.val (.ref a1), .val (.ref ab), .unset] [(.ref a1), (.ref a1)])) rfl rfl (hb hby d6_18)
  have pre12 := fun τ (κ : Steps p.tables e below (T11.setTop (mkF m 21 #[.val (.ref a1), .val (.ref ab), .unset] [(.int cl), (.ref a1)])) τ) => pre10 τ (st11 _ κ)
  have pre13 := fun τ (κ : Steps p.tables e below (T11.setTop (mkF m 23 #[.val (.ref a1), .val (.ref ab), .unset] [(.int (cl + (1 : Int32))), (.ref a1)])) τ) => pre12 τ (by
    refine XS.iconst X11.here hx rfl (hb hby d6_21) ?_
    show Steps p.tables e below (T11.setTop (mkF m 22 #[.val (.ref a1), .val (.ref ab), .unset] [(.int (1 : Int32)), (.int cl), (.ref a1)])) _
    refine XS.iadd X11.here hx rfl (hb hby d6_22) rfl ?_
    show Steps p.tables e below (T11.setTop (mkF m 23 #[.val (.ref a1), .val (.ref ab), .unset] [(.int (cl + (1 : Int32))), (.ref a1)])) _
    exact κ)
  obtain ⟨T14, h14, X14, e14, W14, st14⟩ := putF X11 hx hZ hown (host := "") (Or.inl (hw _ (List.mem_of_getElem? (i := 46) rfl))) Via.refl e11 F_clock_a1s_8 E_a1s_8 (Or.inl (hw _ (List.mem_of_getElem? (i := 47) rfl))) (hw _ (List.mem_of_getElem? (i := 6) rfl)) (ty := .int) (by decide) rfl rfl (g := (mkF m 23 #[.val (.ref a1), .val (.ref ab), .unset] [(.int (cl + (1 : Int32))), (.ref a1)])) rfl rfl (hb hby d6_23)
  have E_a1s_14 : Exa Z h14 a1 "com/example/fettle/fettle/regex/Counts" := E_a1s_8.wr W14
  have E_ab_14 : Exa Z h14 ab "com/example/fettle/fettle/regex/Counts" := E_ab_8.wr W14
  have F_oldest_ab_14 : Fld Z h14 ab "com/example/fettle/fettle/regex/Counts" "oldest" "[I" (.ref ob) := F_oldest_ab_8.other W14 (Or.inl (Ne.symm m1))
  have F_newest_ab_14 : Fld Z h14 ab "com/example/fettle/fettle/regex/Counts" "newest" "[I" (.ref wb) := F_newest_ab_8.other W14 (Or.inl (Ne.symm m1))
  have F_first_ab_14 : Fld Z h14 ab "com/example/fettle/fettle/regex/Counts" "first" "I" (.int fib) := F_first_ab_8.other W14 (Or.inl (Ne.symm m1))
  have Fx_runs_ab_14 : Fld Z h14 ab "com/example/fettle/fettle/regex/Counts" "runs" "I" (.int (0 : Int32)) := Fx_runs_ab_8.other W14 (Or.inl (Ne.symm m1))
  have F_clock_ab_14 : Fld Z h14 ab "com/example/fettle/fettle/regex/Counts" "clock" "I" (.int clb) := F_clock_ab_8.other W14 (Or.inl (Ne.symm m1))
  have F_starting_ab_14 : Fld Z h14 ab "com/example/fettle/fettle/regex/Counts" "starting" "Z" (.int stb) := F_starting_ab_8.other W14 (Or.inl (Ne.symm m1))
  have F_least_ab_14 : Fld Z h14 ab "com/example/fettle/fettle/regex/Counts" "least" "I" (.int leb) := F_least_ab_8.other W14 (Or.inl (Ne.symm m1))
  have F_most_ab_14 : Fld Z h14 ab "com/example/fettle/fettle/regex/Counts" "most" "I" (.int mob) := F_most_ab_8.other W14 (Or.inl (Ne.symm m1))
  have V_o_ab_14 : Arv Z h14 ob kob .int (4 : Int32) lob (.int (0 : Int32)) := V_o_ab_8.other W14 (Ne.symm m2)
  have V_w_ab_14 : Arv Z h14 wb kwb .int (4 : Int32) lwb (.int (0 : Int32)) := V_w_ab_8.other W14 (Ne.symm m3)
  have F_oldest_a1s_14 : Fld Z h14 a1 "com/example/fettle/fettle/regex/Counts" "oldest" "[I" (.ref o) := F_oldest_a1s_8.other W14 (Or.inr (slot_ne (Or.inl (hw _ (List.mem_of_getElem? (i := 16) rfl))) (Or.inl (hw _ (List.mem_of_getElem? (i := 47) rfl))) (by decide) (t := (.array .int)) (t' := .int) (by decide) (by decide)))
  have F_newest_a1s_14 : Fld Z h14 a1 "com/example/fettle/fettle/regex/Counts" "newest" "[I" (.ref w) := F_newest_a1s_8.other W14 (Or.inr (slot_ne (Or.inl (hw _ (List.mem_of_getElem? (i := 18) rfl))) (Or.inl (hw _ (List.mem_of_getElem? (i := 47) rfl))) (by decide) (t := (.array .int)) (t' := .int) (by decide) (by decide)))
  have F_first_a1s_14 : Fld Z h14 a1 "com/example/fettle/fettle/regex/Counts" "first" "I" (.int fi) := F_first_a1s_8.other W14 (Or.inr (slot_ne (Or.inl (hw _ (List.mem_of_getElem? (i := 57) rfl))) (Or.inl (hw _ (List.mem_of_getElem? (i := 47) rfl))) (by decide) (t := .int) (t' := .int) (by decide) (by decide)))
  have F_runs_a1s_14 : Fld Z h14 a1 "com/example/fettle/fettle/regex/Counts" "runs" "I" (.int 1) := F_runs_a1s_8.other W14 (Or.inr (slot_ne (Or.inl (hw _ (List.mem_of_getElem? (i := 29) rfl))) (Or.inl (hw _ (List.mem_of_getElem? (i := 47) rfl))) (by decide) (t := .int) (t' := .int) (by decide) (by decide)))
  have F_least_a1s_14 : Fld Z h14 a1 "com/example/fettle/fettle/regex/Counts" "least" "I" (.int le) := F_least_a1s_8.other W14 (Or.inr (slot_ne (Or.inr (hw _ (List.mem_of_getElem? (i := 20) rfl))) (Or.inl (hw _ (List.mem_of_getElem? (i := 47) rfl))) (by decide) (t := .int) (t' := .int) (by decide) (by decide)))
  have F_most_a1s_14 : Fld Z h14 a1 "com/example/fettle/fettle/regex/Counts" "most" "I" (.int mo) := F_most_a1s_8.other W14 (Or.inr (slot_ne (Or.inr (hw _ (List.mem_of_getElem? (i := 22) rfl))) (Or.inl (hw _ (List.mem_of_getElem? (i := 47) rfl))) (by decide) (t := .int) (t' := .int) (by decide) (by decide)))
  have V_o_a1s_14 : Arv Z h14 o ko .int (4 : Int32) lo (.int (0 : Int32)) := V_o_a1s_8.other W14 (Ne.symm n1)
  have V_w_a1s_14 : Arv Z h14 w kw .int (4 : Int32) (lw.set fi.toNatClampNeg (.int cl)) (.int (0 : Int32)) := V_w_a1s_8.other W14 (Ne.symm n2)
  have F_starting_a1_14 : Fld Z h14 a1 "com/example/fettle/fettle/regex/Counts" "starting" "Z" (.int (0 : Int32)) := F_starting_a1_8.other W14 (Or.inr (slot_ne (Or.inl (hw _ (List.mem_of_getElem? (i := 31) rfl))) (Or.inl (hw _ (List.mem_of_getElem? (i := 47) rfl))) (by decide) (t := .boolean) (t' := .int) (by decide) (by decide)))
  have Kp14 : Keep h0 h14 [a1, o, w, ab] := Kp8.wr W14 (Or.inl (List.mem_of_getElem? (i := 0) rfl))
  have N14 := Fr.snoc X14 N8 g_a1
  have Z14 : n0 ≤ h14.size := Nat.le_trans Z8 (Keep.of_wr W14).1
  have F_clock_a1_14 : Fld Z h14 a1 "com/example/fettle/fettle/regex/Counts" "clock" "I" (.int (cl + (1 : Int32))) := F_clock_a1s_8.same W14
  have pre15 := fun τ (κ : Steps p.tables e below (T14.setTop (mkF m 26 #[.val (.ref a1), .val (.ref ab), .unset] [])) τ) => pre13 τ (st14 _ κ)
  have pre16 := fun τ (κ : Steps p.tables e below (T14.setTop (mkF m 27 #[.val (.ref a1), .val (.ref ab), .unset] [(.ref a1)])) τ) => pre15 τ (by
    refine XS.aloadN X14.here hx rfl (hb hby d6_26) rfl rfl ?_
    show Steps p.tables e below (T14.setTop (mkF m 27 #[.val (.ref a1), .val (.ref ab), .unset] [(.ref a1)])) _
    exact κ)
  obtain ⟨cq17, q17, q17'⟩ := E_a1s_14.cell
  obtain ⟨_, _, ⟨T17, L17, k17, n17⟩, -, X17, ⟨Lc17, hQ17, l17, y17, z17⟩, st17⟩ := X14.privateBack hx (y := (⟨"com/example/fettle/fettle/regex/Counts", "largest", "()I"⟩ : MethodName)) hown (mvT hZ (hw _ (List.mem_of_getElem? (i := 58) rfl))) (mvT hZ (hw _ (List.mem_of_getElem? (i := 59) rfl))) (own_sel hZ (hw _ (List.mem_of_getElem? (i := 6) rfl)) (hw _ (List.mem_of_getElem? (i := 60) rfl)) (hw _ (List.mem_of_getElem? (i := 59) rfl)) (by decide)) (Cond.privateMethod_at (mvP hZ (hw _ (List.mem_of_getElem? (i := 60) rfl)) (args := #[]))) (mvT hZ (hw _ (List.mem_of_getElem? (i := 61) rfl))) (by decide) (backOf (W := 0) (rm10 l Z a0 hw [] a1 o ko fi (cl + (1 : Int32)) ov lo h14 n0 Z14 F_clock_a1_14 F_oldest_a1s_14 F_first_a1s_14 V_o_a1s_14 hfi hov) hZ (hw _ (List.mem_of_getElem? (i := 61) rfl)) (hw _ (List.mem_of_getElem? (i := 7) rfl)) (by decide) (by decide)) (g := (mkF m 27 #[.val (.ref a1), .val (.ref ab), .unset] [(.ref a1)])) rfl (by rw [hml]; rfl) (Steps.refl _) (a := a1) (by rw [e14]; exact q17) q17' (argsL := []) (rest := []) (lenOf pd_2 rfl) rfl (by show 2 * 0 + _ ≤ _; exact Nat.le_of_eq rfl) (hb hby d6_27) (fun _ _ => ⟨rfl, e14, (by decide : 0 + 0 ≤ _), (by decide : 0 + 0 ≤ _)⟩)
  dsimp only [Pt.U, Pt.locs, Pt.cells, Pt.slots] at X17 l17 y17 z17 st17 hQ17
  subst l17 y17 z17
  obtain ⟨rfl, Nq17, hh17⟩ := hQ17
  have E_a1s_17 : Exa Z T17.heap a1 "com/example/fettle/fettle/regex/Counts" := by rw [hh17]; exact E_a1s_14
  have E_ab_17 : Exa Z T17.heap ab "com/example/fettle/fettle/regex/Counts" := by rw [hh17]; exact E_ab_14
  have F_oldest_ab_17 : Fld Z T17.heap ab "com/example/fettle/fettle/regex/Counts" "oldest" "[I" (.ref ob) := by rw [hh17]; exact F_oldest_ab_14
  have F_newest_ab_17 : Fld Z T17.heap ab "com/example/fettle/fettle/regex/Counts" "newest" "[I" (.ref wb) := by rw [hh17]; exact F_newest_ab_14
  have F_first_ab_17 : Fld Z T17.heap ab "com/example/fettle/fettle/regex/Counts" "first" "I" (.int fib) := by rw [hh17]; exact F_first_ab_14
  have Fx_runs_ab_17 : Fld Z T17.heap ab "com/example/fettle/fettle/regex/Counts" "runs" "I" (.int (0 : Int32)) := by rw [hh17]; exact Fx_runs_ab_14
  have F_clock_ab_17 : Fld Z T17.heap ab "com/example/fettle/fettle/regex/Counts" "clock" "I" (.int clb) := by rw [hh17]; exact F_clock_ab_14
  have F_starting_ab_17 : Fld Z T17.heap ab "com/example/fettle/fettle/regex/Counts" "starting" "Z" (.int stb) := by rw [hh17]; exact F_starting_ab_14
  have F_least_ab_17 : Fld Z T17.heap ab "com/example/fettle/fettle/regex/Counts" "least" "I" (.int leb) := by rw [hh17]; exact F_least_ab_14
  have F_most_ab_17 : Fld Z T17.heap ab "com/example/fettle/fettle/regex/Counts" "most" "I" (.int mob) := by rw [hh17]; exact F_most_ab_14
  have V_o_ab_17 : Arv Z T17.heap ob kob .int (4 : Int32) lob (.int (0 : Int32)) := by rw [hh17]; exact V_o_ab_14
  have V_w_ab_17 : Arv Z T17.heap wb kwb .int (4 : Int32) lwb (.int (0 : Int32)) := by rw [hh17]; exact V_w_ab_14
  have F_oldest_a1s_17 : Fld Z T17.heap a1 "com/example/fettle/fettle/regex/Counts" "oldest" "[I" (.ref o) := by rw [hh17]; exact F_oldest_a1s_14
  have F_newest_a1s_17 : Fld Z T17.heap a1 "com/example/fettle/fettle/regex/Counts" "newest" "[I" (.ref w) := by rw [hh17]; exact F_newest_a1s_14
  have F_first_a1s_17 : Fld Z T17.heap a1 "com/example/fettle/fettle/regex/Counts" "first" "I" (.int fi) := by rw [hh17]; exact F_first_a1s_14
  have F_runs_a1s_17 : Fld Z T17.heap a1 "com/example/fettle/fettle/regex/Counts" "runs" "I" (.int 1) := by rw [hh17]; exact F_runs_a1s_14
  have F_least_a1s_17 : Fld Z T17.heap a1 "com/example/fettle/fettle/regex/Counts" "least" "I" (.int le) := by rw [hh17]; exact F_least_a1s_14
  have F_most_a1s_17 : Fld Z T17.heap a1 "com/example/fettle/fettle/regex/Counts" "most" "I" (.int mo) := by rw [hh17]; exact F_most_a1s_14
  have V_o_a1s_17 : Arv Z T17.heap o ko .int (4 : Int32) lo (.int (0 : Int32)) := by rw [hh17]; exact V_o_a1s_14
  have V_w_a1s_17 : Arv Z T17.heap w kw .int (4 : Int32) (lw.set fi.toNatClampNeg (.int cl)) (.int (0 : Int32)) := by rw [hh17]; exact V_w_a1s_14
  have F_starting_a1_17 : Fld Z T17.heap a1 "com/example/fettle/fettle/regex/Counts" "starting" "Z" (.int (0 : Int32)) := by rw [hh17]; exact F_starting_a1_14
  have F_clock_a1_17 : Fld Z T17.heap a1 "com/example/fettle/fettle/regex/Counts" "clock" "I" (.int (cl + (1 : Int32))) := by rw [hh17]; exact F_clock_a1_14
  have Z17 : n0 ≤ T17.heap.size := by rw [hh17]; exact Z14
  have Kp17 : Keep h0 T17.heap [a1, o, w, ab] := by rw [hh17]; exact Kp14
  have N17 := Fr.app N14 Nq17
  have pre18 := fun τ (κ : Steps p.tables e below (T17.setTop (mkF m 30 #[.val (.ref a1), .val (.ref ab), .unset] [(.int ((cl + (1 : Int32)) - ov))])) τ) => pre16 τ (st17.trans κ)
  have pre19 := fun τ (κ : Steps p.tables e below (T17.setTop (mkF m 31 #[.val (.ref a1), .val (.ref ab), .unset] [(.ref a1), (.int ((cl + (1 : Int32)) - ov))])) τ) => pre18 τ (by
    refine XS.aloadN X17.here hx rfl (hb hby d6_30) rfl rfl ?_
    show Steps p.tables e below (T17.setTop (mkF m 31 #[.val (.ref a1), .val (.ref ab), .unset] [(.ref a1), (.int ((cl + (1 : Int32)) - ov))])) _
    exact κ)
  obtain ⟨T20, X20, e20, st20⟩ := getF X17 hx hZ hown (host := "") (Or.inl (hw _ (List.mem_of_getElem? (i := 19) rfl))) Via.refl rfl F_least_a1s_17 (g := (mkF m 31 #[.val (.ref a1), .val (.ref ab), .unset] [(.ref a1), (.int ((cl + (1 : Int32)) - ov))])) rfl rfl (hb hby d6_31)
  have pre21 := fun τ (κ : Steps p.tables e below (T20.setTop (mkF m 34 #[.val (.ref a1), .val (.ref ab), .unset] [(.int le), (.int ((cl + (1 : Int32)) - ov))])) τ) => pre19 τ (st20 _ κ)
  obtain ⟨may, pre22⟩ : ∃ may : Int32, ∀ τ, Steps p.tables e below (T20.setTop (mkF m 43 #[.val (.ref a1), .val (.ref ab), .val (.int may)] [])) τ → Steps p.tables e below (s₁.setTop (entryFrame m #[(.ref a1), (.ref ab)] 3)) τ := by
    by_cases q1 : ((cl + (1 : Int32)) - ov) < le
    · have pre23 := fun τ (κ : Steps p.tables e below (T20.setTop (mkF m 43 #[.val (.ref a1), .val (.ref ab), .val (.int (0 : Int32))] [])) τ) => pre21 τ (by
        refine XS.icmpYes X20.here hx rfl (pc0 := 34) (pc' := 41) rfl (hb hby d6_34) rfl (tlt q1).1 (by decide) (by decide) ?_
        show Steps p.tables e below (T20.setTop (mkF m 41 #[.val (.ref a1), .val (.ref ab), .unset] [])) _
        refine XS.iconst X20.here hx rfl (hb hby d6_41) ?_
        show Steps p.tables e below (T20.setTop (mkF m 42 #[.val (.ref a1), .val (.ref ab), .unset] [(.int (0 : Int32))])) _
        refine XS.istoreN X20.here hx rfl (hb hby d6_42) rfl (l' := #[.val (.ref a1), .val (.ref ab), .val (.int (0 : Int32))]) rfl ?_
        show Steps p.tables e below (T20.setTop (mkF m 43 #[.val (.ref a1), .val (.ref ab), .val (.int (0 : Int32))] [])) _
        exact κ)
      exact ⟨_, pre23⟩
    · have pre24 := fun τ (κ : Steps p.tables e below (T20.setTop (mkF m 43 #[.val (.ref a1), .val (.ref ab), .val (.int (1 : Int32))] [])) τ) => pre21 τ (by
        refine XS.icmpNo X20.here hx rfl (hb hby d6_34) rfl (flt q1).1 ?_
        show Steps p.tables e below (T20.setTop (mkF m 37 #[.val (.ref a1), .val (.ref ab), .unset] [])) _
        refine XS.iconst X20.here hx rfl (hb hby d6_37) ?_
        show Steps p.tables e below (T20.setTop (mkF m 38 #[.val (.ref a1), .val (.ref ab), .unset] [(.int (1 : Int32))])) _
        refine XS.goto X20.here hx rfl (pc0 := 38) (pc' := 42) rfl (hb hby d6_38) (by decide) (by decide) ?_
        show Steps p.tables e below (T20.setTop (mkF m 42 #[.val (.ref a1), .val (.ref ab), .unset] [(.int (1 : Int32))])) _
        refine XS.istoreN X20.here hx rfl (hb hby d6_42) rfl (l' := #[.val (.ref a1), .val (.ref ab), .val (.int (1 : Int32))]) rfl ?_
        show Steps p.tables e below (T20.setTop (mkF m 43 #[.val (.ref a1), .val (.ref ab), .val (.int (1 : Int32))] [])) _
        exact κ)
      exact ⟨_, pre24⟩
  have pre25 := fun τ (κ : Steps p.tables e below (T20.setTop (mkF m 44 #[.val (.ref a1), .val (.ref ab), .val (.int may)] [(.ref a1)])) τ) => pre22 τ (by
    refine XS.aloadN X20.here hx rfl (hb hby d6_43) rfl rfl ?_
    show Steps p.tables e below (T20.setTop (mkF m 44 #[.val (.ref a1), .val (.ref ab), .val (.int may)] [(.ref a1)])) _
    exact κ)
  obtain ⟨T26, X26, e26, st26⟩ := getF X20 hx hZ hown (host := "") (Or.inl (hw _ (List.mem_of_getElem? (i := 21) rfl))) Via.refl e20 F_most_a1s_17 (g := (mkF m 44 #[.val (.ref a1), .val (.ref ab), .val (.int may)] [(.ref a1)])) rfl rfl (hb hby d6_44)
  have pre27 := fun τ (κ : Steps p.tables e below (T26.setTop (mkF m 47 #[.val (.ref a1), .val (.ref ab), .val (.int may)] [(.int mo)])) τ) => pre25 τ (st26 _ κ)
  have pre28 := fun τ (κ : Steps p.tables e below (T26.setTop (mkF m 48 #[.val (.ref a1), .val (.ref ab), .val (.int may)] [(.int (-1 : Int32)), (.int mo)])) τ) => pre27 τ (by
    refine XS.iconst X26.here hx rfl (hb hby d6_47) ?_
    show Steps p.tables e below (T26.setTop (mkF m 48 #[.val (.ref a1), .val (.ref ab), .val (.int may)] [(.int (-1 : Int32)), (.int mo)])) _
    exact κ)
  by_cases q1 : mo = (-1 : Int32)
  · have pre29 := fun τ (κ : Steps p.tables e below (T26.setTop (mkF m 63 #[.val (.ref a1), .val (.ref ab), .val (.int may)] [(.ref a1)])) τ) => pre28 τ (by
      refine XS.icmpYes X26.here hx rfl (pc0 := 48) (pc' := 62) rfl (hb hby d6_48) rfl (teq q1).1 (by decide) (by decide) ?_
      show Steps p.tables e below (T26.setTop (mkF m 62 #[.val (.ref a1), .val (.ref ab), .val (.int may)] [])) _
      refine XS.aloadN X26.here hx rfl (hb hby d6_62) rfl rfl ?_
      show Steps p.tables e below (T26.setTop (mkF m 63 #[.val (.ref a1), .val (.ref ab), .val (.int may)] [(.ref a1)])) _
      exact κ)
    obtain ⟨cq30, q30, q30'⟩ := E_a1s_17.cell
    obtain ⟨_, _, ⟨T30, L30, k30, n30⟩, -, X30, ⟨Lc30, hQ30, l30, y30, z30⟩, st30⟩ := X26.privateBack hx (y := (⟨"com/example/fettle/fettle/regex/Counts", "secondLargest", "()I"⟩ : MethodName)) hown (mvT hZ (hw _ (List.mem_of_getElem? (i := 62) rfl))) (mvT hZ (hw _ (List.mem_of_getElem? (i := 63) rfl))) (own_sel hZ (hw _ (List.mem_of_getElem? (i := 6) rfl)) (hw _ (List.mem_of_getElem? (i := 64) rfl)) (hw _ (List.mem_of_getElem? (i := 63) rfl)) (by decide)) (Cond.privateMethod_at (mvP hZ (hw _ (List.mem_of_getElem? (i := 64) rfl)) (args := #[]))) (mvT hZ (hw _ (List.mem_of_getElem? (i := 65) rfl))) (by decide) (backOf (W := 0) (rm11 l Z a0 hw [] a1 o w ko kw fi 1 (cl + (1 : Int32)) 0 le mo lo (lw.set fi.toNatClampNeg (.int cl)) ov cl T17.heap n0 Z17 ⟨E_a1s_17, F_oldest_a1s_17, F_newest_a1s_17, F_first_a1s_17, F_runs_a1s_17, F_clock_a1_17, F_starting_a1_17, F_least_a1s_17, F_most_a1s_17, V_o_a1s_17, V_w_a1s_17⟩ (Or.inr rfl) hfi hov hnv n1 n2 n3) hZ (hw _ (List.mem_of_getElem? (i := 65) rfl)) (hw _ (List.mem_of_getElem? (i := 7) rfl)) (by decide) (by decide)) (g := (mkF m 63 #[.val (.ref a1), .val (.ref ab), .val (.int may)] [(.ref a1)])) rfl (by rw [hml]; rfl) (Steps.refl _) (a := a1) (by rw [e26]; exact q30) q30' (argsL := []) (rest := []) (lenOf pd_2 rfl) rfl (by show 2 * 0 + _ ≤ _; exact Nat.le_of_eq rfl) (hb hby d6_63) (fun _ _ => ⟨rfl, e26, (by decide : 0 + 0 ≤ _), (by decide : 0 + 0 ≤ _)⟩)
    dsimp only [Pt.U, Pt.locs, Pt.cells, Pt.slots] at X30 l30 y30 z30 st30 hQ30
    subst l30 y30 z30
    obtain ⟨rfl, Nq30, hh30⟩ := hQ30
    have E_a1s_30 : Exa Z T30.heap a1 "com/example/fettle/fettle/regex/Counts" := by rw [hh30]; exact E_a1s_17
    have E_ab_30 : Exa Z T30.heap ab "com/example/fettle/fettle/regex/Counts" := by rw [hh30]; exact E_ab_17
    have F_oldest_ab_30 : Fld Z T30.heap ab "com/example/fettle/fettle/regex/Counts" "oldest" "[I" (.ref ob) := by rw [hh30]; exact F_oldest_ab_17
    have F_newest_ab_30 : Fld Z T30.heap ab "com/example/fettle/fettle/regex/Counts" "newest" "[I" (.ref wb) := by rw [hh30]; exact F_newest_ab_17
    have F_first_ab_30 : Fld Z T30.heap ab "com/example/fettle/fettle/regex/Counts" "first" "I" (.int fib) := by rw [hh30]; exact F_first_ab_17
    have Fx_runs_ab_30 : Fld Z T30.heap ab "com/example/fettle/fettle/regex/Counts" "runs" "I" (.int (0 : Int32)) := by rw [hh30]; exact Fx_runs_ab_17
    have F_clock_ab_30 : Fld Z T30.heap ab "com/example/fettle/fettle/regex/Counts" "clock" "I" (.int clb) := by rw [hh30]; exact F_clock_ab_17
    have F_starting_ab_30 : Fld Z T30.heap ab "com/example/fettle/fettle/regex/Counts" "starting" "Z" (.int stb) := by rw [hh30]; exact F_starting_ab_17
    have F_least_ab_30 : Fld Z T30.heap ab "com/example/fettle/fettle/regex/Counts" "least" "I" (.int leb) := by rw [hh30]; exact F_least_ab_17
    have F_most_ab_30 : Fld Z T30.heap ab "com/example/fettle/fettle/regex/Counts" "most" "I" (.int mob) := by rw [hh30]; exact F_most_ab_17
    have V_o_ab_30 : Arv Z T30.heap ob kob .int (4 : Int32) lob (.int (0 : Int32)) := by rw [hh30]; exact V_o_ab_17
    have V_w_ab_30 : Arv Z T30.heap wb kwb .int (4 : Int32) lwb (.int (0 : Int32)) := by rw [hh30]; exact V_w_ab_17
    have F_oldest_a1s_30 : Fld Z T30.heap a1 "com/example/fettle/fettle/regex/Counts" "oldest" "[I" (.ref o) := by rw [hh30]; exact F_oldest_a1s_17
    have F_newest_a1s_30 : Fld Z T30.heap a1 "com/example/fettle/fettle/regex/Counts" "newest" "[I" (.ref w) := by rw [hh30]; exact F_newest_a1s_17
    have F_first_a1s_30 : Fld Z T30.heap a1 "com/example/fettle/fettle/regex/Counts" "first" "I" (.int fi) := by rw [hh30]; exact F_first_a1s_17
    have F_runs_a1s_30 : Fld Z T30.heap a1 "com/example/fettle/fettle/regex/Counts" "runs" "I" (.int 1) := by rw [hh30]; exact F_runs_a1s_17
    have F_least_a1s_30 : Fld Z T30.heap a1 "com/example/fettle/fettle/regex/Counts" "least" "I" (.int le) := by rw [hh30]; exact F_least_a1s_17
    have F_most_a1s_30 : Fld Z T30.heap a1 "com/example/fettle/fettle/regex/Counts" "most" "I" (.int mo) := by rw [hh30]; exact F_most_a1s_17
    have V_o_a1s_30 : Arv Z T30.heap o ko .int (4 : Int32) lo (.int (0 : Int32)) := by rw [hh30]; exact V_o_a1s_17
    have V_w_a1s_30 : Arv Z T30.heap w kw .int (4 : Int32) (lw.set fi.toNatClampNeg (.int cl)) (.int (0 : Int32)) := by rw [hh30]; exact V_w_a1s_17
    have F_starting_a1_30 : Fld Z T30.heap a1 "com/example/fettle/fettle/regex/Counts" "starting" "Z" (.int (0 : Int32)) := by rw [hh30]; exact F_starting_a1_17
    have F_clock_a1_30 : Fld Z T30.heap a1 "com/example/fettle/fettle/regex/Counts" "clock" "I" (.int (cl + (1 : Int32))) := by rw [hh30]; exact F_clock_a1_17
    have Z30 : n0 ≤ T30.heap.size := by rw [hh30]; exact Z17
    have Kp30 : Keep h0 T30.heap [a1, o, w, ab] := by rw [hh30]; exact Kp17
    have N30 := Fr.app N17 Nq30
    have pre31 := fun τ (κ : Steps p.tables e below (T30.setTop (mkF m 66 #[.val (.ref a1), .val (.ref ab), .val (.int may)] [(.int (own_sec 1 ov cl (cl + (1 : Int32))))])) τ) => pre29 τ (st30.trans κ)
    have pre32 := fun τ (κ : Steps p.tables e below (T30.setTop (mkF m 67 #[.val (.ref a1), .val (.ref ab), .val (.int may)] [(.ref a1), (.int (own_sec 1 ov cl (cl + (1 : Int32))))])) τ) => pre31 τ (by
      refine XS.aloadN X30.here hx rfl (hb hby d6_66) rfl rfl ?_
      show Steps p.tables e below (T30.setTop (mkF m 67 #[.val (.ref a1), .val (.ref ab), .val (.int may)] [(.ref a1), (.int (own_sec 1 ov cl (cl + (1 : Int32))))])) _
      exact κ)
    obtain ⟨T33, X33, e33, st33⟩ := getF X30 hx hZ hown (host := "") (Or.inl (hw _ (List.mem_of_getElem? (i := 19) rfl))) Via.refl rfl F_least_a1s_30 (g := (mkF m 67 #[.val (.ref a1), .val (.ref ab), .val (.int may)] [(.ref a1), (.int (own_sec 1 ov cl (cl + (1 : Int32))))])) rfl rfl (hb hby d6_67)
    have pre34 := fun τ (κ : Steps p.tables e below (T33.setTop (mkF m 70 #[.val (.ref a1), .val (.ref ab), .val (.int may)] [(.int le), (.int (own_sec 1 ov cl (cl + (1 : Int32))))])) τ) => pre32 τ (st33 _ κ)
    by_cases q3 : (own_sec 1 ov cl (cl + (1 : Int32))) < le
    · have pre35 := fun τ (κ : Steps p.tables e below (T33.setTop (mkF m 79 #[.val (.ref a1), .val (.ref ab), .val (.int may)] [(.ref a1), (.ref ab)])) τ) => pre34 τ (by
        refine XS.icmpYes X33.here hx rfl (pc0 := 70) (pc' := 77) rfl (hb hby d6_70) rfl (tlt q3).1 (by decide) (by decide) ?_
        show Steps p.tables e below (T33.setTop (mkF m 77 #[.val (.ref a1), .val (.ref ab), .val (.int may)] [])) _
        refine XS.aloadN X33.here hx rfl (hb hby d6_77) rfl rfl ?_
        show Steps p.tables e below (T33.setTop (mkF m 78 #[.val (.ref a1), .val (.ref ab), .val (.int may)] [(.ref ab)])) _
        refine XS.aloadN X33.here hx rfl (hb hby d6_78) rfl rfl ?_
        show Steps p.tables e below (T33.setTop (mkF m 79 #[.val (.ref a1), .val (.ref ab), .val (.int may)] [(.ref a1), (.ref ab)])) _
        exact κ)
      obtain ⟨cq36, q36, q36'⟩ := E_ab_30.cell
      obtain ⟨_, _, ⟨T36, L36, k36, n36⟩, -, X36, ⟨Lc36, hQ36, l36, y36, z36⟩, st36⟩ := X33.privateBack hx (y := (⟨"com/example/fettle/fettle/regex/Counts", "join", "(Lcom/example/fettle/fettle/regex/Counts;)V"⟩ : MethodName)) hown (mvT hZ (hw _ (List.mem_of_getElem? (i := 66) rfl))) (mvT hZ (hw _ (List.mem_of_getElem? (i := 67) rfl))) (own_sel hZ (hw _ (List.mem_of_getElem? (i := 6) rfl)) (hw _ (List.mem_of_getElem? (i := 68) rfl)) (hw _ (List.mem_of_getElem? (i := 67) rfl)) (by decide)) (Cond.privateMethod_at (mvP hZ (hw _ (List.mem_of_getElem? (i := 68) rfl)) (args := #[]))) (mvT hZ (hw _ (List.mem_of_getElem? (i := 69) rfl))) (by decide) (backOf (W := 0) (rm12 l Z a0 hw [] ab a1 ob wb kob kwb fib 0 clb stb leb mob lob lwb o w ko kw fi 1 (cl + (1 : Int32)) 0 le mo lo (lw.set fi.toNatClampNeg (.int cl)) T30.heap n0 Z30 ⟨E_ab_30, F_oldest_ab_30, F_newest_ab_30, F_first_ab_30, Fx_runs_ab_30, F_clock_ab_30, F_starting_ab_30, F_least_ab_30, F_most_ab_30, V_o_ab_30, V_w_ab_30⟩ ⟨E_a1s_30, F_oldest_a1s_30, F_newest_a1s_30, F_first_a1s_30, F_runs_a1s_30, F_clock_a1_30, F_starting_a1_30, F_least_a1s_30, F_most_a1s_30, V_o_a1s_30, V_w_a1s_30⟩ rfl m6 m7 n32 (Ne.symm m1) m4 m5 m2 m3 n1 n2 g_ab g_a1) hZ (hw _ (List.mem_of_getElem? (i := 69) rfl)) (hw _ (List.mem_of_getElem? (i := 7) rfl)) (by decide) (by decide)) (g := (mkF m 79 #[.val (.ref a1), .val (.ref ab), .val (.int may)] [(.ref a1), (.ref ab)])) rfl (by rw [hml]; rfl) (Steps.refl _) (a := ab) (by rw [e33]; exact q36) q36' (argsL := [(.ref a1)]) (rest := []) (lenOf pd_3 rfl) rfl (by show 2 * 0 + _ ≤ _; exact Nat.le_of_eq rfl) (hb hby d6_79) (fun _ _ => ⟨rfl, e33, (by decide : 0 + 0 ≤ _), (by decide : 0 + 0 ≤ _)⟩)
      dsimp only [Pt.U, Pt.locs, Pt.cells, Pt.slots] at X36 l36 y36 z36 st36 hQ36
      subst l36 y36 z36
      obtain ⟨rfl, Nq36, K36, Q136, Q236⟩ := hQ36
      have E_a1s_36 : Exa Z T36.heap a1 "com/example/fettle/fettle/regex/Counts" := E_a1s_30.keep K36
      have E_ab_36 : Exa Z T36.heap ab "com/example/fettle/fettle/regex/Counts" := E_ab_30.keep K36
      have V_o_ab_36 : Arv Z T36.heap ob kob .int (4 : Int32) lob (.int (0 : Int32)) := V_o_ab_30.keep K36 (ninS (Ne.symm m6) (ninS (Ne.symm m2) nin0))
      have V_w_ab_36 : Arv Z T36.heap wb kwb .int (4 : Int32) lwb (.int (0 : Int32)) := V_w_ab_30.keep K36 (ninS (Ne.symm m7) (ninS (Ne.symm m3) nin0))
      have V_o_a1s_36 : Arv Z T36.heap o ko .int (4 : Int32) lo (.int (0 : Int32)) := V_o_a1s_30.keep K36 (ninS (Ne.symm m4) (ninS (Ne.symm n1) nin0))
      have V_w_a1s_36 : Arv Z T36.heap w kw .int (4 : Int32) (lw.set fi.toNatClampNeg (.int cl)) (.int (0 : Int32)) := V_w_a1s_30.keep K36 (ninS (Ne.symm m5) (ninS (Ne.symm n2) nin0))
      have Z36 : n0 ≤ T36.heap.size := Nat.le_trans Z30 K36.1
      have Kp36 : Keep h0 T36.heap [a1, o, w, ab] := Kp30.trans K36 (allS (Or.inl (List.mem_of_getElem? (i := 3) rfl)) (allS (Or.inl (List.mem_of_getElem? (i := 0) rfl)) all0))
      have N36 := Fr.app N30 Nq36
      have pre37 := fun τ (κ : Steps p.tables e below (T36.setTop (mkF m 82 #[.val (.ref a1), .val (.ref ab), .val (.int may)] [])) τ) => pre35 τ (st36.trans κ)
      have pre38 := fun τ (κ : Steps p.tables e below (T36.setTop (mkF m 83 #[.val (.ref a1), .val (.ref ab), .val (.int may)] [(.int may)])) τ) => pre37 τ (by
        refine XS.iloadN X36.here hx rfl (hb hby d6_82) rfl ?_
        show Steps p.tables e below (T36.setTop (mkF m 83 #[.val (.ref a1), .val (.ref ab), .val (.int may)] [(.int may)])) _
        exact κ)
      obtain ⟨b0, -, -, -, b4, -, b6, -⟩ := Q136
      obtain ⟨a0', -, -, -, a4, -, a6, -⟩ := Q236
      obtain ⟨fs, hr, hrun, hended, hW, hsame⟩ := X36.leave (v := some (.int (nar .boolean may))) (fun h => by rw [Bd.returns] at h; cases h)
      refine ⟨_, _, pre38 _ ?_, hrun, hended, _, _, rfl, ?_, ⟨_, rfl⟩, hW, hsame.mono (by decide) (by decide)⟩
      · exact retN X36 hx (t := .boolean) Bd.returns (by simp) (hb hby d6_83) hr
      · show Q6b Z a1 ab o w ko kw fi ru cl st le mo lo lw ob wb kob kwb fib rub clb stb leb mob lob lwb ov h0 n0 _ T36.heap _
        exact ⟨_, rfl, N36, Kp36, a0', a4, a6, b0, b6, b4⟩
    · have pre39 := fun τ (κ : Steps p.tables e below (T33.setTop (mkF m 74 #[.val (.ref a1), .val (.ref ab), .val (.int may)] [(.ref a1)])) τ) => pre34 τ (by
        refine XS.icmpNo X33.here hx rfl (hb hby d6_70) rfl (flt q3).1 ?_
        show Steps p.tables e below (T33.setTop (mkF m 73 #[.val (.ref a1), .val (.ref ab), .val (.int may)] [])) _
        refine XS.aloadN X33.here hx rfl (hb hby d6_73) rfl rfl ?_
        show Steps p.tables e below (T33.setTop (mkF m 74 #[.val (.ref a1), .val (.ref ab), .val (.int may)] [(.ref a1)])) _
        exact κ)
      obtain ⟨cq40, q40, q40'⟩ := E_a1s_30.cell
      obtain ⟨_, _, ⟨T40, L40, k40, n40⟩, -, X40, ⟨Lc40, hQ40, l40, y40, z40⟩, st40⟩ := X33.privateBack hx (y := (⟨"com/example/fettle/fettle/regex/Counts", "dropLargest", "()V"⟩ : MethodName)) hown (mvT hZ (hw _ (List.mem_of_getElem? (i := 74) rfl))) (mvT hZ (hw _ (List.mem_of_getElem? (i := 75) rfl))) (own_sel hZ (hw _ (List.mem_of_getElem? (i := 6) rfl)) (hw _ (List.mem_of_getElem? (i := 76) rfl)) (hw _ (List.mem_of_getElem? (i := 75) rfl)) (by decide)) (Cond.privateMethod_at (mvP hZ (hw _ (List.mem_of_getElem? (i := 76) rfl)) (args := #[]))) (mvT hZ (hw _ (List.mem_of_getElem? (i := 77) rfl))) (by decide) (backOf (W := 0) (rm14b l Z a0 hw [] a1 o w ko kw fi 1 (cl + (1 : Int32)) 0 le mo lo (lw.set fi.toNatClampNeg (.int cl)) ov cl T30.heap n0 Z30 ⟨E_a1s_30, F_oldest_a1s_30, F_newest_a1s_30, F_first_a1s_30, F_runs_a1s_30, F_clock_a1_30, F_starting_a1_30, F_least_a1s_30, F_most_a1s_30, V_o_a1s_30, V_w_a1s_30⟩ hne hfi hov hnv hlo' n1 n2 n3 g_a1 g_o g_w) hZ (hw _ (List.mem_of_getElem? (i := 77) rfl)) (hw _ (List.mem_of_getElem? (i := 7) rfl)) (by decide) (by decide)) (g := (mkF m 74 #[.val (.ref a1), .val (.ref ab), .val (.int may)] [(.ref a1)])) rfl (by rw [hml]; rfl) (Steps.refl _) (a := a1) (by rw [e33]; exact q40) q40' (argsL := []) (rest := []) (lenOf pd_4 rfl) rfl (by show 2 * 0 + _ ≤ _; exact Nat.le_of_eq rfl) (hb hby d6_74) (fun _ _ => ⟨rfl, e33, (by decide : 0 + 0 ≤ _), (by decide : 0 + 0 ≤ _)⟩)
      dsimp only [Pt.U, Pt.locs, Pt.cells, Pt.slots] at X40 l40 y40 z40 st40 hQ40
      subst l40 y40 z40
      obtain ⟨rfl, Nq40, K40, P40⟩ := hQ40
      have E_a1s_40 : Exa Z T40.heap a1 "com/example/fettle/fettle/regex/Counts" := E_a1s_30.keep K40
      have E_ab_40 : Exa Z T40.heap ab "com/example/fettle/fettle/regex/Counts" := E_ab_30.keep K40
      have F_oldest_ab_40 : Fld Z T40.heap ab "com/example/fettle/fettle/regex/Counts" "oldest" "[I" (.ref ob) := F_oldest_ab_30.keep K40 (ninS (Ne.symm m1) (ninS m4 nin0))
      have F_newest_ab_40 : Fld Z T40.heap ab "com/example/fettle/fettle/regex/Counts" "newest" "[I" (.ref wb) := F_newest_ab_30.keep K40 (ninS (Ne.symm m1) (ninS m4 nin0))
      have F_first_ab_40 : Fld Z T40.heap ab "com/example/fettle/fettle/regex/Counts" "first" "I" (.int fib) := F_first_ab_30.keep K40 (ninS (Ne.symm m1) (ninS m4 nin0))
      have Fx_runs_ab_40 : Fld Z T40.heap ab "com/example/fettle/fettle/regex/Counts" "runs" "I" (.int (0 : Int32)) := Fx_runs_ab_30.keep K40 (ninS (Ne.symm m1) (ninS m4 nin0))
      have F_clock_ab_40 : Fld Z T40.heap ab "com/example/fettle/fettle/regex/Counts" "clock" "I" (.int clb) := F_clock_ab_30.keep K40 (ninS (Ne.symm m1) (ninS m4 nin0))
      have F_starting_ab_40 : Fld Z T40.heap ab "com/example/fettle/fettle/regex/Counts" "starting" "Z" (.int stb) := F_starting_ab_30.keep K40 (ninS (Ne.symm m1) (ninS m4 nin0))
      have F_least_ab_40 : Fld Z T40.heap ab "com/example/fettle/fettle/regex/Counts" "least" "I" (.int leb) := F_least_ab_30.keep K40 (ninS (Ne.symm m1) (ninS m4 nin0))
      have F_most_ab_40 : Fld Z T40.heap ab "com/example/fettle/fettle/regex/Counts" "most" "I" (.int mob) := F_most_ab_30.keep K40 (ninS (Ne.symm m1) (ninS m4 nin0))
      have V_o_ab_40 : Arv Z T40.heap ob kob .int (4 : Int32) lob (.int (0 : Int32)) := V_o_ab_30.keep K40 (ninS (Ne.symm m2) (ninS (Ne.symm k1) nin0))
      have V_w_ab_40 : Arv Z T40.heap wb kwb .int (4 : Int32) lwb (.int (0 : Int32)) := V_w_ab_30.keep K40 (ninS (Ne.symm m3) (ninS (Ne.symm k2) nin0))
      have V_w_a1s_40 : Arv Z T40.heap w kw .int (4 : Int32) (lw.set fi.toNatClampNeg (.int cl)) (.int (0 : Int32)) := V_w_a1s_30.keep K40 (ninS (Ne.symm n2) (ninS (Ne.symm n3) nin0))
      have Z40 : n0 ≤ T40.heap.size := Nat.le_trans Z30 K40.1
      have Kp40 : Keep h0 T40.heap [a1, o, w, ab] := Kp30.trans K40 (allS (Or.inl (List.mem_of_getElem? (i := 0) rfl)) (allS (Or.inl (List.mem_of_getElem? (i := 1) rfl)) all0))
      have N40 := Fr.app N30 Nq40
      have pre41 := fun τ (κ : Steps p.tables e below (T40.setTop (mkF m 77 #[.val (.ref a1), .val (.ref ab), .val (.int may)] [])) τ) => pre39 τ (st40.trans κ)
      obtain ⟨E_a1d, F_oldest_a1d, F_newest_a1d, F_first_a1d, F_runs_a1d, F_clock_a1d, F_starting_a1d, F_least_a1d, F_most_a1d, V_o_a1d, V_w_a1d⟩ := P40
      have pre42 := fun τ (κ : Steps p.tables e below (T40.setTop (mkF m 79 #[.val (.ref a1), .val (.ref ab), .val (.int may)] [(.ref a1), (.ref ab)])) τ) => pre41 τ (by
        refine XS.aloadN X40.here hx rfl (hb hby d6_77) rfl rfl ?_
        show Steps p.tables e below (T40.setTop (mkF m 78 #[.val (.ref a1), .val (.ref ab), .val (.int may)] [(.ref ab)])) _
        refine XS.aloadN X40.here hx rfl (hb hby d6_78) rfl rfl ?_
        show Steps p.tables e below (T40.setTop (mkF m 79 #[.val (.ref a1), .val (.ref ab), .val (.int may)] [(.ref a1), (.ref ab)])) _
        exact κ)
      obtain ⟨cq43, q43, q43'⟩ := E_ab_40.cell
      obtain ⟨_, _, ⟨T43, L43, k43, n43⟩, -, X43, ⟨Lc43, hQ43, l43, y43, z43⟩, st43⟩ := X40.privateBack hx (y := (⟨"com/example/fettle/fettle/regex/Counts", "join", "(Lcom/example/fettle/fettle/regex/Counts;)V"⟩ : MethodName)) hown (mvT hZ (hw _ (List.mem_of_getElem? (i := 66) rfl))) (mvT hZ (hw _ (List.mem_of_getElem? (i := 67) rfl))) (own_sel hZ (hw _ (List.mem_of_getElem? (i := 6) rfl)) (hw _ (List.mem_of_getElem? (i := 68) rfl)) (hw _ (List.mem_of_getElem? (i := 67) rfl)) (by decide)) (Cond.privateMethod_at (mvP hZ (hw _ (List.mem_of_getElem? (i := 68) rfl)) (args := #[]))) (mvT hZ (hw _ (List.mem_of_getElem? (i := 69) rfl))) (by decide) (backOf (W := 0) (rm12 l Z a0 hw [] ab a1 ob wb kob kwb fib 0 clb stb leb mob lob lwb o w ko kw fi 1 (cl + (1 : Int32)) 0 le mo (lo.set fi.toNatClampNeg (.int (ov + 1))) (lw.set fi.toNatClampNeg (.int cl)) T40.heap n0 Z40 ⟨E_ab_40, F_oldest_ab_40, F_newest_ab_40, F_first_ab_40, Fx_runs_ab_40, F_clock_ab_40, F_starting_ab_40, F_least_ab_40, F_most_ab_40, V_o_ab_40, V_w_ab_40⟩ ⟨E_a1d, F_oldest_a1d, F_newest_a1d, F_first_a1d, F_runs_a1d, F_clock_a1d, F_starting_a1d, F_least_a1d, F_most_a1d, V_o_a1d, V_w_a1d⟩ rfl m6 m7 n32 (Ne.symm m1) m4 m5 m2 m3 n1 n2 g_ab g_a1) hZ (hw _ (List.mem_of_getElem? (i := 69) rfl)) (hw _ (List.mem_of_getElem? (i := 7) rfl)) (by decide) (by decide)) (g := (mkF m 79 #[.val (.ref a1), .val (.ref ab), .val (.int may)] [(.ref a1), (.ref ab)])) rfl (by rw [hml]; rfl) (Steps.refl _) (a := ab) q43 q43' (argsL := [(.ref a1)]) (rest := []) (lenOf pd_3 rfl) rfl (by show 2 * 0 + _ ≤ _; exact Nat.le_of_eq rfl) (hb hby d6_79) (fun _ _ => ⟨rfl, rfl, (by decide : 0 + 0 ≤ _), (by decide : 0 + 0 ≤ _)⟩)
      dsimp only [Pt.U, Pt.locs, Pt.cells, Pt.slots] at X43 l43 y43 z43 st43 hQ43
      subst l43 y43 z43
      obtain ⟨rfl, Nq43, K43, Q143, Q243⟩ := hQ43
      have E_a1d_43 : Exa Z T43.heap a1 "com/example/fettle/fettle/regex/Counts" := E_a1d.keep K43
      have E_ab_43 : Exa Z T43.heap ab "com/example/fettle/fettle/regex/Counts" := E_ab_40.keep K43
      have V_o_ab_43 : Arv Z T43.heap ob kob .int (4 : Int32) lob (.int (0 : Int32)) := V_o_ab_40.keep K43 (ninS (Ne.symm m6) (ninS (Ne.symm m2) nin0))
      have V_w_ab_43 : Arv Z T43.heap wb kwb .int (4 : Int32) lwb (.int (0 : Int32)) := V_w_ab_40.keep K43 (ninS (Ne.symm m7) (ninS (Ne.symm m3) nin0))
      have V_w_a1d_43 : Arv Z T43.heap w kw .int (4 : Int32) (lw.set fi.toNatClampNeg (.int cl)) (.int (0 : Int32)) := V_w_a1d.keep K43 (ninS (Ne.symm m5) (ninS (Ne.symm n2) nin0))
      have V_o_a1d_43 : Arv Z T43.heap o ko .int (4 : Int32) (lo.set fi.toNatClampNeg (.int (ov + 1))) (.int (0 : Int32)) := V_o_a1d.keep K43 (ninS (Ne.symm m4) (ninS (Ne.symm n1) nin0))
      have Z43 : n0 ≤ T43.heap.size := Nat.le_trans Z40 K43.1
      have Kp43 : Keep h0 T43.heap [a1, o, w, ab] := Kp40.trans K43 (allS (Or.inl (List.mem_of_getElem? (i := 3) rfl)) (allS (Or.inl (List.mem_of_getElem? (i := 0) rfl)) all0))
      have N43 := Fr.app N40 Nq43
      have pre44 := fun τ (κ : Steps p.tables e below (T43.setTop (mkF m 82 #[.val (.ref a1), .val (.ref ab), .val (.int may)] [])) τ) => pre42 τ (st43.trans κ)
      have pre45 := fun τ (κ : Steps p.tables e below (T43.setTop (mkF m 83 #[.val (.ref a1), .val (.ref ab), .val (.int may)] [(.int may)])) τ) => pre44 τ (by
        refine XS.iloadN X43.here hx rfl (hb hby d6_82) rfl ?_
        show Steps p.tables e below (T43.setTop (mkF m 83 #[.val (.ref a1), .val (.ref ab), .val (.int may)] [(.int may)])) _
        exact κ)
      obtain ⟨b0, -, -, -, b4, -, b6, -⟩ := Q143
      obtain ⟨a0', -, -, -, a4, -, a6, -⟩ := Q243
      obtain ⟨fs, hr, hrun, hended, hW, hsame⟩ := X43.leave (v := some (.int (nar .boolean may))) (fun h => by rw [Bd.returns] at h; cases h)
      refine ⟨_, _, pre45 _ ?_, hrun, hended, _, _, rfl, ?_, ⟨_, rfl⟩, hW, hsame.mono (by decide) (by decide)⟩
      · exact retN X43 hx (t := .boolean) Bd.returns (by simp) (hb hby d6_83) hr
      · show Q6b Z a1 ab o w ko kw fi ru cl st le mo lo lw ob wb kob kwb fib rub clb stb leb mob lob lwb ov h0 n0 _ T43.heap _
        exact ⟨_, rfl, N43, Kp43, a0', a4, a6, b0, b6, b4⟩
  · have pre46 := fun τ (κ : Steps p.tables e below (T26.setTop (mkF m 52 #[.val (.ref a1), .val (.ref ab), .val (.int may)] [(.ref a1)])) τ) => pre28 τ (by
      refine XS.icmpNo X26.here hx rfl (hb hby d6_48) rfl (feq q1).1 ?_
      show Steps p.tables e below (T26.setTop (mkF m 51 #[.val (.ref a1), .val (.ref ab), .val (.int may)] [])) _
      refine XS.aloadN X26.here hx rfl (hb hby d6_51) rfl rfl ?_
      show Steps p.tables e below (T26.setTop (mkF m 52 #[.val (.ref a1), .val (.ref ab), .val (.int may)] [(.ref a1)])) _
      exact κ)
    obtain ⟨cq47, q47, q47'⟩ := E_a1s_17.cell
    obtain ⟨_, _, ⟨T47, L47, k47, n47⟩, -, X47, ⟨Lc47, hQ47, l47, y47, z47⟩, st47⟩ := X26.privateBack hx (y := (⟨"com/example/fettle/fettle/regex/Counts", "largest", "()I"⟩ : MethodName)) hown (mvT hZ (hw _ (List.mem_of_getElem? (i := 58) rfl))) (mvT hZ (hw _ (List.mem_of_getElem? (i := 59) rfl))) (own_sel hZ (hw _ (List.mem_of_getElem? (i := 6) rfl)) (hw _ (List.mem_of_getElem? (i := 60) rfl)) (hw _ (List.mem_of_getElem? (i := 59) rfl)) (by decide)) (Cond.privateMethod_at (mvP hZ (hw _ (List.mem_of_getElem? (i := 60) rfl)) (args := #[]))) (mvT hZ (hw _ (List.mem_of_getElem? (i := 61) rfl))) (by decide) (backOf (W := 0) (rm10 l Z a0 hw [] a1 o ko fi (cl + (1 : Int32)) ov lo T17.heap n0 Z17 F_clock_a1_17 F_oldest_a1s_17 F_first_a1s_17 V_o_a1s_17 hfi hov) hZ (hw _ (List.mem_of_getElem? (i := 61) rfl)) (hw _ (List.mem_of_getElem? (i := 7) rfl)) (by decide) (by decide)) (g := (mkF m 52 #[.val (.ref a1), .val (.ref ab), .val (.int may)] [(.ref a1)])) rfl (by rw [hml]; rfl) (Steps.refl _) (a := a1) (by rw [e26]; exact q47) q47' (argsL := []) (rest := []) (lenOf pd_2 rfl) rfl (by show 2 * 0 + _ ≤ _; exact Nat.le_of_eq rfl) (hb hby d6_52) (fun _ _ => ⟨rfl, e26, (by decide : 0 + 0 ≤ _), (by decide : 0 + 0 ≤ _)⟩)
    dsimp only [Pt.U, Pt.locs, Pt.cells, Pt.slots] at X47 l47 y47 z47 st47 hQ47
    subst l47 y47 z47
    obtain ⟨rfl, Nq47, hh47⟩ := hQ47
    have E_a1s_47 : Exa Z T47.heap a1 "com/example/fettle/fettle/regex/Counts" := by rw [hh47]; exact E_a1s_17
    have E_ab_47 : Exa Z T47.heap ab "com/example/fettle/fettle/regex/Counts" := by rw [hh47]; exact E_ab_17
    have F_oldest_ab_47 : Fld Z T47.heap ab "com/example/fettle/fettle/regex/Counts" "oldest" "[I" (.ref ob) := by rw [hh47]; exact F_oldest_ab_17
    have F_newest_ab_47 : Fld Z T47.heap ab "com/example/fettle/fettle/regex/Counts" "newest" "[I" (.ref wb) := by rw [hh47]; exact F_newest_ab_17
    have F_first_ab_47 : Fld Z T47.heap ab "com/example/fettle/fettle/regex/Counts" "first" "I" (.int fib) := by rw [hh47]; exact F_first_ab_17
    have Fx_runs_ab_47 : Fld Z T47.heap ab "com/example/fettle/fettle/regex/Counts" "runs" "I" (.int (0 : Int32)) := by rw [hh47]; exact Fx_runs_ab_17
    have F_clock_ab_47 : Fld Z T47.heap ab "com/example/fettle/fettle/regex/Counts" "clock" "I" (.int clb) := by rw [hh47]; exact F_clock_ab_17
    have F_starting_ab_47 : Fld Z T47.heap ab "com/example/fettle/fettle/regex/Counts" "starting" "Z" (.int stb) := by rw [hh47]; exact F_starting_ab_17
    have F_least_ab_47 : Fld Z T47.heap ab "com/example/fettle/fettle/regex/Counts" "least" "I" (.int leb) := by rw [hh47]; exact F_least_ab_17
    have F_most_ab_47 : Fld Z T47.heap ab "com/example/fettle/fettle/regex/Counts" "most" "I" (.int mob) := by rw [hh47]; exact F_most_ab_17
    have V_o_ab_47 : Arv Z T47.heap ob kob .int (4 : Int32) lob (.int (0 : Int32)) := by rw [hh47]; exact V_o_ab_17
    have V_w_ab_47 : Arv Z T47.heap wb kwb .int (4 : Int32) lwb (.int (0 : Int32)) := by rw [hh47]; exact V_w_ab_17
    have F_oldest_a1s_47 : Fld Z T47.heap a1 "com/example/fettle/fettle/regex/Counts" "oldest" "[I" (.ref o) := by rw [hh47]; exact F_oldest_a1s_17
    have F_newest_a1s_47 : Fld Z T47.heap a1 "com/example/fettle/fettle/regex/Counts" "newest" "[I" (.ref w) := by rw [hh47]; exact F_newest_a1s_17
    have F_first_a1s_47 : Fld Z T47.heap a1 "com/example/fettle/fettle/regex/Counts" "first" "I" (.int fi) := by rw [hh47]; exact F_first_a1s_17
    have F_runs_a1s_47 : Fld Z T47.heap a1 "com/example/fettle/fettle/regex/Counts" "runs" "I" (.int 1) := by rw [hh47]; exact F_runs_a1s_17
    have F_least_a1s_47 : Fld Z T47.heap a1 "com/example/fettle/fettle/regex/Counts" "least" "I" (.int le) := by rw [hh47]; exact F_least_a1s_17
    have F_most_a1s_47 : Fld Z T47.heap a1 "com/example/fettle/fettle/regex/Counts" "most" "I" (.int mo) := by rw [hh47]; exact F_most_a1s_17
    have V_o_a1s_47 : Arv Z T47.heap o ko .int (4 : Int32) lo (.int (0 : Int32)) := by rw [hh47]; exact V_o_a1s_17
    have V_w_a1s_47 : Arv Z T47.heap w kw .int (4 : Int32) (lw.set fi.toNatClampNeg (.int cl)) (.int (0 : Int32)) := by rw [hh47]; exact V_w_a1s_17
    have F_starting_a1_47 : Fld Z T47.heap a1 "com/example/fettle/fettle/regex/Counts" "starting" "Z" (.int (0 : Int32)) := by rw [hh47]; exact F_starting_a1_17
    have F_clock_a1_47 : Fld Z T47.heap a1 "com/example/fettle/fettle/regex/Counts" "clock" "I" (.int (cl + (1 : Int32))) := by rw [hh47]; exact F_clock_a1_17
    have Z47 : n0 ≤ T47.heap.size := by rw [hh47]; exact Z17
    have Kp47 : Keep h0 T47.heap [a1, o, w, ab] := by rw [hh47]; exact Kp17
    have N47 := Fr.app N17 Nq47
    have pre48 := fun τ (κ : Steps p.tables e below (T47.setTop (mkF m 55 #[.val (.ref a1), .val (.ref ab), .val (.int may)] [(.int ((cl + (1 : Int32)) - ov))])) τ) => pre46 τ (st47.trans κ)
    have pre49 := fun τ (κ : Steps p.tables e below (T47.setTop (mkF m 56 #[.val (.ref a1), .val (.ref ab), .val (.int may)] [(.ref a1), (.int ((cl + (1 : Int32)) - ov))])) τ) => pre48 τ (by
      refine XS.aloadN X47.here hx rfl (hb hby d6_55) rfl rfl ?_
      show Steps p.tables e below (T47.setTop (mkF m 56 #[.val (.ref a1), .val (.ref ab), .val (.int may)] [(.ref a1), (.int ((cl + (1 : Int32)) - ov))])) _
      exact κ)
    obtain ⟨T50, X50, e50, st50⟩ := getF X47 hx hZ hown (host := "") (Or.inl (hw _ (List.mem_of_getElem? (i := 21) rfl))) Via.refl rfl F_most_a1s_47 (g := (mkF m 56 #[.val (.ref a1), .val (.ref ab), .val (.int may)] [(.ref a1), (.int ((cl + (1 : Int32)) - ov))])) rfl rfl (hb hby d6_56)
    have pre51 := fun τ (κ : Steps p.tables e below (T50.setTop (mkF m 59 #[.val (.ref a1), .val (.ref ab), .val (.int may)] [(.int mo), (.int ((cl + (1 : Int32)) - ov))])) τ) => pre49 τ (st50 _ κ)
    by_cases q2 : ((cl + (1 : Int32)) - ov) = mo
    · have pre52 := fun τ (κ : Steps p.tables e below (T50.setTop (mkF m 74 #[.val (.ref a1), .val (.ref ab), .val (.int may)] [(.ref a1)])) τ) => pre51 τ (by
        refine XS.icmpYes X50.here hx rfl (pc0 := 59) (pc' := 73) rfl (hb hby d6_59) rfl (teq q2).1 (by decide) (by decide) ?_
        show Steps p.tables e below (T50.setTop (mkF m 73 #[.val (.ref a1), .val (.ref ab), .val (.int may)] [])) _
        refine XS.aloadN X50.here hx rfl (hb hby d6_73) rfl rfl ?_
        show Steps p.tables e below (T50.setTop (mkF m 74 #[.val (.ref a1), .val (.ref ab), .val (.int may)] [(.ref a1)])) _
        exact κ)
      obtain ⟨cq53, q53, q53'⟩ := E_a1s_47.cell
      obtain ⟨_, _, ⟨T53, L53, k53, n53⟩, -, X53, ⟨Lc53, hQ53, l53, y53, z53⟩, st53⟩ := X50.privateBack hx (y := (⟨"com/example/fettle/fettle/regex/Counts", "dropLargest", "()V"⟩ : MethodName)) hown (mvT hZ (hw _ (List.mem_of_getElem? (i := 74) rfl))) (mvT hZ (hw _ (List.mem_of_getElem? (i := 75) rfl))) (own_sel hZ (hw _ (List.mem_of_getElem? (i := 6) rfl)) (hw _ (List.mem_of_getElem? (i := 76) rfl)) (hw _ (List.mem_of_getElem? (i := 75) rfl)) (by decide)) (Cond.privateMethod_at (mvP hZ (hw _ (List.mem_of_getElem? (i := 76) rfl)) (args := #[]))) (mvT hZ (hw _ (List.mem_of_getElem? (i := 77) rfl))) (by decide) (backOf (W := 0) (rm14b l Z a0 hw [] a1 o w ko kw fi 1 (cl + (1 : Int32)) 0 le mo lo (lw.set fi.toNatClampNeg (.int cl)) ov cl T47.heap n0 Z47 ⟨E_a1s_47, F_oldest_a1s_47, F_newest_a1s_47, F_first_a1s_47, F_runs_a1s_47, F_clock_a1_47, F_starting_a1_47, F_least_a1s_47, F_most_a1s_47, V_o_a1s_47, V_w_a1s_47⟩ hne hfi hov hnv hlo' n1 n2 n3 g_a1 g_o g_w) hZ (hw _ (List.mem_of_getElem? (i := 77) rfl)) (hw _ (List.mem_of_getElem? (i := 7) rfl)) (by decide) (by decide)) (g := (mkF m 74 #[.val (.ref a1), .val (.ref ab), .val (.int may)] [(.ref a1)])) rfl (by rw [hml]; rfl) (Steps.refl _) (a := a1) (by rw [e50]; exact q53) q53' (argsL := []) (rest := []) (lenOf pd_4 rfl) rfl (by show 2 * 0 + _ ≤ _; exact Nat.le_of_eq rfl) (hb hby d6_74) (fun _ _ => ⟨rfl, e50, (by decide : 0 + 0 ≤ _), (by decide : 0 + 0 ≤ _)⟩)
      dsimp only [Pt.U, Pt.locs, Pt.cells, Pt.slots] at X53 l53 y53 z53 st53 hQ53
      subst l53 y53 z53
      obtain ⟨rfl, Nq53, K53, P53⟩ := hQ53
      have E_a1s_53 : Exa Z T53.heap a1 "com/example/fettle/fettle/regex/Counts" := E_a1s_47.keep K53
      have E_ab_53 : Exa Z T53.heap ab "com/example/fettle/fettle/regex/Counts" := E_ab_47.keep K53
      have F_oldest_ab_53 : Fld Z T53.heap ab "com/example/fettle/fettle/regex/Counts" "oldest" "[I" (.ref ob) := F_oldest_ab_47.keep K53 (ninS (Ne.symm m1) (ninS m4 nin0))
      have F_newest_ab_53 : Fld Z T53.heap ab "com/example/fettle/fettle/regex/Counts" "newest" "[I" (.ref wb) := F_newest_ab_47.keep K53 (ninS (Ne.symm m1) (ninS m4 nin0))
      have F_first_ab_53 : Fld Z T53.heap ab "com/example/fettle/fettle/regex/Counts" "first" "I" (.int fib) := F_first_ab_47.keep K53 (ninS (Ne.symm m1) (ninS m4 nin0))
      have Fx_runs_ab_53 : Fld Z T53.heap ab "com/example/fettle/fettle/regex/Counts" "runs" "I" (.int (0 : Int32)) := Fx_runs_ab_47.keep K53 (ninS (Ne.symm m1) (ninS m4 nin0))
      have F_clock_ab_53 : Fld Z T53.heap ab "com/example/fettle/fettle/regex/Counts" "clock" "I" (.int clb) := F_clock_ab_47.keep K53 (ninS (Ne.symm m1) (ninS m4 nin0))
      have F_starting_ab_53 : Fld Z T53.heap ab "com/example/fettle/fettle/regex/Counts" "starting" "Z" (.int stb) := F_starting_ab_47.keep K53 (ninS (Ne.symm m1) (ninS m4 nin0))
      have F_least_ab_53 : Fld Z T53.heap ab "com/example/fettle/fettle/regex/Counts" "least" "I" (.int leb) := F_least_ab_47.keep K53 (ninS (Ne.symm m1) (ninS m4 nin0))
      have F_most_ab_53 : Fld Z T53.heap ab "com/example/fettle/fettle/regex/Counts" "most" "I" (.int mob) := F_most_ab_47.keep K53 (ninS (Ne.symm m1) (ninS m4 nin0))
      have V_o_ab_53 : Arv Z T53.heap ob kob .int (4 : Int32) lob (.int (0 : Int32)) := V_o_ab_47.keep K53 (ninS (Ne.symm m2) (ninS (Ne.symm k1) nin0))
      have V_w_ab_53 : Arv Z T53.heap wb kwb .int (4 : Int32) lwb (.int (0 : Int32)) := V_w_ab_47.keep K53 (ninS (Ne.symm m3) (ninS (Ne.symm k2) nin0))
      have V_w_a1s_53 : Arv Z T53.heap w kw .int (4 : Int32) (lw.set fi.toNatClampNeg (.int cl)) (.int (0 : Int32)) := V_w_a1s_47.keep K53 (ninS (Ne.symm n2) (ninS (Ne.symm n3) nin0))
      have Z53 : n0 ≤ T53.heap.size := Nat.le_trans Z47 K53.1
      have Kp53 : Keep h0 T53.heap [a1, o, w, ab] := Kp47.trans K53 (allS (Or.inl (List.mem_of_getElem? (i := 0) rfl)) (allS (Or.inl (List.mem_of_getElem? (i := 1) rfl)) all0))
      have N53 := Fr.app N47 Nq53
      have pre54 := fun τ (κ : Steps p.tables e below (T53.setTop (mkF m 77 #[.val (.ref a1), .val (.ref ab), .val (.int may)] [])) τ) => pre52 τ (st53.trans κ)
      obtain ⟨E_a1d, F_oldest_a1d, F_newest_a1d, F_first_a1d, F_runs_a1d, F_clock_a1d, F_starting_a1d, F_least_a1d, F_most_a1d, V_o_a1d, V_w_a1d⟩ := P53
      have pre55 := fun τ (κ : Steps p.tables e below (T53.setTop (mkF m 79 #[.val (.ref a1), .val (.ref ab), .val (.int may)] [(.ref a1), (.ref ab)])) τ) => pre54 τ (by
        refine XS.aloadN X53.here hx rfl (hb hby d6_77) rfl rfl ?_
        show Steps p.tables e below (T53.setTop (mkF m 78 #[.val (.ref a1), .val (.ref ab), .val (.int may)] [(.ref ab)])) _
        refine XS.aloadN X53.here hx rfl (hb hby d6_78) rfl rfl ?_
        show Steps p.tables e below (T53.setTop (mkF m 79 #[.val (.ref a1), .val (.ref ab), .val (.int may)] [(.ref a1), (.ref ab)])) _
        exact κ)
      obtain ⟨cq56, q56, q56'⟩ := E_ab_53.cell
      obtain ⟨_, _, ⟨T56, L56, k56, n56⟩, -, X56, ⟨Lc56, hQ56, l56, y56, z56⟩, st56⟩ := X53.privateBack hx (y := (⟨"com/example/fettle/fettle/regex/Counts", "join", "(Lcom/example/fettle/fettle/regex/Counts;)V"⟩ : MethodName)) hown (mvT hZ (hw _ (List.mem_of_getElem? (i := 66) rfl))) (mvT hZ (hw _ (List.mem_of_getElem? (i := 67) rfl))) (own_sel hZ (hw _ (List.mem_of_getElem? (i := 6) rfl)) (hw _ (List.mem_of_getElem? (i := 68) rfl)) (hw _ (List.mem_of_getElem? (i := 67) rfl)) (by decide)) (Cond.privateMethod_at (mvP hZ (hw _ (List.mem_of_getElem? (i := 68) rfl)) (args := #[]))) (mvT hZ (hw _ (List.mem_of_getElem? (i := 69) rfl))) (by decide) (backOf (W := 0) (rm12 l Z a0 hw [] ab a1 ob wb kob kwb fib 0 clb stb leb mob lob lwb o w ko kw fi 1 (cl + (1 : Int32)) 0 le mo (lo.set fi.toNatClampNeg (.int (ov + 1))) (lw.set fi.toNatClampNeg (.int cl)) T53.heap n0 Z53 ⟨E_ab_53, F_oldest_ab_53, F_newest_ab_53, F_first_ab_53, Fx_runs_ab_53, F_clock_ab_53, F_starting_ab_53, F_least_ab_53, F_most_ab_53, V_o_ab_53, V_w_ab_53⟩ ⟨E_a1d, F_oldest_a1d, F_newest_a1d, F_first_a1d, F_runs_a1d, F_clock_a1d, F_starting_a1d, F_least_a1d, F_most_a1d, V_o_a1d, V_w_a1d⟩ rfl m6 m7 n32 (Ne.symm m1) m4 m5 m2 m3 n1 n2 g_ab g_a1) hZ (hw _ (List.mem_of_getElem? (i := 69) rfl)) (hw _ (List.mem_of_getElem? (i := 7) rfl)) (by decide) (by decide)) (g := (mkF m 79 #[.val (.ref a1), .val (.ref ab), .val (.int may)] [(.ref a1), (.ref ab)])) rfl (by rw [hml]; rfl) (Steps.refl _) (a := ab) q56 q56' (argsL := [(.ref a1)]) (rest := []) (lenOf pd_3 rfl) rfl (by show 2 * 0 + _ ≤ _; exact Nat.le_of_eq rfl) (hb hby d6_79) (fun _ _ => ⟨rfl, rfl, (by decide : 0 + 0 ≤ _), (by decide : 0 + 0 ≤ _)⟩)
      dsimp only [Pt.U, Pt.locs, Pt.cells, Pt.slots] at X56 l56 y56 z56 st56 hQ56
      subst l56 y56 z56
      obtain ⟨rfl, Nq56, K56, Q156, Q256⟩ := hQ56
      have E_a1d_56 : Exa Z T56.heap a1 "com/example/fettle/fettle/regex/Counts" := E_a1d.keep K56
      have E_ab_56 : Exa Z T56.heap ab "com/example/fettle/fettle/regex/Counts" := E_ab_53.keep K56
      have V_o_ab_56 : Arv Z T56.heap ob kob .int (4 : Int32) lob (.int (0 : Int32)) := V_o_ab_53.keep K56 (ninS (Ne.symm m6) (ninS (Ne.symm m2) nin0))
      have V_w_ab_56 : Arv Z T56.heap wb kwb .int (4 : Int32) lwb (.int (0 : Int32)) := V_w_ab_53.keep K56 (ninS (Ne.symm m7) (ninS (Ne.symm m3) nin0))
      have V_w_a1d_56 : Arv Z T56.heap w kw .int (4 : Int32) (lw.set fi.toNatClampNeg (.int cl)) (.int (0 : Int32)) := V_w_a1d.keep K56 (ninS (Ne.symm m5) (ninS (Ne.symm n2) nin0))
      have V_o_a1d_56 : Arv Z T56.heap o ko .int (4 : Int32) (lo.set fi.toNatClampNeg (.int (ov + 1))) (.int (0 : Int32)) := V_o_a1d.keep K56 (ninS (Ne.symm m4) (ninS (Ne.symm n1) nin0))
      have Z56 : n0 ≤ T56.heap.size := Nat.le_trans Z53 K56.1
      have Kp56 : Keep h0 T56.heap [a1, o, w, ab] := Kp53.trans K56 (allS (Or.inl (List.mem_of_getElem? (i := 3) rfl)) (allS (Or.inl (List.mem_of_getElem? (i := 0) rfl)) all0))
      have N56 := Fr.app N53 Nq56
      have pre57 := fun τ (κ : Steps p.tables e below (T56.setTop (mkF m 82 #[.val (.ref a1), .val (.ref ab), .val (.int may)] [])) τ) => pre55 τ (st56.trans κ)
      have pre58 := fun τ (κ : Steps p.tables e below (T56.setTop (mkF m 83 #[.val (.ref a1), .val (.ref ab), .val (.int may)] [(.int may)])) τ) => pre57 τ (by
        refine XS.iloadN X56.here hx rfl (hb hby d6_82) rfl ?_
        show Steps p.tables e below (T56.setTop (mkF m 83 #[.val (.ref a1), .val (.ref ab), .val (.int may)] [(.int may)])) _
        exact κ)
      obtain ⟨b0, -, -, -, b4, -, b6, -⟩ := Q156
      obtain ⟨a0', -, -, -, a4, -, a6, -⟩ := Q256
      obtain ⟨fs, hr, hrun, hended, hW, hsame⟩ := X56.leave (v := some (.int (nar .boolean may))) (fun h => by rw [Bd.returns] at h; cases h)
      refine ⟨_, _, pre58 _ ?_, hrun, hended, _, _, rfl, ?_, ⟨_, rfl⟩, hW, hsame.mono (by decide) (by decide)⟩
      · exact retN X56 hx (t := .boolean) Bd.returns (by simp) (hb hby d6_83) hr
      · show Q6b Z a1 ab o w ko kw fi ru cl st le mo lo lw ob wb kob kwb fib rub clb stb leb mob lob lwb ov h0 n0 _ T56.heap _
        exact ⟨_, rfl, N56, Kp56, a0', a4, a6, b0, b6, b4⟩
    · have pre59 := fun τ (κ : Steps p.tables e below (T50.setTop (mkF m 63 #[.val (.ref a1), .val (.ref ab), .val (.int may)] [(.ref a1)])) τ) => pre51 τ (by
        refine XS.icmpNo X50.here hx rfl (hb hby d6_59) rfl (feq q2).1 ?_
        show Steps p.tables e below (T50.setTop (mkF m 62 #[.val (.ref a1), .val (.ref ab), .val (.int may)] [])) _
        refine XS.aloadN X50.here hx rfl (hb hby d6_62) rfl rfl ?_
        show Steps p.tables e below (T50.setTop (mkF m 63 #[.val (.ref a1), .val (.ref ab), .val (.int may)] [(.ref a1)])) _
        exact κ)
      obtain ⟨cq60, q60, q60'⟩ := E_a1s_47.cell
      obtain ⟨_, _, ⟨T60, L60, k60, n60⟩, -, X60, ⟨Lc60, hQ60, l60, y60, z60⟩, st60⟩ := X50.privateBack hx (y := (⟨"com/example/fettle/fettle/regex/Counts", "secondLargest", "()I"⟩ : MethodName)) hown (mvT hZ (hw _ (List.mem_of_getElem? (i := 62) rfl))) (mvT hZ (hw _ (List.mem_of_getElem? (i := 63) rfl))) (own_sel hZ (hw _ (List.mem_of_getElem? (i := 6) rfl)) (hw _ (List.mem_of_getElem? (i := 64) rfl)) (hw _ (List.mem_of_getElem? (i := 63) rfl)) (by decide)) (Cond.privateMethod_at (mvP hZ (hw _ (List.mem_of_getElem? (i := 64) rfl)) (args := #[]))) (mvT hZ (hw _ (List.mem_of_getElem? (i := 65) rfl))) (by decide) (backOf (W := 0) (rm11 l Z a0 hw [] a1 o w ko kw fi 1 (cl + (1 : Int32)) 0 le mo lo (lw.set fi.toNatClampNeg (.int cl)) ov cl T47.heap n0 Z47 ⟨E_a1s_47, F_oldest_a1s_47, F_newest_a1s_47, F_first_a1s_47, F_runs_a1s_47, F_clock_a1_47, F_starting_a1_47, F_least_a1s_47, F_most_a1s_47, V_o_a1s_47, V_w_a1s_47⟩ (Or.inr rfl) hfi hov hnv n1 n2 n3) hZ (hw _ (List.mem_of_getElem? (i := 65) rfl)) (hw _ (List.mem_of_getElem? (i := 7) rfl)) (by decide) (by decide)) (g := (mkF m 63 #[.val (.ref a1), .val (.ref ab), .val (.int may)] [(.ref a1)])) rfl (by rw [hml]; rfl) (Steps.refl _) (a := a1) (by rw [e50]; exact q60) q60' (argsL := []) (rest := []) (lenOf pd_2 rfl) rfl (by show 2 * 0 + _ ≤ _; exact Nat.le_of_eq rfl) (hb hby d6_63) (fun _ _ => ⟨rfl, e50, (by decide : 0 + 0 ≤ _), (by decide : 0 + 0 ≤ _)⟩)
      dsimp only [Pt.U, Pt.locs, Pt.cells, Pt.slots] at X60 l60 y60 z60 st60 hQ60
      subst l60 y60 z60
      obtain ⟨rfl, Nq60, hh60⟩ := hQ60
      have E_a1s_60 : Exa Z T60.heap a1 "com/example/fettle/fettle/regex/Counts" := by rw [hh60]; exact E_a1s_47
      have E_ab_60 : Exa Z T60.heap ab "com/example/fettle/fettle/regex/Counts" := by rw [hh60]; exact E_ab_47
      have F_oldest_ab_60 : Fld Z T60.heap ab "com/example/fettle/fettle/regex/Counts" "oldest" "[I" (.ref ob) := by rw [hh60]; exact F_oldest_ab_47
      have F_newest_ab_60 : Fld Z T60.heap ab "com/example/fettle/fettle/regex/Counts" "newest" "[I" (.ref wb) := by rw [hh60]; exact F_newest_ab_47
      have F_first_ab_60 : Fld Z T60.heap ab "com/example/fettle/fettle/regex/Counts" "first" "I" (.int fib) := by rw [hh60]; exact F_first_ab_47
      have Fx_runs_ab_60 : Fld Z T60.heap ab "com/example/fettle/fettle/regex/Counts" "runs" "I" (.int (0 : Int32)) := by rw [hh60]; exact Fx_runs_ab_47
      have F_clock_ab_60 : Fld Z T60.heap ab "com/example/fettle/fettle/regex/Counts" "clock" "I" (.int clb) := by rw [hh60]; exact F_clock_ab_47
      have F_starting_ab_60 : Fld Z T60.heap ab "com/example/fettle/fettle/regex/Counts" "starting" "Z" (.int stb) := by rw [hh60]; exact F_starting_ab_47
      have F_least_ab_60 : Fld Z T60.heap ab "com/example/fettle/fettle/regex/Counts" "least" "I" (.int leb) := by rw [hh60]; exact F_least_ab_47
      have F_most_ab_60 : Fld Z T60.heap ab "com/example/fettle/fettle/regex/Counts" "most" "I" (.int mob) := by rw [hh60]; exact F_most_ab_47
      have V_o_ab_60 : Arv Z T60.heap ob kob .int (4 : Int32) lob (.int (0 : Int32)) := by rw [hh60]; exact V_o_ab_47
      have V_w_ab_60 : Arv Z T60.heap wb kwb .int (4 : Int32) lwb (.int (0 : Int32)) := by rw [hh60]; exact V_w_ab_47
      have F_oldest_a1s_60 : Fld Z T60.heap a1 "com/example/fettle/fettle/regex/Counts" "oldest" "[I" (.ref o) := by rw [hh60]; exact F_oldest_a1s_47
      have F_newest_a1s_60 : Fld Z T60.heap a1 "com/example/fettle/fettle/regex/Counts" "newest" "[I" (.ref w) := by rw [hh60]; exact F_newest_a1s_47
      have F_first_a1s_60 : Fld Z T60.heap a1 "com/example/fettle/fettle/regex/Counts" "first" "I" (.int fi) := by rw [hh60]; exact F_first_a1s_47
      have F_runs_a1s_60 : Fld Z T60.heap a1 "com/example/fettle/fettle/regex/Counts" "runs" "I" (.int 1) := by rw [hh60]; exact F_runs_a1s_47
      have F_least_a1s_60 : Fld Z T60.heap a1 "com/example/fettle/fettle/regex/Counts" "least" "I" (.int le) := by rw [hh60]; exact F_least_a1s_47
      have F_most_a1s_60 : Fld Z T60.heap a1 "com/example/fettle/fettle/regex/Counts" "most" "I" (.int mo) := by rw [hh60]; exact F_most_a1s_47
      have V_o_a1s_60 : Arv Z T60.heap o ko .int (4 : Int32) lo (.int (0 : Int32)) := by rw [hh60]; exact V_o_a1s_47
      have V_w_a1s_60 : Arv Z T60.heap w kw .int (4 : Int32) (lw.set fi.toNatClampNeg (.int cl)) (.int (0 : Int32)) := by rw [hh60]; exact V_w_a1s_47
      have F_starting_a1_60 : Fld Z T60.heap a1 "com/example/fettle/fettle/regex/Counts" "starting" "Z" (.int (0 : Int32)) := by rw [hh60]; exact F_starting_a1_47
      have F_clock_a1_60 : Fld Z T60.heap a1 "com/example/fettle/fettle/regex/Counts" "clock" "I" (.int (cl + (1 : Int32))) := by rw [hh60]; exact F_clock_a1_47
      have Z60 : n0 ≤ T60.heap.size := by rw [hh60]; exact Z47
      have Kp60 : Keep h0 T60.heap [a1, o, w, ab] := by rw [hh60]; exact Kp47
      have N60 := Fr.app N47 Nq60
      have pre61 := fun τ (κ : Steps p.tables e below (T60.setTop (mkF m 66 #[.val (.ref a1), .val (.ref ab), .val (.int may)] [(.int (own_sec 1 ov cl (cl + (1 : Int32))))])) τ) => pre59 τ (st60.trans κ)
      have pre62 := fun τ (κ : Steps p.tables e below (T60.setTop (mkF m 67 #[.val (.ref a1), .val (.ref ab), .val (.int may)] [(.ref a1), (.int (own_sec 1 ov cl (cl + (1 : Int32))))])) τ) => pre61 τ (by
        refine XS.aloadN X60.here hx rfl (hb hby d6_66) rfl rfl ?_
        show Steps p.tables e below (T60.setTop (mkF m 67 #[.val (.ref a1), .val (.ref ab), .val (.int may)] [(.ref a1), (.int (own_sec 1 ov cl (cl + (1 : Int32))))])) _
        exact κ)
      obtain ⟨T63, X63, e63, st63⟩ := getF X60 hx hZ hown (host := "") (Or.inl (hw _ (List.mem_of_getElem? (i := 19) rfl))) Via.refl rfl F_least_a1s_60 (g := (mkF m 67 #[.val (.ref a1), .val (.ref ab), .val (.int may)] [(.ref a1), (.int (own_sec 1 ov cl (cl + (1 : Int32))))])) rfl rfl (hb hby d6_67)
      have pre64 := fun τ (κ : Steps p.tables e below (T63.setTop (mkF m 70 #[.val (.ref a1), .val (.ref ab), .val (.int may)] [(.int le), (.int (own_sec 1 ov cl (cl + (1 : Int32))))])) τ) => pre62 τ (st63 _ κ)
      by_cases q3 : (own_sec 1 ov cl (cl + (1 : Int32))) < le
      · have pre65 := fun τ (κ : Steps p.tables e below (T63.setTop (mkF m 79 #[.val (.ref a1), .val (.ref ab), .val (.int may)] [(.ref a1), (.ref ab)])) τ) => pre64 τ (by
          refine XS.icmpYes X63.here hx rfl (pc0 := 70) (pc' := 77) rfl (hb hby d6_70) rfl (tlt q3).1 (by decide) (by decide) ?_
          show Steps p.tables e below (T63.setTop (mkF m 77 #[.val (.ref a1), .val (.ref ab), .val (.int may)] [])) _
          refine XS.aloadN X63.here hx rfl (hb hby d6_77) rfl rfl ?_
          show Steps p.tables e below (T63.setTop (mkF m 78 #[.val (.ref a1), .val (.ref ab), .val (.int may)] [(.ref ab)])) _
          refine XS.aloadN X63.here hx rfl (hb hby d6_78) rfl rfl ?_
          show Steps p.tables e below (T63.setTop (mkF m 79 #[.val (.ref a1), .val (.ref ab), .val (.int may)] [(.ref a1), (.ref ab)])) _
          exact κ)
        obtain ⟨cq66, q66, q66'⟩ := E_ab_60.cell
        obtain ⟨_, _, ⟨T66, L66, k66, n66⟩, -, X66, ⟨Lc66, hQ66, l66, y66, z66⟩, st66⟩ := X63.privateBack hx (y := (⟨"com/example/fettle/fettle/regex/Counts", "join", "(Lcom/example/fettle/fettle/regex/Counts;)V"⟩ : MethodName)) hown (mvT hZ (hw _ (List.mem_of_getElem? (i := 66) rfl))) (mvT hZ (hw _ (List.mem_of_getElem? (i := 67) rfl))) (own_sel hZ (hw _ (List.mem_of_getElem? (i := 6) rfl)) (hw _ (List.mem_of_getElem? (i := 68) rfl)) (hw _ (List.mem_of_getElem? (i := 67) rfl)) (by decide)) (Cond.privateMethod_at (mvP hZ (hw _ (List.mem_of_getElem? (i := 68) rfl)) (args := #[]))) (mvT hZ (hw _ (List.mem_of_getElem? (i := 69) rfl))) (by decide) (backOf (W := 0) (rm12 l Z a0 hw [] ab a1 ob wb kob kwb fib 0 clb stb leb mob lob lwb o w ko kw fi 1 (cl + (1 : Int32)) 0 le mo lo (lw.set fi.toNatClampNeg (.int cl)) T60.heap n0 Z60 ⟨E_ab_60, F_oldest_ab_60, F_newest_ab_60, F_first_ab_60, Fx_runs_ab_60, F_clock_ab_60, F_starting_ab_60, F_least_ab_60, F_most_ab_60, V_o_ab_60, V_w_ab_60⟩ ⟨E_a1s_60, F_oldest_a1s_60, F_newest_a1s_60, F_first_a1s_60, F_runs_a1s_60, F_clock_a1_60, F_starting_a1_60, F_least_a1s_60, F_most_a1s_60, V_o_a1s_60, V_w_a1s_60⟩ rfl m6 m7 n32 (Ne.symm m1) m4 m5 m2 m3 n1 n2 g_ab g_a1) hZ (hw _ (List.mem_of_getElem? (i := 69) rfl)) (hw _ (List.mem_of_getElem? (i := 7) rfl)) (by decide) (by decide)) (g := (mkF m 79 #[.val (.ref a1), .val (.ref ab), .val (.int may)] [(.ref a1), (.ref ab)])) rfl (by rw [hml]; rfl) (Steps.refl _) (a := ab) (by rw [e63]; exact q66) q66' (argsL := [(.ref a1)]) (rest := []) (lenOf pd_3 rfl) rfl (by show 2 * 0 + _ ≤ _; exact Nat.le_of_eq rfl) (hb hby d6_79) (fun _ _ => ⟨rfl, e63, (by decide : 0 + 0 ≤ _), (by decide : 0 + 0 ≤ _)⟩)
        dsimp only [Pt.U, Pt.locs, Pt.cells, Pt.slots] at X66 l66 y66 z66 st66 hQ66
        subst l66 y66 z66
        obtain ⟨rfl, Nq66, K66, Q166, Q266⟩ := hQ66
        have E_a1s_66 : Exa Z T66.heap a1 "com/example/fettle/fettle/regex/Counts" := E_a1s_60.keep K66
        have E_ab_66 : Exa Z T66.heap ab "com/example/fettle/fettle/regex/Counts" := E_ab_60.keep K66
        have V_o_ab_66 : Arv Z T66.heap ob kob .int (4 : Int32) lob (.int (0 : Int32)) := V_o_ab_60.keep K66 (ninS (Ne.symm m6) (ninS (Ne.symm m2) nin0))
        have V_w_ab_66 : Arv Z T66.heap wb kwb .int (4 : Int32) lwb (.int (0 : Int32)) := V_w_ab_60.keep K66 (ninS (Ne.symm m7) (ninS (Ne.symm m3) nin0))
        have V_o_a1s_66 : Arv Z T66.heap o ko .int (4 : Int32) lo (.int (0 : Int32)) := V_o_a1s_60.keep K66 (ninS (Ne.symm m4) (ninS (Ne.symm n1) nin0))
        have V_w_a1s_66 : Arv Z T66.heap w kw .int (4 : Int32) (lw.set fi.toNatClampNeg (.int cl)) (.int (0 : Int32)) := V_w_a1s_60.keep K66 (ninS (Ne.symm m5) (ninS (Ne.symm n2) nin0))
        have Z66 : n0 ≤ T66.heap.size := Nat.le_trans Z60 K66.1
        have Kp66 : Keep h0 T66.heap [a1, o, w, ab] := Kp60.trans K66 (allS (Or.inl (List.mem_of_getElem? (i := 3) rfl)) (allS (Or.inl (List.mem_of_getElem? (i := 0) rfl)) all0))
        have N66 := Fr.app N60 Nq66
        have pre67 := fun τ (κ : Steps p.tables e below (T66.setTop (mkF m 82 #[.val (.ref a1), .val (.ref ab), .val (.int may)] [])) τ) => pre65 τ (st66.trans κ)
        have pre68 := fun τ (κ : Steps p.tables e below (T66.setTop (mkF m 83 #[.val (.ref a1), .val (.ref ab), .val (.int may)] [(.int may)])) τ) => pre67 τ (by
          refine XS.iloadN X66.here hx rfl (hb hby d6_82) rfl ?_
          show Steps p.tables e below (T66.setTop (mkF m 83 #[.val (.ref a1), .val (.ref ab), .val (.int may)] [(.int may)])) _
          exact κ)
        obtain ⟨b0, -, -, -, b4, -, b6, -⟩ := Q166
        obtain ⟨a0', -, -, -, a4, -, a6, -⟩ := Q266
        obtain ⟨fs, hr, hrun, hended, hW, hsame⟩ := X66.leave (v := some (.int (nar .boolean may))) (fun h => by rw [Bd.returns] at h; cases h)
        refine ⟨_, _, pre68 _ ?_, hrun, hended, _, _, rfl, ?_, ⟨_, rfl⟩, hW, hsame.mono (by decide) (by decide)⟩
        · exact retN X66 hx (t := .boolean) Bd.returns (by simp) (hb hby d6_83) hr
        · show Q6b Z a1 ab o w ko kw fi ru cl st le mo lo lw ob wb kob kwb fib rub clb stb leb mob lob lwb ov h0 n0 _ T66.heap _
          exact ⟨_, rfl, N66, Kp66, a0', a4, a6, b0, b6, b4⟩
      · have pre69 := fun τ (κ : Steps p.tables e below (T63.setTop (mkF m 74 #[.val (.ref a1), .val (.ref ab), .val (.int may)] [(.ref a1)])) τ) => pre64 τ (by
          refine XS.icmpNo X63.here hx rfl (hb hby d6_70) rfl (flt q3).1 ?_
          show Steps p.tables e below (T63.setTop (mkF m 73 #[.val (.ref a1), .val (.ref ab), .val (.int may)] [])) _
          refine XS.aloadN X63.here hx rfl (hb hby d6_73) rfl rfl ?_
          show Steps p.tables e below (T63.setTop (mkF m 74 #[.val (.ref a1), .val (.ref ab), .val (.int may)] [(.ref a1)])) _
          exact κ)
        obtain ⟨cq70, q70, q70'⟩ := E_a1s_60.cell
        obtain ⟨_, _, ⟨T70, L70, k70, n70⟩, -, X70, ⟨Lc70, hQ70, l70, y70, z70⟩, st70⟩ := X63.privateBack hx (y := (⟨"com/example/fettle/fettle/regex/Counts", "dropLargest", "()V"⟩ : MethodName)) hown (mvT hZ (hw _ (List.mem_of_getElem? (i := 74) rfl))) (mvT hZ (hw _ (List.mem_of_getElem? (i := 75) rfl))) (own_sel hZ (hw _ (List.mem_of_getElem? (i := 6) rfl)) (hw _ (List.mem_of_getElem? (i := 76) rfl)) (hw _ (List.mem_of_getElem? (i := 75) rfl)) (by decide)) (Cond.privateMethod_at (mvP hZ (hw _ (List.mem_of_getElem? (i := 76) rfl)) (args := #[]))) (mvT hZ (hw _ (List.mem_of_getElem? (i := 77) rfl))) (by decide) (backOf (W := 0) (rm14b l Z a0 hw [] a1 o w ko kw fi 1 (cl + (1 : Int32)) 0 le mo lo (lw.set fi.toNatClampNeg (.int cl)) ov cl T60.heap n0 Z60 ⟨E_a1s_60, F_oldest_a1s_60, F_newest_a1s_60, F_first_a1s_60, F_runs_a1s_60, F_clock_a1_60, F_starting_a1_60, F_least_a1s_60, F_most_a1s_60, V_o_a1s_60, V_w_a1s_60⟩ hne hfi hov hnv hlo' n1 n2 n3 g_a1 g_o g_w) hZ (hw _ (List.mem_of_getElem? (i := 77) rfl)) (hw _ (List.mem_of_getElem? (i := 7) rfl)) (by decide) (by decide)) (g := (mkF m 74 #[.val (.ref a1), .val (.ref ab), .val (.int may)] [(.ref a1)])) rfl (by rw [hml]; rfl) (Steps.refl _) (a := a1) (by rw [e63]; exact q70) q70' (argsL := []) (rest := []) (lenOf pd_4 rfl) rfl (by show 2 * 0 + _ ≤ _; exact Nat.le_of_eq rfl) (hb hby d6_74) (fun _ _ => ⟨rfl, e63, (by decide : 0 + 0 ≤ _), (by decide : 0 + 0 ≤ _)⟩)
        dsimp only [Pt.U, Pt.locs, Pt.cells, Pt.slots] at X70 l70 y70 z70 st70 hQ70
        subst l70 y70 z70
        obtain ⟨rfl, Nq70, K70, P70⟩ := hQ70
        have E_a1s_70 : Exa Z T70.heap a1 "com/example/fettle/fettle/regex/Counts" := E_a1s_60.keep K70
        have E_ab_70 : Exa Z T70.heap ab "com/example/fettle/fettle/regex/Counts" := E_ab_60.keep K70
        have F_oldest_ab_70 : Fld Z T70.heap ab "com/example/fettle/fettle/regex/Counts" "oldest" "[I" (.ref ob) := F_oldest_ab_60.keep K70 (ninS (Ne.symm m1) (ninS m4 nin0))
        have F_newest_ab_70 : Fld Z T70.heap ab "com/example/fettle/fettle/regex/Counts" "newest" "[I" (.ref wb) := F_newest_ab_60.keep K70 (ninS (Ne.symm m1) (ninS m4 nin0))
        have F_first_ab_70 : Fld Z T70.heap ab "com/example/fettle/fettle/regex/Counts" "first" "I" (.int fib) := F_first_ab_60.keep K70 (ninS (Ne.symm m1) (ninS m4 nin0))
        have Fx_runs_ab_70 : Fld Z T70.heap ab "com/example/fettle/fettle/regex/Counts" "runs" "I" (.int (0 : Int32)) := Fx_runs_ab_60.keep K70 (ninS (Ne.symm m1) (ninS m4 nin0))
        have F_clock_ab_70 : Fld Z T70.heap ab "com/example/fettle/fettle/regex/Counts" "clock" "I" (.int clb) := F_clock_ab_60.keep K70 (ninS (Ne.symm m1) (ninS m4 nin0))
        have F_starting_ab_70 : Fld Z T70.heap ab "com/example/fettle/fettle/regex/Counts" "starting" "Z" (.int stb) := F_starting_ab_60.keep K70 (ninS (Ne.symm m1) (ninS m4 nin0))
        have F_least_ab_70 : Fld Z T70.heap ab "com/example/fettle/fettle/regex/Counts" "least" "I" (.int leb) := F_least_ab_60.keep K70 (ninS (Ne.symm m1) (ninS m4 nin0))
        have F_most_ab_70 : Fld Z T70.heap ab "com/example/fettle/fettle/regex/Counts" "most" "I" (.int mob) := F_most_ab_60.keep K70 (ninS (Ne.symm m1) (ninS m4 nin0))
        have V_o_ab_70 : Arv Z T70.heap ob kob .int (4 : Int32) lob (.int (0 : Int32)) := V_o_ab_60.keep K70 (ninS (Ne.symm m2) (ninS (Ne.symm k1) nin0))
        have V_w_ab_70 : Arv Z T70.heap wb kwb .int (4 : Int32) lwb (.int (0 : Int32)) := V_w_ab_60.keep K70 (ninS (Ne.symm m3) (ninS (Ne.symm k2) nin0))
        have V_w_a1s_70 : Arv Z T70.heap w kw .int (4 : Int32) (lw.set fi.toNatClampNeg (.int cl)) (.int (0 : Int32)) := V_w_a1s_60.keep K70 (ninS (Ne.symm n2) (ninS (Ne.symm n3) nin0))
        have Z70 : n0 ≤ T70.heap.size := Nat.le_trans Z60 K70.1
        have Kp70 : Keep h0 T70.heap [a1, o, w, ab] := Kp60.trans K70 (allS (Or.inl (List.mem_of_getElem? (i := 0) rfl)) (allS (Or.inl (List.mem_of_getElem? (i := 1) rfl)) all0))
        have N70 := Fr.app N60 Nq70
        have pre71 := fun τ (κ : Steps p.tables e below (T70.setTop (mkF m 77 #[.val (.ref a1), .val (.ref ab), .val (.int may)] [])) τ) => pre69 τ (st70.trans κ)
        obtain ⟨E_a1d, F_oldest_a1d, F_newest_a1d, F_first_a1d, F_runs_a1d, F_clock_a1d, F_starting_a1d, F_least_a1d, F_most_a1d, V_o_a1d, V_w_a1d⟩ := P70
        have pre72 := fun τ (κ : Steps p.tables e below (T70.setTop (mkF m 79 #[.val (.ref a1), .val (.ref ab), .val (.int may)] [(.ref a1), (.ref ab)])) τ) => pre71 τ (by
          refine XS.aloadN X70.here hx rfl (hb hby d6_77) rfl rfl ?_
          show Steps p.tables e below (T70.setTop (mkF m 78 #[.val (.ref a1), .val (.ref ab), .val (.int may)] [(.ref ab)])) _
          refine XS.aloadN X70.here hx rfl (hb hby d6_78) rfl rfl ?_
          show Steps p.tables e below (T70.setTop (mkF m 79 #[.val (.ref a1), .val (.ref ab), .val (.int may)] [(.ref a1), (.ref ab)])) _
          exact κ)
        obtain ⟨cq73, q73, q73'⟩ := E_ab_70.cell
        obtain ⟨_, _, ⟨T73, L73, k73, n73⟩, -, X73, ⟨Lc73, hQ73, l73, y73, z73⟩, st73⟩ := X70.privateBack hx (y := (⟨"com/example/fettle/fettle/regex/Counts", "join", "(Lcom/example/fettle/fettle/regex/Counts;)V"⟩ : MethodName)) hown (mvT hZ (hw _ (List.mem_of_getElem? (i := 66) rfl))) (mvT hZ (hw _ (List.mem_of_getElem? (i := 67) rfl))) (own_sel hZ (hw _ (List.mem_of_getElem? (i := 6) rfl)) (hw _ (List.mem_of_getElem? (i := 68) rfl)) (hw _ (List.mem_of_getElem? (i := 67) rfl)) (by decide)) (Cond.privateMethod_at (mvP hZ (hw _ (List.mem_of_getElem? (i := 68) rfl)) (args := #[]))) (mvT hZ (hw _ (List.mem_of_getElem? (i := 69) rfl))) (by decide) (backOf (W := 0) (rm12 l Z a0 hw [] ab a1 ob wb kob kwb fib 0 clb stb leb mob lob lwb o w ko kw fi 1 (cl + (1 : Int32)) 0 le mo (lo.set fi.toNatClampNeg (.int (ov + 1))) (lw.set fi.toNatClampNeg (.int cl)) T70.heap n0 Z70 ⟨E_ab_70, F_oldest_ab_70, F_newest_ab_70, F_first_ab_70, Fx_runs_ab_70, F_clock_ab_70, F_starting_ab_70, F_least_ab_70, F_most_ab_70, V_o_ab_70, V_w_ab_70⟩ ⟨E_a1d, F_oldest_a1d, F_newest_a1d, F_first_a1d, F_runs_a1d, F_clock_a1d, F_starting_a1d, F_least_a1d, F_most_a1d, V_o_a1d, V_w_a1d⟩ rfl m6 m7 n32 (Ne.symm m1) m4 m5 m2 m3 n1 n2 g_ab g_a1) hZ (hw _ (List.mem_of_getElem? (i := 69) rfl)) (hw _ (List.mem_of_getElem? (i := 7) rfl)) (by decide) (by decide)) (g := (mkF m 79 #[.val (.ref a1), .val (.ref ab), .val (.int may)] [(.ref a1), (.ref ab)])) rfl (by rw [hml]; rfl) (Steps.refl _) (a := ab) q73 q73' (argsL := [(.ref a1)]) (rest := []) (lenOf pd_3 rfl) rfl (by show 2 * 0 + _ ≤ _; exact Nat.le_of_eq rfl) (hb hby d6_79) (fun _ _ => ⟨rfl, rfl, (by decide : 0 + 0 ≤ _), (by decide : 0 + 0 ≤ _)⟩)
        dsimp only [Pt.U, Pt.locs, Pt.cells, Pt.slots] at X73 l73 y73 z73 st73 hQ73
        subst l73 y73 z73
        obtain ⟨rfl, Nq73, K73, Q173, Q273⟩ := hQ73
        have E_a1d_73 : Exa Z T73.heap a1 "com/example/fettle/fettle/regex/Counts" := E_a1d.keep K73
        have E_ab_73 : Exa Z T73.heap ab "com/example/fettle/fettle/regex/Counts" := E_ab_70.keep K73
        have V_o_ab_73 : Arv Z T73.heap ob kob .int (4 : Int32) lob (.int (0 : Int32)) := V_o_ab_70.keep K73 (ninS (Ne.symm m6) (ninS (Ne.symm m2) nin0))
        have V_w_ab_73 : Arv Z T73.heap wb kwb .int (4 : Int32) lwb (.int (0 : Int32)) := V_w_ab_70.keep K73 (ninS (Ne.symm m7) (ninS (Ne.symm m3) nin0))
        have V_w_a1d_73 : Arv Z T73.heap w kw .int (4 : Int32) (lw.set fi.toNatClampNeg (.int cl)) (.int (0 : Int32)) := V_w_a1d.keep K73 (ninS (Ne.symm m5) (ninS (Ne.symm n2) nin0))
        have V_o_a1d_73 : Arv Z T73.heap o ko .int (4 : Int32) (lo.set fi.toNatClampNeg (.int (ov + 1))) (.int (0 : Int32)) := V_o_a1d.keep K73 (ninS (Ne.symm m4) (ninS (Ne.symm n1) nin0))
        have Z73 : n0 ≤ T73.heap.size := Nat.le_trans Z70 K73.1
        have Kp73 : Keep h0 T73.heap [a1, o, w, ab] := Kp70.trans K73 (allS (Or.inl (List.mem_of_getElem? (i := 3) rfl)) (allS (Or.inl (List.mem_of_getElem? (i := 0) rfl)) all0))
        have N73 := Fr.app N70 Nq73
        have pre74 := fun τ (κ : Steps p.tables e below (T73.setTop (mkF m 82 #[.val (.ref a1), .val (.ref ab), .val (.int may)] [])) τ) => pre72 τ (st73.trans κ)
        have pre75 := fun τ (κ : Steps p.tables e below (T73.setTop (mkF m 83 #[.val (.ref a1), .val (.ref ab), .val (.int may)] [(.int may)])) τ) => pre74 τ (by
          refine XS.iloadN X73.here hx rfl (hb hby d6_82) rfl ?_
          show Steps p.tables e below (T73.setTop (mkF m 83 #[.val (.ref a1), .val (.ref ab), .val (.int may)] [(.int may)])) _
          exact κ)
        obtain ⟨b0, -, -, -, b4, -, b6, -⟩ := Q173
        obtain ⟨a0', -, -, -, a4, -, a6, -⟩ := Q273
        obtain ⟨fs, hr, hrun, hended, hW, hsame⟩ := X73.leave (v := some (.int (nar .boolean may))) (fun h => by rw [Bd.returns] at h; cases h)
        refine ⟨_, _, pre75 _ ?_, hrun, hended, _, _, rfl, ?_, ⟨_, rfl⟩, hW, hsame.mono (by decide) (by decide)⟩
        · exact retN X73 hx (t := .boolean) Bd.returns (by simp) (hb hby d6_83) hr
        · show Q6b Z a1 ab o w ko kw fi ru cl st le mo lo lw ob wb kob kwb fib rub clb stb leb mob lob lwb ov h0 n0 _ T73.heap _
          exact ⟨_, rfl, N73, Kp73, a0', a4, a6, b0, b6, b4⟩
theorem ef_6c (m : MethodId) (a1 : Addr) (ab : Addr) (o : Addr) (w : Addr) (fi : Int32) (ru : Int32) (cl : Int32) (st : Int32) (le : Int32) (mo : Int32) (ob : Addr) (wb : Addr) (fib : Int32) (rub : Int32) (clb : Int32) (stb : Int32) (leb : Int32) (mob : Int32) (ov : Int32) : entryFrame m #[(.ref a1), (.ref ab)] 3 = mkF m 0 #[.val (.ref a1), .val (.ref ab), .unset] [] := by first | (simp [entryFrame, mkF, argsToLocals, Value.category]; done) | rfl
def Q6c (Z : State) (a1 : Addr) (ab : Addr) (o : Addr) (w : Addr) (ko : ClassId) (kw : ClassId) (fi : Int32) (ru : Int32) (cl : Int32) (st : Int32) (le : Int32) (mo : Int32) (lo : List Value) (lw : List Value) (ob : Addr) (wb : Addr) (kob : ClassId) (kwb : ClassId) (fib : Int32) (rub : Int32) (clb : Int32) (stb : Int32) (leb : Int32) (mob : Int32) (lob : List Value) (lwb : List Value) (ov : Int32) (h0 : Heap) (n0 : Nat) (v : Option Value) (h : Heap) (L : List Loc) : Prop := ∃ x : Int32, v = some (.int x) ∧ Fr n0 L ∧ Keep h0 h [a1, o, w, ab] ∧ Exa Z h a1 "com/example/fettle/fettle/regex/Counts" ∧ Fld Z h a1 "com/example/fettle/fettle/regex/Counts" "runs" "I" (.int 0) ∧ Fld Z h a1 "com/example/fettle/fettle/regex/Counts" "starting" "Z" (.int 0) ∧ Exa Z h ab "com/example/fettle/fettle/regex/Counts" ∧ Fld Z h ab "com/example/fettle/fettle/regex/Counts" "starting" "Z" (.int stb) ∧ (((¬ mo = -1 ∧ (cl + 1) - ov = mo) ∧ Fld Z h ab "com/example/fettle/fettle/regex/Counts" "runs" "I" (.int (1 - 1))) ∨ (¬ (¬ mo = -1 ∧ (cl + 1) - ov = mo) ∧ Fld Z h ab "com/example/fettle/fettle/regex/Counts" "runs" "I" (.int 1)))
set_option maxRecDepth 65536 in
set_option maxHeartbeats 40000000 in
theorem rm6c (l : Launch) (Z : State) (a0 : Array Value) (hw : ∀ d ∈ tables_1, d.before a0 Z = true) (ws : List Jvm.Cond) (a1 : Addr) (ab : Addr) (o : Addr) (w : Addr) (ko : ClassId) (kw : ClassId) (fi : Int32) (ru : Int32) (cl : Int32) (st : Int32) (le : Int32) (mo : Int32) (lo : List Value) (lw : List Value) (ob : Addr) (wb : Addr) (kob : ClassId) (kwb : ClassId) (fib : Int32) (rub : Int32) (clb : Int32) (stb : Int32) (leb : Int32) (mob : Int32) (lob : List Value) (lwb : List Value) (ov : Int32) (h0 : Heap) (n0 : Nat) (Z0 : n0 ≤ h0.size) (P0 : own_C Z h0 a1 o w ko kw fi ru cl st le mo lo lw) (P2 : own_C Z h0 ab ob wb kob kwb fib rub clb stb leb mob lob lwb) (hru2 : rub = 0) (hfi : fi = 0 ∨ fi = 1) (hlo : lo.length = 4) (hlw : lw.length = 4) (hle0 : ¬ le < 0) (n1 : a1 ≠ o) (n2 : a1 ≠ w) (n3 : o ≠ w) (m1 : a1 ≠ ab) (m2 : a1 ≠ ob) (m3 : a1 ≠ wb) (m4 : ab ≠ o) (m5 : ab ≠ w) (m6 : ab ≠ ob) (m7 : ab ≠ wb) (n32 : ob ≠ wb) (k1 : o ≠ ob) (k2 : o ≠ wb) (k3 : w ≠ ob) (k4 : w ≠ wb) (g_a1 : n0 ≤ a1) (g_o : n0 ≤ o) (g_w : n0 ≤ w) (g_ab : n0 ≤ ab) (hst : st = 0) (hru : ru = 1) (hov : lo.getD fi.toNatClampNeg (.int (0 : Int32)) = .int ov) (hnv : lw.getD fi.toNatClampNeg (.int (0 : Int32)) = .int ov) :
    MetFree l (⟨"com/example/fettle/fettle/regex/Counts", "takeInto", "(Lcom/example/fettle/fettle/regex/Counts;)Z"⟩ : MethodName) (head1 (Jvm.Cond.code (⟨"com/example/fettle/fettle/regex/Counts", "takeInto", "(Lcom/example/fettle/fettle/regex/Counts;)Z"⟩ : MethodName) prog_24_method_5_code 3 (some .boolean) :: ws) ({ frames := 2, cells := 0, slots := 0, locals := 35 } : Room)) (fun α υ => α = #[(.ref a1), (.ref ab)] ∧ Z.Warmed39 υ.vm ∧ υ.heap = h0) (fun _ _ _ _ _ => True) (fun _ υ ω υ' => ∃ v L, ω = .returned v ∧ Q6c Z a1 ab o w ko kw fi ru cl st le mo lo lw ob wb kob kwb fib rub clb stb leb mob lob lwb ov h0 n0 v υ'.heap L ∧ FrameEnd υ ω υ' L ({ frames := 2, cells := 0, slots := 0, locals := 35 } : Room).cells ({ frames := 2, cells := 0, slots := 0, locals := 35 } : Room).slots) := by
  refine MetFree.of_bodySF (plainFor_of_name pn_com_example_fettle_fettle_regex_Counts) hisR ?_
  intro p e s m args below meth c s₁ Bd hml0 hP hK
  obtain ⟨rfl, hZ, hh⟩ := hP
  have hx := Bd.exec
  have hby := Bd.bytes
  have hml : c.maxLocals = 3 := hml0
  have hown : s.vm.findClass "com/example/fettle/fettle/regex/Counts" = some m.cls := findClass_of_methodNamed Bd.named
  have hnm := (name_of_methodNamed Bd.named Bd.method).1
  have X0 : Stand p l e ({ frames := 2, cells := 0, slots := 0, locals := 35 } : Room) s m #[(.ref a1), (.ref ab)] below meth c s₁ [] 0 0 := Stand.of_body Bd
  have e0 : s₁.heap = h0 := by rw [← hh, Bd.state]; rfl
  have N0 := Fr.nil n0
  have pre0 : ∀ τ, Steps p.tables e below (s₁.setTop (mkF m 0 #[.val (.ref a1), .val (.ref ab), .unset] [])) τ → Steps p.tables e below (s₁.setTop (entryFrame m #[(.ref a1), (.ref ab)] 3)) τ := fun τ κ => castTop (ef_6c m a1 ab o w fi ru cl st le mo ob wb fib rub clb stb leb mob ov) κ
  obtain ⟨E_a1, F_oldest_a1, F_newest_a1, F_first_a1, F_runs_a1, F_clock_a1, F_starting_a1, F_least_a1, F_most_a1, V_o_a1, V_w_a1⟩ := P0
  obtain ⟨E_ab, F_oldest_ab, F_newest_ab, F_first_ab, F_runs_ab, F_clock_ab, F_starting_ab, F_least_ab, F_most_ab, V_o_ab, V_w_ab⟩ := P2
  have Kp0 : Keep h0 h0 [a1, o, w, ab] := Keep.refl _ _
  have Fx_runs_ab : Fld Z h0 ab "com/example/fettle/fettle/regex/Counts" "runs" "I" (.int (0 : Int32)) := by have q := F_runs_ab; rw [hru2] at q; exact q
  have Fx_runs_a1 : Fld Z h0 a1 "com/example/fettle/fettle/regex/Counts" "runs" "I" (.int (1 : Int32)) := by have q := F_runs_a1; rw [hru] at q; exact q
  have Fx_starting_a1 : Fld Z h0 a1 "com/example/fettle/fettle/regex/Counts" "starting" "Z" (.int (0 : Int32)) := by have q := F_starting_a1; rw [hst] at q; exact q
  have hlo' := hlo
  have pre1 := fun τ (κ : Steps p.tables e below (s₁.setTop (mkF m 1 #[.val (.ref a1), .val (.ref ab), .unset] [(.ref a1)])) τ) => pre0 τ (by
    refine XS.aloadN X0.here hx rfl (hb hby d6_0) rfl rfl ?_
    show Steps p.tables e below (s₁.setTop (mkF m 1 #[.val (.ref a1), .val (.ref ab), .unset] [(.ref a1)])) _
    exact κ)
  obtain ⟨T2, X2, e2, st2⟩ := getF X0 hx hZ hown (host := "") (Or.inl (hw _ (List.mem_of_getElem? (i := 30) rfl))) Via.refl e0 Fx_starting_a1 (g := (mkF m 1 #[.val (.ref a1), .val (.ref ab), .unset] [(.ref a1)])) rfl rfl (hb hby d6_1)
  have pre3 := fun τ (κ : Steps p.tables e below (T2.setTop (mkF m 4 #[.val (.ref a1), .val (.ref ab), .unset] [(.int (0 : Int32))])) τ) => pre1 τ (st2 _ κ)
  have pre4 := fun τ (κ : Steps p.tables e below (T2.setTop (mkF m 18 #[.val (.ref a1), .val (.ref ab), .unset] [(.ref a1), (.ref a1)])) τ) => pre3 τ (by
    refine XS.ifYes X2.here hx rfl (pc0 := 4) (pc' := 16) rfl (hb hby d6_4) rfl ((if0 _ _).trans (teq rfl).1) (by decide) (by decide) ?_
    show Steps p.tables e below (T2.setTop (mkF m 16 #[.val (.ref a1), .val (.ref ab), .unset] [])) _
    refine XS.aloadN X2.here hx rfl (hb hby d6_16) rfl rfl ?_
    show Steps p.tables e below (T2.setTop (mkF m 17 #[.val (.ref a1), .val (.ref ab), .unset] [(.ref a1)])) _
    refine XS.dup X2.here hx rfl (hb hby d6_17) rfl rfl ?_
    show Steps p.tables e below (T2.setTop (mkF m 18 #[.val (.ref a1), .val (.ref ab), .unset] [(.ref a1), (.ref a1)])) _
    exact κ)
  obtain ⟨T5, X5, e5, st5⟩ := getF X2 hx hZ hown (host := "") (Or.inl (hw _ (List.mem_of_getElem? (i := 46) rfl))) Via.refl e2 F_clock_a1 (g := (mkF m 18 #[.val (.ref a1), .val (.ref ab), .unset] [(.ref a1), (.ref a1)])) rfl rfl (hb hby d6_18)
  have pre6 := fun τ (κ : Steps p.tables e below (T5.setTop (mkF m 21 #[.val (.ref a1), .val (.ref ab), .unset] [(.int cl), (.ref a1)])) τ) => pre4 τ (st5 _ κ)
  have pre7 := fun τ (κ : Steps p.tables e below (T5.setTop (mkF m 23 #[.val (.ref a1), .val (.ref ab), .unset] [(.int (cl + (1 : Int32))), (.ref a1)])) τ) => pre6 τ (by
    refine XS.iconst X5.here hx rfl (hb hby d6_21) ?_
    show Steps p.tables e below (T5.setTop (mkF m 22 #[.val (.ref a1), .val (.ref ab), .unset] [(.int (1 : Int32)), (.int cl), (.ref a1)])) _
    refine XS.iadd X5.here hx rfl (hb hby d6_22) rfl ?_
    show Steps p.tables e below (T5.setTop (mkF m 23 #[.val (.ref a1), .val (.ref ab), .unset] [(.int (cl + (1 : Int32))), (.ref a1)])) _
    exact κ)
  obtain ⟨T8, h8, X8, e8, W8, st8⟩ := putF X5 hx hZ hown (host := "") (Or.inl (hw _ (List.mem_of_getElem? (i := 46) rfl))) Via.refl e5 F_clock_a1 E_a1 (Or.inl (hw _ (List.mem_of_getElem? (i := 47) rfl))) (hw _ (List.mem_of_getElem? (i := 6) rfl)) (ty := .int) (by decide) rfl rfl (g := (mkF m 23 #[.val (.ref a1), .val (.ref ab), .unset] [(.int (cl + (1 : Int32))), (.ref a1)])) rfl rfl (hb hby d6_23)
  have E_a1_8 : Exa Z h8 a1 "com/example/fettle/fettle/regex/Counts" := E_a1.wr W8
  have F_oldest_a1_8 : Fld Z h8 a1 "com/example/fettle/fettle/regex/Counts" "oldest" "[I" (.ref o) := F_oldest_a1.other W8 (Or.inr (slot_ne (Or.inl (hw _ (List.mem_of_getElem? (i := 16) rfl))) (Or.inl (hw _ (List.mem_of_getElem? (i := 47) rfl))) (by decide) (t := (.array .int)) (t' := .int) (by decide) (by decide)))
  have F_newest_a1_8 : Fld Z h8 a1 "com/example/fettle/fettle/regex/Counts" "newest" "[I" (.ref w) := F_newest_a1.other W8 (Or.inr (slot_ne (Or.inl (hw _ (List.mem_of_getElem? (i := 18) rfl))) (Or.inl (hw _ (List.mem_of_getElem? (i := 47) rfl))) (by decide) (t := (.array .int)) (t' := .int) (by decide) (by decide)))
  have F_first_a1_8 : Fld Z h8 a1 "com/example/fettle/fettle/regex/Counts" "first" "I" (.int fi) := F_first_a1.other W8 (Or.inr (slot_ne (Or.inl (hw _ (List.mem_of_getElem? (i := 57) rfl))) (Or.inl (hw _ (List.mem_of_getElem? (i := 47) rfl))) (by decide) (t := .int) (t' := .int) (by decide) (by decide)))
  have Fx_runs_a1_8 : Fld Z h8 a1 "com/example/fettle/fettle/regex/Counts" "runs" "I" (.int (1 : Int32)) := Fx_runs_a1.other W8 (Or.inr (slot_ne (Or.inl (hw _ (List.mem_of_getElem? (i := 29) rfl))) (Or.inl (hw _ (List.mem_of_getElem? (i := 47) rfl))) (by decide) (t := .int) (t' := .int) (by decide) (by decide)))
  have Fx_starting_a1_8 : Fld Z h8 a1 "com/example/fettle/fettle/regex/Counts" "starting" "Z" (.int (0 : Int32)) := Fx_starting_a1.other W8 (Or.inr (slot_ne (Or.inl (hw _ (List.mem_of_getElem? (i := 31) rfl))) (Or.inl (hw _ (List.mem_of_getElem? (i := 47) rfl))) (by decide) (t := .boolean) (t' := .int) (by decide) (by decide)))
  have F_least_a1_8 : Fld Z h8 a1 "com/example/fettle/fettle/regex/Counts" "least" "I" (.int le) := F_least_a1.other W8 (Or.inr (slot_ne (Or.inr (hw _ (List.mem_of_getElem? (i := 20) rfl))) (Or.inl (hw _ (List.mem_of_getElem? (i := 47) rfl))) (by decide) (t := .int) (t' := .int) (by decide) (by decide)))
  have F_most_a1_8 : Fld Z h8 a1 "com/example/fettle/fettle/regex/Counts" "most" "I" (.int mo) := F_most_a1.other W8 (Or.inr (slot_ne (Or.inr (hw _ (List.mem_of_getElem? (i := 22) rfl))) (Or.inl (hw _ (List.mem_of_getElem? (i := 47) rfl))) (by decide) (t := .int) (t' := .int) (by decide) (by decide)))
  have V_o_a1_8 : Arv Z h8 o ko .int (4 : Int32) lo (.int (0 : Int32)) := V_o_a1.other W8 (Ne.symm n1)
  have V_w_a1_8 : Arv Z h8 w kw .int (4 : Int32) lw (.int (0 : Int32)) := V_w_a1.other W8 (Ne.symm n2)
  have E_ab_8 : Exa Z h8 ab "com/example/fettle/fettle/regex/Counts" := E_ab.wr W8
  have F_oldest_ab_8 : Fld Z h8 ab "com/example/fettle/fettle/regex/Counts" "oldest" "[I" (.ref ob) := F_oldest_ab.other W8 (Or.inl (Ne.symm m1))
  have F_newest_ab_8 : Fld Z h8 ab "com/example/fettle/fettle/regex/Counts" "newest" "[I" (.ref wb) := F_newest_ab.other W8 (Or.inl (Ne.symm m1))
  have F_first_ab_8 : Fld Z h8 ab "com/example/fettle/fettle/regex/Counts" "first" "I" (.int fib) := F_first_ab.other W8 (Or.inl (Ne.symm m1))
  have Fx_runs_ab_8 : Fld Z h8 ab "com/example/fettle/fettle/regex/Counts" "runs" "I" (.int (0 : Int32)) := Fx_runs_ab.other W8 (Or.inl (Ne.symm m1))
  have F_clock_ab_8 : Fld Z h8 ab "com/example/fettle/fettle/regex/Counts" "clock" "I" (.int clb) := F_clock_ab.other W8 (Or.inl (Ne.symm m1))
  have F_starting_ab_8 : Fld Z h8 ab "com/example/fettle/fettle/regex/Counts" "starting" "Z" (.int stb) := F_starting_ab.other W8 (Or.inl (Ne.symm m1))
  have F_least_ab_8 : Fld Z h8 ab "com/example/fettle/fettle/regex/Counts" "least" "I" (.int leb) := F_least_ab.other W8 (Or.inl (Ne.symm m1))
  have F_most_ab_8 : Fld Z h8 ab "com/example/fettle/fettle/regex/Counts" "most" "I" (.int mob) := F_most_ab.other W8 (Or.inl (Ne.symm m1))
  have V_o_ab_8 : Arv Z h8 ob kob .int (4 : Int32) lob (.int (0 : Int32)) := V_o_ab.other W8 (Ne.symm m2)
  have V_w_ab_8 : Arv Z h8 wb kwb .int (4 : Int32) lwb (.int (0 : Int32)) := V_w_ab.other W8 (Ne.symm m3)
  have Kp8 : Keep h0 h8 [a1, o, w, ab] := Kp0.wr W8 (Or.inl (List.mem_of_getElem? (i := 0) rfl))
  have N8 := Fr.snoc X8 N0 g_a1
  have Z8 : n0 ≤ h8.size := Nat.le_trans Z0 (Keep.of_wr W8).1
  have F_clock_a1_8 : Fld Z h8 a1 "com/example/fettle/fettle/regex/Counts" "clock" "I" (.int (cl + (1 : Int32))) := F_clock_a1.same W8
  have pre9 := fun τ (κ : Steps p.tables e below (T8.setTop (mkF m 26 #[.val (.ref a1), .val (.ref ab), .unset] [])) τ) => pre7 τ (st8 _ κ)
  have pre10 := fun τ (κ : Steps p.tables e below (T8.setTop (mkF m 27 #[.val (.ref a1), .val (.ref ab), .unset] [(.ref a1)])) τ) => pre9 τ (by
    refine XS.aloadN X8.here hx rfl (hb hby d6_26) rfl rfl ?_
    show Steps p.tables e below (T8.setTop (mkF m 27 #[.val (.ref a1), .val (.ref ab), .unset] [(.ref a1)])) _
    exact κ)
  obtain ⟨cq11, q11, q11'⟩ := E_a1_8.cell
  obtain ⟨_, _, ⟨T11, L11, k11, n11⟩, -, X11, ⟨Lc11, hQ11, l11, y11, z11⟩, st11⟩ := X8.privateBack hx (y := (⟨"com/example/fettle/fettle/regex/Counts", "largest", "()I"⟩ : MethodName)) hown (mvT hZ (hw _ (List.mem_of_getElem? (i := 58) rfl))) (mvT hZ (hw _ (List.mem_of_getElem? (i := 59) rfl))) (own_sel hZ (hw _ (List.mem_of_getElem? (i := 6) rfl)) (hw _ (List.mem_of_getElem? (i := 60) rfl)) (hw _ (List.mem_of_getElem? (i := 59) rfl)) (by decide)) (Cond.privateMethod_at (mvP hZ (hw _ (List.mem_of_getElem? (i := 60) rfl)) (args := #[]))) (mvT hZ (hw _ (List.mem_of_getElem? (i := 61) rfl))) (by decide) (backOf (W := 0) (rm10 l Z a0 hw [] a1 o ko fi (cl + (1 : Int32)) ov lo h8 n0 Z8 F_clock_a1_8 F_oldest_a1_8 F_first_a1_8 V_o_a1_8 hfi hov) hZ (hw _ (List.mem_of_getElem? (i := 61) rfl)) (hw _ (List.mem_of_getElem? (i := 7) rfl)) (by decide) (by decide)) (g := (mkF m 27 #[.val (.ref a1), .val (.ref ab), .unset] [(.ref a1)])) rfl (by rw [hml]; rfl) (Steps.refl _) (a := a1) (by rw [e8]; exact q11) q11' (argsL := []) (rest := []) (lenOf pd_2 rfl) rfl (by show 2 * 0 + _ ≤ _; exact Nat.le_of_eq rfl) (hb hby d6_27) (fun _ _ => ⟨rfl, e8, (by decide : 0 + 0 ≤ _), (by decide : 0 + 0 ≤ _)⟩)
  dsimp only [Pt.U, Pt.locs, Pt.cells, Pt.slots] at X11 l11 y11 z11 st11 hQ11
  subst l11 y11 z11
  obtain ⟨rfl, Nq11, hh11⟩ := hQ11
  have E_a1_11 : Exa Z T11.heap a1 "com/example/fettle/fettle/regex/Counts" := by rw [hh11]; exact E_a1_8
  have F_oldest_a1_11 : Fld Z T11.heap a1 "com/example/fettle/fettle/regex/Counts" "oldest" "[I" (.ref o) := by rw [hh11]; exact F_oldest_a1_8
  have F_newest_a1_11 : Fld Z T11.heap a1 "com/example/fettle/fettle/regex/Counts" "newest" "[I" (.ref w) := by rw [hh11]; exact F_newest_a1_8
  have F_first_a1_11 : Fld Z T11.heap a1 "com/example/fettle/fettle/regex/Counts" "first" "I" (.int fi) := by rw [hh11]; exact F_first_a1_8
  have Fx_runs_a1_11 : Fld Z T11.heap a1 "com/example/fettle/fettle/regex/Counts" "runs" "I" (.int (1 : Int32)) := by rw [hh11]; exact Fx_runs_a1_8
  have Fx_starting_a1_11 : Fld Z T11.heap a1 "com/example/fettle/fettle/regex/Counts" "starting" "Z" (.int (0 : Int32)) := by rw [hh11]; exact Fx_starting_a1_8
  have F_least_a1_11 : Fld Z T11.heap a1 "com/example/fettle/fettle/regex/Counts" "least" "I" (.int le) := by rw [hh11]; exact F_least_a1_8
  have F_most_a1_11 : Fld Z T11.heap a1 "com/example/fettle/fettle/regex/Counts" "most" "I" (.int mo) := by rw [hh11]; exact F_most_a1_8
  have V_o_a1_11 : Arv Z T11.heap o ko .int (4 : Int32) lo (.int (0 : Int32)) := by rw [hh11]; exact V_o_a1_8
  have V_w_a1_11 : Arv Z T11.heap w kw .int (4 : Int32) lw (.int (0 : Int32)) := by rw [hh11]; exact V_w_a1_8
  have E_ab_11 : Exa Z T11.heap ab "com/example/fettle/fettle/regex/Counts" := by rw [hh11]; exact E_ab_8
  have F_oldest_ab_11 : Fld Z T11.heap ab "com/example/fettle/fettle/regex/Counts" "oldest" "[I" (.ref ob) := by rw [hh11]; exact F_oldest_ab_8
  have F_newest_ab_11 : Fld Z T11.heap ab "com/example/fettle/fettle/regex/Counts" "newest" "[I" (.ref wb) := by rw [hh11]; exact F_newest_ab_8
  have F_first_ab_11 : Fld Z T11.heap ab "com/example/fettle/fettle/regex/Counts" "first" "I" (.int fib) := by rw [hh11]; exact F_first_ab_8
  have Fx_runs_ab_11 : Fld Z T11.heap ab "com/example/fettle/fettle/regex/Counts" "runs" "I" (.int (0 : Int32)) := by rw [hh11]; exact Fx_runs_ab_8
  have F_clock_ab_11 : Fld Z T11.heap ab "com/example/fettle/fettle/regex/Counts" "clock" "I" (.int clb) := by rw [hh11]; exact F_clock_ab_8
  have F_starting_ab_11 : Fld Z T11.heap ab "com/example/fettle/fettle/regex/Counts" "starting" "Z" (.int stb) := by rw [hh11]; exact F_starting_ab_8
  have F_least_ab_11 : Fld Z T11.heap ab "com/example/fettle/fettle/regex/Counts" "least" "I" (.int leb) := by rw [hh11]; exact F_least_ab_8
  have F_most_ab_11 : Fld Z T11.heap ab "com/example/fettle/fettle/regex/Counts" "most" "I" (.int mob) := by rw [hh11]; exact F_most_ab_8
  have V_o_ab_11 : Arv Z T11.heap ob kob .int (4 : Int32) lob (.int (0 : Int32)) := by rw [hh11]; exact V_o_ab_8
  have V_w_ab_11 : Arv Z T11.heap wb kwb .int (4 : Int32) lwb (.int (0 : Int32)) := by rw [hh11]; exact V_w_ab_8
  have F_clock_a1_11 : Fld Z T11.heap a1 "com/example/fettle/fettle/regex/Counts" "clock" "I" (.int (cl + (1 : Int32))) := by rw [hh11]; exact F_clock_a1_8
  have Z11 : n0 ≤ T11.heap.size := by rw [hh11]; exact Z8
  have Kp11 : Keep h0 T11.heap [a1, o, w, ab] := by rw [hh11]; exact Kp8
  have N11 := Fr.app N8 Nq11
  have pre12 := fun τ (κ : Steps p.tables e below (T11.setTop (mkF m 30 #[.val (.ref a1), .val (.ref ab), .unset] [(.int ((cl + (1 : Int32)) - ov))])) τ) => pre10 τ (st11.trans κ)
  have pre13 := fun τ (κ : Steps p.tables e below (T11.setTop (mkF m 31 #[.val (.ref a1), .val (.ref ab), .unset] [(.ref a1), (.int ((cl + (1 : Int32)) - ov))])) τ) => pre12 τ (by
    refine XS.aloadN X11.here hx rfl (hb hby d6_30) rfl rfl ?_
    show Steps p.tables e below (T11.setTop (mkF m 31 #[.val (.ref a1), .val (.ref ab), .unset] [(.ref a1), (.int ((cl + (1 : Int32)) - ov))])) _
    exact κ)
  obtain ⟨T14, X14, e14, st14⟩ := getF X11 hx hZ hown (host := "") (Or.inl (hw _ (List.mem_of_getElem? (i := 19) rfl))) Via.refl rfl F_least_a1_11 (g := (mkF m 31 #[.val (.ref a1), .val (.ref ab), .unset] [(.ref a1), (.int ((cl + (1 : Int32)) - ov))])) rfl rfl (hb hby d6_31)
  have pre15 := fun τ (κ : Steps p.tables e below (T14.setTop (mkF m 34 #[.val (.ref a1), .val (.ref ab), .unset] [(.int le), (.int ((cl + (1 : Int32)) - ov))])) τ) => pre13 τ (st14 _ κ)
  obtain ⟨may, pre16⟩ : ∃ may : Int32, ∀ τ, Steps p.tables e below (T14.setTop (mkF m 43 #[.val (.ref a1), .val (.ref ab), .val (.int may)] [])) τ → Steps p.tables e below (s₁.setTop (entryFrame m #[(.ref a1), (.ref ab)] 3)) τ := by
    by_cases q1 : ((cl + (1 : Int32)) - ov) < le
    · have pre17 := fun τ (κ : Steps p.tables e below (T14.setTop (mkF m 43 #[.val (.ref a1), .val (.ref ab), .val (.int (0 : Int32))] [])) τ) => pre15 τ (by
        refine XS.icmpYes X14.here hx rfl (pc0 := 34) (pc' := 41) rfl (hb hby d6_34) rfl (tlt q1).1 (by decide) (by decide) ?_
        show Steps p.tables e below (T14.setTop (mkF m 41 #[.val (.ref a1), .val (.ref ab), .unset] [])) _
        refine XS.iconst X14.here hx rfl (hb hby d6_41) ?_
        show Steps p.tables e below (T14.setTop (mkF m 42 #[.val (.ref a1), .val (.ref ab), .unset] [(.int (0 : Int32))])) _
        refine XS.istoreN X14.here hx rfl (hb hby d6_42) rfl (l' := #[.val (.ref a1), .val (.ref ab), .val (.int (0 : Int32))]) rfl ?_
        show Steps p.tables e below (T14.setTop (mkF m 43 #[.val (.ref a1), .val (.ref ab), .val (.int (0 : Int32))] [])) _
        exact κ)
      exact ⟨_, pre17⟩
    · have pre18 := fun τ (κ : Steps p.tables e below (T14.setTop (mkF m 43 #[.val (.ref a1), .val (.ref ab), .val (.int (1 : Int32))] [])) τ) => pre15 τ (by
        refine XS.icmpNo X14.here hx rfl (hb hby d6_34) rfl (flt q1).1 ?_
        show Steps p.tables e below (T14.setTop (mkF m 37 #[.val (.ref a1), .val (.ref ab), .unset] [])) _
        refine XS.iconst X14.here hx rfl (hb hby d6_37) ?_
        show Steps p.tables e below (T14.setTop (mkF m 38 #[.val (.ref a1), .val (.ref ab), .unset] [(.int (1 : Int32))])) _
        refine XS.goto X14.here hx rfl (pc0 := 38) (pc' := 42) rfl (hb hby d6_38) (by decide) (by decide) ?_
        show Steps p.tables e below (T14.setTop (mkF m 42 #[.val (.ref a1), .val (.ref ab), .unset] [(.int (1 : Int32))])) _
        refine XS.istoreN X14.here hx rfl (hb hby d6_42) rfl (l' := #[.val (.ref a1), .val (.ref ab), .val (.int (1 : Int32))]) rfl ?_
        show Steps p.tables e below (T14.setTop (mkF m 43 #[.val (.ref a1), .val (.ref ab), .val (.int (1 : Int32))] [])) _
        exact κ)
      exact ⟨_, pre18⟩
  have pre19 := fun τ (κ : Steps p.tables e below (T14.setTop (mkF m 44 #[.val (.ref a1), .val (.ref ab), .val (.int may)] [(.ref a1)])) τ) => pre16 τ (by
    refine XS.aloadN X14.here hx rfl (hb hby d6_43) rfl rfl ?_
    show Steps p.tables e below (T14.setTop (mkF m 44 #[.val (.ref a1), .val (.ref ab), .val (.int may)] [(.ref a1)])) _
    exact κ)
  obtain ⟨T20, X20, e20, st20⟩ := getF X14 hx hZ hown (host := "") (Or.inl (hw _ (List.mem_of_getElem? (i := 21) rfl))) Via.refl e14 F_most_a1_11 (g := (mkF m 44 #[.val (.ref a1), .val (.ref ab), .val (.int may)] [(.ref a1)])) rfl rfl (hb hby d6_44)
  have pre21 := fun τ (κ : Steps p.tables e below (T20.setTop (mkF m 47 #[.val (.ref a1), .val (.ref ab), .val (.int may)] [(.int mo)])) τ) => pre19 τ (st20 _ κ)
  have pre22 := fun τ (κ : Steps p.tables e below (T20.setTop (mkF m 48 #[.val (.ref a1), .val (.ref ab), .val (.int may)] [(.int (-1 : Int32)), (.int mo)])) τ) => pre21 τ (by
    refine XS.iconst X20.here hx rfl (hb hby d6_47) ?_
    show Steps p.tables e below (T20.setTop (mkF m 48 #[.val (.ref a1), .val (.ref ab), .val (.int may)] [(.int (-1 : Int32)), (.int mo)])) _
    exact κ)
  by_cases q1 : mo = (-1 : Int32)
  · have pre23 := fun τ (κ : Steps p.tables e below (T20.setTop (mkF m 63 #[.val (.ref a1), .val (.ref ab), .val (.int may)] [(.ref a1)])) τ) => pre22 τ (by
      refine XS.icmpYes X20.here hx rfl (pc0 := 48) (pc' := 62) rfl (hb hby d6_48) rfl (teq q1).1 (by decide) (by decide) ?_
      show Steps p.tables e below (T20.setTop (mkF m 62 #[.val (.ref a1), .val (.ref ab), .val (.int may)] [])) _
      refine XS.aloadN X20.here hx rfl (hb hby d6_62) rfl rfl ?_
      show Steps p.tables e below (T20.setTop (mkF m 63 #[.val (.ref a1), .val (.ref ab), .val (.int may)] [(.ref a1)])) _
      exact κ)
    obtain ⟨cq24, q24, q24'⟩ := E_a1_11.cell
    obtain ⟨_, _, ⟨T24, L24, k24, n24⟩, -, X24, ⟨Lc24, hQ24, l24, y24, z24⟩, st24⟩ := X20.privateBack hx (y := (⟨"com/example/fettle/fettle/regex/Counts", "secondLargest", "()I"⟩ : MethodName)) hown (mvT hZ (hw _ (List.mem_of_getElem? (i := 62) rfl))) (mvT hZ (hw _ (List.mem_of_getElem? (i := 63) rfl))) (own_sel hZ (hw _ (List.mem_of_getElem? (i := 6) rfl)) (hw _ (List.mem_of_getElem? (i := 64) rfl)) (hw _ (List.mem_of_getElem? (i := 63) rfl)) (by decide)) (Cond.privateMethod_at (mvP hZ (hw _ (List.mem_of_getElem? (i := 64) rfl)) (args := #[]))) (mvT hZ (hw _ (List.mem_of_getElem? (i := 65) rfl))) (by decide) (backOf (W := 0) (rm11 l Z a0 hw [] a1 o w ko kw fi 1 (cl + (1 : Int32)) 0 le mo lo lw ov ov T11.heap n0 Z11 ⟨E_a1_11, F_oldest_a1_11, F_newest_a1_11, F_first_a1_11, Fx_runs_a1_11, F_clock_a1_11, Fx_starting_a1_11, F_least_a1_11, F_most_a1_11, V_o_a1_11, V_w_a1_11⟩ (Or.inr rfl) hfi hov hnv n1 n2 n3) hZ (hw _ (List.mem_of_getElem? (i := 65) rfl)) (hw _ (List.mem_of_getElem? (i := 7) rfl)) (by decide) (by decide)) (g := (mkF m 63 #[.val (.ref a1), .val (.ref ab), .val (.int may)] [(.ref a1)])) rfl (by rw [hml]; rfl) (Steps.refl _) (a := a1) (by rw [e20]; exact q24) q24' (argsL := []) (rest := []) (lenOf pd_2 rfl) rfl (by show 2 * 0 + _ ≤ _; exact Nat.le_of_eq rfl) (hb hby d6_63) (fun _ _ => ⟨rfl, e20, (by decide : 0 + 0 ≤ _), (by decide : 0 + 0 ≤ _)⟩)
    dsimp only [Pt.U, Pt.locs, Pt.cells, Pt.slots] at X24 l24 y24 z24 st24 hQ24
    subst l24 y24 z24
    obtain ⟨rfl, Nq24, hh24⟩ := hQ24
    have E_a1_24 : Exa Z T24.heap a1 "com/example/fettle/fettle/regex/Counts" := by rw [hh24]; exact E_a1_11
    have F_oldest_a1_24 : Fld Z T24.heap a1 "com/example/fettle/fettle/regex/Counts" "oldest" "[I" (.ref o) := by rw [hh24]; exact F_oldest_a1_11
    have F_newest_a1_24 : Fld Z T24.heap a1 "com/example/fettle/fettle/regex/Counts" "newest" "[I" (.ref w) := by rw [hh24]; exact F_newest_a1_11
    have F_first_a1_24 : Fld Z T24.heap a1 "com/example/fettle/fettle/regex/Counts" "first" "I" (.int fi) := by rw [hh24]; exact F_first_a1_11
    have Fx_runs_a1_24 : Fld Z T24.heap a1 "com/example/fettle/fettle/regex/Counts" "runs" "I" (.int (1 : Int32)) := by rw [hh24]; exact Fx_runs_a1_11
    have Fx_starting_a1_24 : Fld Z T24.heap a1 "com/example/fettle/fettle/regex/Counts" "starting" "Z" (.int (0 : Int32)) := by rw [hh24]; exact Fx_starting_a1_11
    have F_least_a1_24 : Fld Z T24.heap a1 "com/example/fettle/fettle/regex/Counts" "least" "I" (.int le) := by rw [hh24]; exact F_least_a1_11
    have F_most_a1_24 : Fld Z T24.heap a1 "com/example/fettle/fettle/regex/Counts" "most" "I" (.int mo) := by rw [hh24]; exact F_most_a1_11
    have V_o_a1_24 : Arv Z T24.heap o ko .int (4 : Int32) lo (.int (0 : Int32)) := by rw [hh24]; exact V_o_a1_11
    have V_w_a1_24 : Arv Z T24.heap w kw .int (4 : Int32) lw (.int (0 : Int32)) := by rw [hh24]; exact V_w_a1_11
    have E_ab_24 : Exa Z T24.heap ab "com/example/fettle/fettle/regex/Counts" := by rw [hh24]; exact E_ab_11
    have F_oldest_ab_24 : Fld Z T24.heap ab "com/example/fettle/fettle/regex/Counts" "oldest" "[I" (.ref ob) := by rw [hh24]; exact F_oldest_ab_11
    have F_newest_ab_24 : Fld Z T24.heap ab "com/example/fettle/fettle/regex/Counts" "newest" "[I" (.ref wb) := by rw [hh24]; exact F_newest_ab_11
    have F_first_ab_24 : Fld Z T24.heap ab "com/example/fettle/fettle/regex/Counts" "first" "I" (.int fib) := by rw [hh24]; exact F_first_ab_11
    have Fx_runs_ab_24 : Fld Z T24.heap ab "com/example/fettle/fettle/regex/Counts" "runs" "I" (.int (0 : Int32)) := by rw [hh24]; exact Fx_runs_ab_11
    have F_clock_ab_24 : Fld Z T24.heap ab "com/example/fettle/fettle/regex/Counts" "clock" "I" (.int clb) := by rw [hh24]; exact F_clock_ab_11
    have F_starting_ab_24 : Fld Z T24.heap ab "com/example/fettle/fettle/regex/Counts" "starting" "Z" (.int stb) := by rw [hh24]; exact F_starting_ab_11
    have F_least_ab_24 : Fld Z T24.heap ab "com/example/fettle/fettle/regex/Counts" "least" "I" (.int leb) := by rw [hh24]; exact F_least_ab_11
    have F_most_ab_24 : Fld Z T24.heap ab "com/example/fettle/fettle/regex/Counts" "most" "I" (.int mob) := by rw [hh24]; exact F_most_ab_11
    have V_o_ab_24 : Arv Z T24.heap ob kob .int (4 : Int32) lob (.int (0 : Int32)) := by rw [hh24]; exact V_o_ab_11
    have V_w_ab_24 : Arv Z T24.heap wb kwb .int (4 : Int32) lwb (.int (0 : Int32)) := by rw [hh24]; exact V_w_ab_11
    have F_clock_a1_24 : Fld Z T24.heap a1 "com/example/fettle/fettle/regex/Counts" "clock" "I" (.int (cl + (1 : Int32))) := by rw [hh24]; exact F_clock_a1_11
    have Z24 : n0 ≤ T24.heap.size := by rw [hh24]; exact Z11
    have Kp24 : Keep h0 T24.heap [a1, o, w, ab] := by rw [hh24]; exact Kp11
    have N24 := Fr.app N11 Nq24
    have pre25 := fun τ (κ : Steps p.tables e below (T24.setTop (mkF m 66 #[.val (.ref a1), .val (.ref ab), .val (.int may)] [(.int (own_sec 1 ov ov (cl + (1 : Int32))))])) τ) => pre23 τ (st24.trans κ)
    have pre26 := fun τ (κ : Steps p.tables e below (T24.setTop (mkF m 67 #[.val (.ref a1), .val (.ref ab), .val (.int may)] [(.ref a1), (.int (own_sec 1 ov ov (cl + (1 : Int32))))])) τ) => pre25 τ (by
      refine XS.aloadN X24.here hx rfl (hb hby d6_66) rfl rfl ?_
      show Steps p.tables e below (T24.setTop (mkF m 67 #[.val (.ref a1), .val (.ref ab), .val (.int may)] [(.ref a1), (.int (own_sec 1 ov ov (cl + (1 : Int32))))])) _
      exact κ)
    obtain ⟨T27, X27, e27, st27⟩ := getF X24 hx hZ hown (host := "") (Or.inl (hw _ (List.mem_of_getElem? (i := 19) rfl))) Via.refl rfl F_least_a1_24 (g := (mkF m 67 #[.val (.ref a1), .val (.ref ab), .val (.int may)] [(.ref a1), (.int (own_sec 1 ov ov (cl + (1 : Int32))))])) rfl rfl (hb hby d6_67)
    have pre28 := fun τ (κ : Steps p.tables e below (T27.setTop (mkF m 70 #[.val (.ref a1), .val (.ref ab), .val (.int may)] [(.int le), (.int (own_sec 1 ov ov (cl + (1 : Int32))))])) τ) => pre26 τ (st27 _ κ)
    have pre29 := fun τ (κ : Steps p.tables e below (T27.setTop (mkF m 79 #[.val (.ref a1), .val (.ref ab), .val (.int may)] [(.ref a1), (.ref ab)])) τ) => pre28 τ (by
      refine XS.icmpYes X27.here hx rfl (pc0 := 70) (pc' := 77) rfl (hb hby d6_70) rfl (tlt (by rw [own_sec, if_neg fun z => z.2 rfl]; exact own_nn1 hle0)).1 (by decide) (by decide) ?_
      show Steps p.tables e below (T27.setTop (mkF m 77 #[.val (.ref a1), .val (.ref ab), .val (.int may)] [])) _
      refine XS.aloadN X27.here hx rfl (hb hby d6_77) rfl rfl ?_
      show Steps p.tables e below (T27.setTop (mkF m 78 #[.val (.ref a1), .val (.ref ab), .val (.int may)] [(.ref ab)])) _
      refine XS.aloadN X27.here hx rfl (hb hby d6_78) rfl rfl ?_
      show Steps p.tables e below (T27.setTop (mkF m 79 #[.val (.ref a1), .val (.ref ab), .val (.int may)] [(.ref a1), (.ref ab)])) _
      exact κ)
    obtain ⟨cq30, q30, q30'⟩ := E_ab_24.cell
    obtain ⟨_, _, ⟨T30, L30, k30, n30⟩, -, X30, ⟨Lc30, hQ30, l30, y30, z30⟩, st30⟩ := X27.privateBack hx (y := (⟨"com/example/fettle/fettle/regex/Counts", "join", "(Lcom/example/fettle/fettle/regex/Counts;)V"⟩ : MethodName)) hown (mvT hZ (hw _ (List.mem_of_getElem? (i := 66) rfl))) (mvT hZ (hw _ (List.mem_of_getElem? (i := 67) rfl))) (own_sel hZ (hw _ (List.mem_of_getElem? (i := 6) rfl)) (hw _ (List.mem_of_getElem? (i := 68) rfl)) (hw _ (List.mem_of_getElem? (i := 67) rfl)) (by decide)) (Cond.privateMethod_at (mvP hZ (hw _ (List.mem_of_getElem? (i := 68) rfl)) (args := #[]))) (mvT hZ (hw _ (List.mem_of_getElem? (i := 69) rfl))) (by decide) (backOf (W := 0) (rm12 l Z a0 hw [] ab a1 ob wb kob kwb fib 0 clb stb leb mob lob lwb o w ko kw fi 1 (cl + (1 : Int32)) 0 le mo lo lw T24.heap n0 Z24 ⟨E_ab_24, F_oldest_ab_24, F_newest_ab_24, F_first_ab_24, Fx_runs_ab_24, F_clock_ab_24, F_starting_ab_24, F_least_ab_24, F_most_ab_24, V_o_ab_24, V_w_ab_24⟩ ⟨E_a1_24, F_oldest_a1_24, F_newest_a1_24, F_first_a1_24, Fx_runs_a1_24, F_clock_a1_24, Fx_starting_a1_24, F_least_a1_24, F_most_a1_24, V_o_a1_24, V_w_a1_24⟩ rfl m6 m7 n32 (Ne.symm m1) m4 m5 m2 m3 n1 n2 g_ab g_a1) hZ (hw _ (List.mem_of_getElem? (i := 69) rfl)) (hw _ (List.mem_of_getElem? (i := 7) rfl)) (by decide) (by decide)) (g := (mkF m 79 #[.val (.ref a1), .val (.ref ab), .val (.int may)] [(.ref a1), (.ref ab)])) rfl (by rw [hml]; rfl) (Steps.refl _) (a := ab) (by rw [e27]; exact q30) q30' (argsL := [(.ref a1)]) (rest := []) (lenOf pd_3 rfl) rfl (by show 2 * 0 + _ ≤ _; exact Nat.le_of_eq rfl) (hb hby d6_79) (fun _ _ => ⟨rfl, e27, (by decide : 0 + 0 ≤ _), (by decide : 0 + 0 ≤ _)⟩)
    dsimp only [Pt.U, Pt.locs, Pt.cells, Pt.slots] at X30 l30 y30 z30 st30 hQ30
    subst l30 y30 z30
    obtain ⟨rfl, Nq30, K30, Q130, Q230⟩ := hQ30
    have E_a1_30 : Exa Z T30.heap a1 "com/example/fettle/fettle/regex/Counts" := E_a1_24.keep K30
    have V_o_a1_30 : Arv Z T30.heap o ko .int (4 : Int32) lo (.int (0 : Int32)) := V_o_a1_24.keep K30 (ninS (Ne.symm m4) (ninS (Ne.symm n1) nin0))
    have V_w_a1_30 : Arv Z T30.heap w kw .int (4 : Int32) lw (.int (0 : Int32)) := V_w_a1_24.keep K30 (ninS (Ne.symm m5) (ninS (Ne.symm n2) nin0))
    have E_ab_30 : Exa Z T30.heap ab "com/example/fettle/fettle/regex/Counts" := E_ab_24.keep K30
    have V_o_ab_30 : Arv Z T30.heap ob kob .int (4 : Int32) lob (.int (0 : Int32)) := V_o_ab_24.keep K30 (ninS (Ne.symm m6) (ninS (Ne.symm m2) nin0))
    have V_w_ab_30 : Arv Z T30.heap wb kwb .int (4 : Int32) lwb (.int (0 : Int32)) := V_w_ab_24.keep K30 (ninS (Ne.symm m7) (ninS (Ne.symm m3) nin0))
    have Z30 : n0 ≤ T30.heap.size := Nat.le_trans Z24 K30.1
    have Kp30 : Keep h0 T30.heap [a1, o, w, ab] := Kp24.trans K30 (allS (Or.inl (List.mem_of_getElem? (i := 3) rfl)) (allS (Or.inl (List.mem_of_getElem? (i := 0) rfl)) all0))
    have N30 := Fr.app N24 Nq30
    have pre31 := fun τ (κ : Steps p.tables e below (T30.setTop (mkF m 82 #[.val (.ref a1), .val (.ref ab), .val (.int may)] [])) τ) => pre29 τ (st30.trans κ)
    have pre32 := fun τ (κ : Steps p.tables e below (T30.setTop (mkF m 83 #[.val (.ref a1), .val (.ref ab), .val (.int may)] [(.int may)])) τ) => pre31 τ (by
      refine XS.iloadN X30.here hx rfl (hb hby d6_82) rfl ?_
      show Steps p.tables e below (T30.setTop (mkF m 83 #[.val (.ref a1), .val (.ref ab), .val (.int may)] [(.int may)])) _
      exact κ)
    obtain ⟨b0, -, -, -, b4, -, b6, -⟩ := Q130
    obtain ⟨a0', -, -, -, a4, -, a6, -⟩ := Q230
    obtain ⟨fs, hr, hrun, hended, hW, hsame⟩ := X30.leave (v := some (.int (nar .boolean may))) (fun h => by rw [Bd.returns] at h; cases h)
    refine ⟨_, _, pre32 _ ?_, hrun, hended, _, _, rfl, ?_, ⟨_, rfl⟩, hW, hsame.mono (by decide) (by decide)⟩
    · exact retN X30 hx (t := .boolean) Bd.returns (by simp) (hb hby d6_83) hr
    · show Q6c Z a1 ab o w ko kw fi ru cl st le mo lo lw ob wb kob kwb fib rub clb stb leb mob lob lwb ov h0 n0 _ T30.heap _
      exact ⟨_, rfl, N30, Kp30, a0', a4, a6, b0, b6, Or.inr ⟨fun z => z.1 q1, b4⟩⟩
  · have pre33 := fun τ (κ : Steps p.tables e below (T20.setTop (mkF m 52 #[.val (.ref a1), .val (.ref ab), .val (.int may)] [(.ref a1)])) τ) => pre22 τ (by
      refine XS.icmpNo X20.here hx rfl (hb hby d6_48) rfl (feq q1).1 ?_
      show Steps p.tables e below (T20.setTop (mkF m 51 #[.val (.ref a1), .val (.ref ab), .val (.int may)] [])) _
      refine XS.aloadN X20.here hx rfl (hb hby d6_51) rfl rfl ?_
      show Steps p.tables e below (T20.setTop (mkF m 52 #[.val (.ref a1), .val (.ref ab), .val (.int may)] [(.ref a1)])) _
      exact κ)
    obtain ⟨cq34, q34, q34'⟩ := E_a1_11.cell
    obtain ⟨_, _, ⟨T34, L34, k34, n34⟩, -, X34, ⟨Lc34, hQ34, l34, y34, z34⟩, st34⟩ := X20.privateBack hx (y := (⟨"com/example/fettle/fettle/regex/Counts", "largest", "()I"⟩ : MethodName)) hown (mvT hZ (hw _ (List.mem_of_getElem? (i := 58) rfl))) (mvT hZ (hw _ (List.mem_of_getElem? (i := 59) rfl))) (own_sel hZ (hw _ (List.mem_of_getElem? (i := 6) rfl)) (hw _ (List.mem_of_getElem? (i := 60) rfl)) (hw _ (List.mem_of_getElem? (i := 59) rfl)) (by decide)) (Cond.privateMethod_at (mvP hZ (hw _ (List.mem_of_getElem? (i := 60) rfl)) (args := #[]))) (mvT hZ (hw _ (List.mem_of_getElem? (i := 61) rfl))) (by decide) (backOf (W := 0) (rm10 l Z a0 hw [] a1 o ko fi (cl + (1 : Int32)) ov lo T11.heap n0 Z11 F_clock_a1_11 F_oldest_a1_11 F_first_a1_11 V_o_a1_11 hfi hov) hZ (hw _ (List.mem_of_getElem? (i := 61) rfl)) (hw _ (List.mem_of_getElem? (i := 7) rfl)) (by decide) (by decide)) (g := (mkF m 52 #[.val (.ref a1), .val (.ref ab), .val (.int may)] [(.ref a1)])) rfl (by rw [hml]; rfl) (Steps.refl _) (a := a1) (by rw [e20]; exact q34) q34' (argsL := []) (rest := []) (lenOf pd_2 rfl) rfl (by show 2 * 0 + _ ≤ _; exact Nat.le_of_eq rfl) (hb hby d6_52) (fun _ _ => ⟨rfl, e20, (by decide : 0 + 0 ≤ _), (by decide : 0 + 0 ≤ _)⟩)
    dsimp only [Pt.U, Pt.locs, Pt.cells, Pt.slots] at X34 l34 y34 z34 st34 hQ34
    subst l34 y34 z34
    obtain ⟨rfl, Nq34, hh34⟩ := hQ34
    have E_a1_34 : Exa Z T34.heap a1 "com/example/fettle/fettle/regex/Counts" := by rw [hh34]; exact E_a1_11
    have F_oldest_a1_34 : Fld Z T34.heap a1 "com/example/fettle/fettle/regex/Counts" "oldest" "[I" (.ref o) := by rw [hh34]; exact F_oldest_a1_11
    have F_newest_a1_34 : Fld Z T34.heap a1 "com/example/fettle/fettle/regex/Counts" "newest" "[I" (.ref w) := by rw [hh34]; exact F_newest_a1_11
    have F_first_a1_34 : Fld Z T34.heap a1 "com/example/fettle/fettle/regex/Counts" "first" "I" (.int fi) := by rw [hh34]; exact F_first_a1_11
    have Fx_runs_a1_34 : Fld Z T34.heap a1 "com/example/fettle/fettle/regex/Counts" "runs" "I" (.int (1 : Int32)) := by rw [hh34]; exact Fx_runs_a1_11
    have Fx_starting_a1_34 : Fld Z T34.heap a1 "com/example/fettle/fettle/regex/Counts" "starting" "Z" (.int (0 : Int32)) := by rw [hh34]; exact Fx_starting_a1_11
    have F_least_a1_34 : Fld Z T34.heap a1 "com/example/fettle/fettle/regex/Counts" "least" "I" (.int le) := by rw [hh34]; exact F_least_a1_11
    have F_most_a1_34 : Fld Z T34.heap a1 "com/example/fettle/fettle/regex/Counts" "most" "I" (.int mo) := by rw [hh34]; exact F_most_a1_11
    have V_o_a1_34 : Arv Z T34.heap o ko .int (4 : Int32) lo (.int (0 : Int32)) := by rw [hh34]; exact V_o_a1_11
    have V_w_a1_34 : Arv Z T34.heap w kw .int (4 : Int32) lw (.int (0 : Int32)) := by rw [hh34]; exact V_w_a1_11
    have E_ab_34 : Exa Z T34.heap ab "com/example/fettle/fettle/regex/Counts" := by rw [hh34]; exact E_ab_11
    have F_oldest_ab_34 : Fld Z T34.heap ab "com/example/fettle/fettle/regex/Counts" "oldest" "[I" (.ref ob) := by rw [hh34]; exact F_oldest_ab_11
    have F_newest_ab_34 : Fld Z T34.heap ab "com/example/fettle/fettle/regex/Counts" "newest" "[I" (.ref wb) := by rw [hh34]; exact F_newest_ab_11
    have F_first_ab_34 : Fld Z T34.heap ab "com/example/fettle/fettle/regex/Counts" "first" "I" (.int fib) := by rw [hh34]; exact F_first_ab_11
    have Fx_runs_ab_34 : Fld Z T34.heap ab "com/example/fettle/fettle/regex/Counts" "runs" "I" (.int (0 : Int32)) := by rw [hh34]; exact Fx_runs_ab_11
    have F_clock_ab_34 : Fld Z T34.heap ab "com/example/fettle/fettle/regex/Counts" "clock" "I" (.int clb) := by rw [hh34]; exact F_clock_ab_11
    have F_starting_ab_34 : Fld Z T34.heap ab "com/example/fettle/fettle/regex/Counts" "starting" "Z" (.int stb) := by rw [hh34]; exact F_starting_ab_11
    have F_least_ab_34 : Fld Z T34.heap ab "com/example/fettle/fettle/regex/Counts" "least" "I" (.int leb) := by rw [hh34]; exact F_least_ab_11
    have F_most_ab_34 : Fld Z T34.heap ab "com/example/fettle/fettle/regex/Counts" "most" "I" (.int mob) := by rw [hh34]; exact F_most_ab_11
    have V_o_ab_34 : Arv Z T34.heap ob kob .int (4 : Int32) lob (.int (0 : Int32)) := by rw [hh34]; exact V_o_ab_11
    have V_w_ab_34 : Arv Z T34.heap wb kwb .int (4 : Int32) lwb (.int (0 : Int32)) := by rw [hh34]; exact V_w_ab_11
    have F_clock_a1_34 : Fld Z T34.heap a1 "com/example/fettle/fettle/regex/Counts" "clock" "I" (.int (cl + (1 : Int32))) := by rw [hh34]; exact F_clock_a1_11
    have Z34 : n0 ≤ T34.heap.size := by rw [hh34]; exact Z11
    have Kp34 : Keep h0 T34.heap [a1, o, w, ab] := by rw [hh34]; exact Kp11
    have N34 := Fr.app N11 Nq34
    have pre35 := fun τ (κ : Steps p.tables e below (T34.setTop (mkF m 55 #[.val (.ref a1), .val (.ref ab), .val (.int may)] [(.int ((cl + (1 : Int32)) - ov))])) τ) => pre33 τ (st34.trans κ)
    have pre36 := fun τ (κ : Steps p.tables e below (T34.setTop (mkF m 56 #[.val (.ref a1), .val (.ref ab), .val (.int may)] [(.ref a1), (.int ((cl + (1 : Int32)) - ov))])) τ) => pre35 τ (by
      refine XS.aloadN X34.here hx rfl (hb hby d6_55) rfl rfl ?_
      show Steps p.tables e below (T34.setTop (mkF m 56 #[.val (.ref a1), .val (.ref ab), .val (.int may)] [(.ref a1), (.int ((cl + (1 : Int32)) - ov))])) _
      exact κ)
    obtain ⟨T37, X37, e37, st37⟩ := getF X34 hx hZ hown (host := "") (Or.inl (hw _ (List.mem_of_getElem? (i := 21) rfl))) Via.refl rfl F_most_a1_34 (g := (mkF m 56 #[.val (.ref a1), .val (.ref ab), .val (.int may)] [(.ref a1), (.int ((cl + (1 : Int32)) - ov))])) rfl rfl (hb hby d6_56)
    have pre38 := fun τ (κ : Steps p.tables e below (T37.setTop (mkF m 59 #[.val (.ref a1), .val (.ref ab), .val (.int may)] [(.int mo), (.int ((cl + (1 : Int32)) - ov))])) τ) => pre36 τ (st37 _ κ)
    by_cases q2 : ((cl + (1 : Int32)) - ov) = mo
    · have pre39 := fun τ (κ : Steps p.tables e below (T37.setTop (mkF m 74 #[.val (.ref a1), .val (.ref ab), .val (.int may)] [(.ref a1)])) τ) => pre38 τ (by
        refine XS.icmpYes X37.here hx rfl (pc0 := 59) (pc' := 73) rfl (hb hby d6_59) rfl (teq q2).1 (by decide) (by decide) ?_
        show Steps p.tables e below (T37.setTop (mkF m 73 #[.val (.ref a1), .val (.ref ab), .val (.int may)] [])) _
        refine XS.aloadN X37.here hx rfl (hb hby d6_73) rfl rfl ?_
        show Steps p.tables e below (T37.setTop (mkF m 74 #[.val (.ref a1), .val (.ref ab), .val (.int may)] [(.ref a1)])) _
        exact κ)
      obtain ⟨cq40, q40, q40'⟩ := E_a1_34.cell
      obtain ⟨_, _, ⟨T40, L40, k40, n40⟩, -, X40, ⟨Lc40, hQ40, l40, y40, z40⟩, st40⟩ := X37.privateBack hx (y := (⟨"com/example/fettle/fettle/regex/Counts", "dropLargest", "()V"⟩ : MethodName)) hown (mvT hZ (hw _ (List.mem_of_getElem? (i := 74) rfl))) (mvT hZ (hw _ (List.mem_of_getElem? (i := 75) rfl))) (own_sel hZ (hw _ (List.mem_of_getElem? (i := 6) rfl)) (hw _ (List.mem_of_getElem? (i := 76) rfl)) (hw _ (List.mem_of_getElem? (i := 75) rfl)) (by decide)) (Cond.privateMethod_at (mvP hZ (hw _ (List.mem_of_getElem? (i := 76) rfl)) (args := #[]))) (mvT hZ (hw _ (List.mem_of_getElem? (i := 77) rfl))) (by decide) (backOf (W := 0) (rm14a l Z a0 hw [] a1 o w ko kw fi 1 (cl + (1 : Int32)) 0 le mo lo lw ov ov T34.heap n0 Z34 ⟨E_a1_34, F_oldest_a1_34, F_newest_a1_34, F_first_a1_34, Fx_runs_a1_34, F_clock_a1_34, Fx_starting_a1_34, F_least_a1_34, F_most_a1_34, V_o_a1_34, V_w_a1_34⟩ rfl hfi hov hnv hlo' n1 n2 n3 g_a1 g_o g_w) hZ (hw _ (List.mem_of_getElem? (i := 77) rfl)) (hw _ (List.mem_of_getElem? (i := 7) rfl)) (by decide) (by decide)) (g := (mkF m 74 #[.val (.ref a1), .val (.ref ab), .val (.int may)] [(.ref a1)])) rfl (by rw [hml]; rfl) (Steps.refl _) (a := a1) (by rw [e37]; exact q40) q40' (argsL := []) (rest := []) (lenOf pd_4 rfl) rfl (by show 2 * 0 + _ ≤ _; exact Nat.le_of_eq rfl) (hb hby d6_74) (fun _ _ => ⟨rfl, e37, (by decide : 0 + 0 ≤ _), (by decide : 0 + 0 ≤ _)⟩)
      dsimp only [Pt.U, Pt.locs, Pt.cells, Pt.slots] at X40 l40 y40 z40 st40 hQ40
      subst l40 y40 z40
      obtain ⟨rfl, Nq40, K40, P40⟩ := hQ40
      have E_a1_40 : Exa Z T40.heap a1 "com/example/fettle/fettle/regex/Counts" := E_a1_34.keep K40
      have V_w_a1_40 : Arv Z T40.heap w kw .int (4 : Int32) lw (.int (0 : Int32)) := V_w_a1_34.keep K40 (ninS (Ne.symm n2) (ninS (Ne.symm n3) nin0))
      have E_ab_40 : Exa Z T40.heap ab "com/example/fettle/fettle/regex/Counts" := E_ab_34.keep K40
      have F_oldest_ab_40 : Fld Z T40.heap ab "com/example/fettle/fettle/regex/Counts" "oldest" "[I" (.ref ob) := F_oldest_ab_34.keep K40 (ninS (Ne.symm m1) (ninS m4 nin0))
      have F_newest_ab_40 : Fld Z T40.heap ab "com/example/fettle/fettle/regex/Counts" "newest" "[I" (.ref wb) := F_newest_ab_34.keep K40 (ninS (Ne.symm m1) (ninS m4 nin0))
      have F_first_ab_40 : Fld Z T40.heap ab "com/example/fettle/fettle/regex/Counts" "first" "I" (.int fib) := F_first_ab_34.keep K40 (ninS (Ne.symm m1) (ninS m4 nin0))
      have Fx_runs_ab_40 : Fld Z T40.heap ab "com/example/fettle/fettle/regex/Counts" "runs" "I" (.int (0 : Int32)) := Fx_runs_ab_34.keep K40 (ninS (Ne.symm m1) (ninS m4 nin0))
      have F_clock_ab_40 : Fld Z T40.heap ab "com/example/fettle/fettle/regex/Counts" "clock" "I" (.int clb) := F_clock_ab_34.keep K40 (ninS (Ne.symm m1) (ninS m4 nin0))
      have F_starting_ab_40 : Fld Z T40.heap ab "com/example/fettle/fettle/regex/Counts" "starting" "Z" (.int stb) := F_starting_ab_34.keep K40 (ninS (Ne.symm m1) (ninS m4 nin0))
      have F_least_ab_40 : Fld Z T40.heap ab "com/example/fettle/fettle/regex/Counts" "least" "I" (.int leb) := F_least_ab_34.keep K40 (ninS (Ne.symm m1) (ninS m4 nin0))
      have F_most_ab_40 : Fld Z T40.heap ab "com/example/fettle/fettle/regex/Counts" "most" "I" (.int mob) := F_most_ab_34.keep K40 (ninS (Ne.symm m1) (ninS m4 nin0))
      have V_o_ab_40 : Arv Z T40.heap ob kob .int (4 : Int32) lob (.int (0 : Int32)) := V_o_ab_34.keep K40 (ninS (Ne.symm m2) (ninS (Ne.symm k1) nin0))
      have V_w_ab_40 : Arv Z T40.heap wb kwb .int (4 : Int32) lwb (.int (0 : Int32)) := V_w_ab_34.keep K40 (ninS (Ne.symm m3) (ninS (Ne.symm k2) nin0))
      have Z40 : n0 ≤ T40.heap.size := Nat.le_trans Z34 K40.1
      have Kp40 : Keep h0 T40.heap [a1, o, w, ab] := Kp34.trans K40 (allS (Or.inl (List.mem_of_getElem? (i := 0) rfl)) (allS (Or.inl (List.mem_of_getElem? (i := 1) rfl)) all0))
      have N40 := Fr.app N34 Nq40
      have pre41 := fun τ (κ : Steps p.tables e below (T40.setTop (mkF m 77 #[.val (.ref a1), .val (.ref ab), .val (.int may)] [])) τ) => pre39 τ (st40.trans κ)
      obtain ⟨E_a1d, F_oldest_a1d, F_newest_a1d, F_first_a1d, F_runs_a1d, F_clock_a1d, F_starting_a1d, F_least_a1d, F_most_a1d, V_o_a1d, V_w_a1d⟩ := P40
      have pre42 := fun τ (κ : Steps p.tables e below (T40.setTop (mkF m 79 #[.val (.ref a1), .val (.ref ab), .val (.int may)] [(.ref a1), (.ref ab)])) τ) => pre41 τ (by
        refine XS.aloadN X40.here hx rfl (hb hby d6_77) rfl rfl ?_
        show Steps p.tables e below (T40.setTop (mkF m 78 #[.val (.ref a1), .val (.ref ab), .val (.int may)] [(.ref ab)])) _
        refine XS.aloadN X40.here hx rfl (hb hby d6_78) rfl rfl ?_
        show Steps p.tables e below (T40.setTop (mkF m 79 #[.val (.ref a1), .val (.ref ab), .val (.int may)] [(.ref a1), (.ref ab)])) _
        exact κ)
      obtain ⟨cq43, q43, q43'⟩ := E_ab_40.cell
      obtain ⟨_, _, ⟨T43, L43, k43, n43⟩, -, X43, ⟨Lc43, hQ43, l43, y43, z43⟩, st43⟩ := X40.privateBack hx (y := (⟨"com/example/fettle/fettle/regex/Counts", "join", "(Lcom/example/fettle/fettle/regex/Counts;)V"⟩ : MethodName)) hown (mvT hZ (hw _ (List.mem_of_getElem? (i := 66) rfl))) (mvT hZ (hw _ (List.mem_of_getElem? (i := 67) rfl))) (own_sel hZ (hw _ (List.mem_of_getElem? (i := 6) rfl)) (hw _ (List.mem_of_getElem? (i := 68) rfl)) (hw _ (List.mem_of_getElem? (i := 67) rfl)) (by decide)) (Cond.privateMethod_at (mvP hZ (hw _ (List.mem_of_getElem? (i := 68) rfl)) (args := #[]))) (mvT hZ (hw _ (List.mem_of_getElem? (i := 69) rfl))) (by decide) (backOf (W := 0) (rm12 l Z a0 hw [] ab a1 ob wb kob kwb fib 0 clb stb leb mob lob lwb o w ko kw ((fi + 1) &&& ((4 : Int32) - (1 : Int32))) ((1 : Int32) - 1) (cl + (1 : Int32)) 0 le mo lo lw T40.heap n0 Z40 ⟨E_ab_40, F_oldest_ab_40, F_newest_ab_40, F_first_ab_40, Fx_runs_ab_40, F_clock_ab_40, F_starting_ab_40, F_least_ab_40, F_most_ab_40, V_o_ab_40, V_w_ab_40⟩ ⟨E_a1d, F_oldest_a1d, F_newest_a1d, F_first_a1d, F_runs_a1d, F_clock_a1d, F_starting_a1d, F_least_a1d, F_most_a1d, V_o_a1d, V_w_a1d⟩ rfl m6 m7 n32 (Ne.symm m1) m4 m5 m2 m3 n1 n2 g_ab g_a1) hZ (hw _ (List.mem_of_getElem? (i := 69) rfl)) (hw _ (List.mem_of_getElem? (i := 7) rfl)) (by decide) (by decide)) (g := (mkF m 79 #[.val (.ref a1), .val (.ref ab), .val (.int may)] [(.ref a1), (.ref ab)])) rfl (by rw [hml]; rfl) (Steps.refl _) (a := ab) q43 q43' (argsL := [(.ref a1)]) (rest := []) (lenOf pd_3 rfl) rfl (by show 2 * 0 + _ ≤ _; exact Nat.le_of_eq rfl) (hb hby d6_79) (fun _ _ => ⟨rfl, rfl, (by decide : 0 + 0 ≤ _), (by decide : 0 + 0 ≤ _)⟩)
      dsimp only [Pt.U, Pt.locs, Pt.cells, Pt.slots] at X43 l43 y43 z43 st43 hQ43
      subst l43 y43 z43
      obtain ⟨rfl, Nq43, K43, Q143, Q243⟩ := hQ43
      have E_a1d_43 : Exa Z T43.heap a1 "com/example/fettle/fettle/regex/Counts" := E_a1d.keep K43
      have V_w_a1d_43 : Arv Z T43.heap w kw .int (4 : Int32) lw (.int (0 : Int32)) := V_w_a1d.keep K43 (ninS (Ne.symm m5) (ninS (Ne.symm n2) nin0))
      have E_ab_43 : Exa Z T43.heap ab "com/example/fettle/fettle/regex/Counts" := E_ab_40.keep K43
      have V_o_ab_43 : Arv Z T43.heap ob kob .int (4 : Int32) lob (.int (0 : Int32)) := V_o_ab_40.keep K43 (ninS (Ne.symm m6) (ninS (Ne.symm m2) nin0))
      have V_w_ab_43 : Arv Z T43.heap wb kwb .int (4 : Int32) lwb (.int (0 : Int32)) := V_w_ab_40.keep K43 (ninS (Ne.symm m7) (ninS (Ne.symm m3) nin0))
      have V_o_a1d_43 : Arv Z T43.heap o ko .int (4 : Int32) lo (.int (0 : Int32)) := V_o_a1d.keep K43 (ninS (Ne.symm m4) (ninS (Ne.symm n1) nin0))
      have Z43 : n0 ≤ T43.heap.size := Nat.le_trans Z40 K43.1
      have Kp43 : Keep h0 T43.heap [a1, o, w, ab] := Kp40.trans K43 (allS (Or.inl (List.mem_of_getElem? (i := 3) rfl)) (allS (Or.inl (List.mem_of_getElem? (i := 0) rfl)) all0))
      have N43 := Fr.app N40 Nq43
      have pre44 := fun τ (κ : Steps p.tables e below (T43.setTop (mkF m 82 #[.val (.ref a1), .val (.ref ab), .val (.int may)] [])) τ) => pre42 τ (st43.trans κ)
      have pre45 := fun τ (κ : Steps p.tables e below (T43.setTop (mkF m 83 #[.val (.ref a1), .val (.ref ab), .val (.int may)] [(.int may)])) τ) => pre44 τ (by
        refine XS.iloadN X43.here hx rfl (hb hby d6_82) rfl ?_
        show Steps p.tables e below (T43.setTop (mkF m 83 #[.val (.ref a1), .val (.ref ab), .val (.int may)] [(.int may)])) _
        exact κ)
      obtain ⟨b0, -, -, -, b4, -, b6, -⟩ := Q143
      obtain ⟨a0', -, -, -, a4, -, a6, -⟩ := Q243
      obtain ⟨fs, hr, hrun, hended, hW, hsame⟩ := X43.leave (v := some (.int (nar .boolean may))) (fun h => by rw [Bd.returns] at h; cases h)
      refine ⟨_, _, pre45 _ ?_, hrun, hended, _, _, rfl, ?_, ⟨_, rfl⟩, hW, hsame.mono (by decide) (by decide)⟩
      · exact retN X43 hx (t := .boolean) Bd.returns (by simp) (hb hby d6_83) hr
      · show Q6c Z a1 ab o w ko kw fi ru cl st le mo lo lw ob wb kob kwb fib rub clb stb leb mob lob lwb ov h0 n0 _ T43.heap _
        exact ⟨_, rfl, N43, Kp43, a0', a4, a6, b0, b6, Or.inl ⟨⟨q1, q2⟩, b4⟩⟩
    · have pre46 := fun τ (κ : Steps p.tables e below (T37.setTop (mkF m 63 #[.val (.ref a1), .val (.ref ab), .val (.int may)] [(.ref a1)])) τ) => pre38 τ (by
        refine XS.icmpNo X37.here hx rfl (hb hby d6_59) rfl (feq q2).1 ?_
        show Steps p.tables e below (T37.setTop (mkF m 62 #[.val (.ref a1), .val (.ref ab), .val (.int may)] [])) _
        refine XS.aloadN X37.here hx rfl (hb hby d6_62) rfl rfl ?_
        show Steps p.tables e below (T37.setTop (mkF m 63 #[.val (.ref a1), .val (.ref ab), .val (.int may)] [(.ref a1)])) _
        exact κ)
      obtain ⟨cq47, q47, q47'⟩ := E_a1_34.cell
      obtain ⟨_, _, ⟨T47, L47, k47, n47⟩, -, X47, ⟨Lc47, hQ47, l47, y47, z47⟩, st47⟩ := X37.privateBack hx (y := (⟨"com/example/fettle/fettle/regex/Counts", "secondLargest", "()I"⟩ : MethodName)) hown (mvT hZ (hw _ (List.mem_of_getElem? (i := 62) rfl))) (mvT hZ (hw _ (List.mem_of_getElem? (i := 63) rfl))) (own_sel hZ (hw _ (List.mem_of_getElem? (i := 6) rfl)) (hw _ (List.mem_of_getElem? (i := 64) rfl)) (hw _ (List.mem_of_getElem? (i := 63) rfl)) (by decide)) (Cond.privateMethod_at (mvP hZ (hw _ (List.mem_of_getElem? (i := 64) rfl)) (args := #[]))) (mvT hZ (hw _ (List.mem_of_getElem? (i := 65) rfl))) (by decide) (backOf (W := 0) (rm11 l Z a0 hw [] a1 o w ko kw fi 1 (cl + (1 : Int32)) 0 le mo lo lw ov ov T34.heap n0 Z34 ⟨E_a1_34, F_oldest_a1_34, F_newest_a1_34, F_first_a1_34, Fx_runs_a1_34, F_clock_a1_34, Fx_starting_a1_34, F_least_a1_34, F_most_a1_34, V_o_a1_34, V_w_a1_34⟩ (Or.inr rfl) hfi hov hnv n1 n2 n3) hZ (hw _ (List.mem_of_getElem? (i := 65) rfl)) (hw _ (List.mem_of_getElem? (i := 7) rfl)) (by decide) (by decide)) (g := (mkF m 63 #[.val (.ref a1), .val (.ref ab), .val (.int may)] [(.ref a1)])) rfl (by rw [hml]; rfl) (Steps.refl _) (a := a1) (by rw [e37]; exact q47) q47' (argsL := []) (rest := []) (lenOf pd_2 rfl) rfl (by show 2 * 0 + _ ≤ _; exact Nat.le_of_eq rfl) (hb hby d6_63) (fun _ _ => ⟨rfl, e37, (by decide : 0 + 0 ≤ _), (by decide : 0 + 0 ≤ _)⟩)
      dsimp only [Pt.U, Pt.locs, Pt.cells, Pt.slots] at X47 l47 y47 z47 st47 hQ47
      subst l47 y47 z47
      obtain ⟨rfl, Nq47, hh47⟩ := hQ47
      have E_a1_47 : Exa Z T47.heap a1 "com/example/fettle/fettle/regex/Counts" := by rw [hh47]; exact E_a1_34
      have F_oldest_a1_47 : Fld Z T47.heap a1 "com/example/fettle/fettle/regex/Counts" "oldest" "[I" (.ref o) := by rw [hh47]; exact F_oldest_a1_34
      have F_newest_a1_47 : Fld Z T47.heap a1 "com/example/fettle/fettle/regex/Counts" "newest" "[I" (.ref w) := by rw [hh47]; exact F_newest_a1_34
      have F_first_a1_47 : Fld Z T47.heap a1 "com/example/fettle/fettle/regex/Counts" "first" "I" (.int fi) := by rw [hh47]; exact F_first_a1_34
      have Fx_runs_a1_47 : Fld Z T47.heap a1 "com/example/fettle/fettle/regex/Counts" "runs" "I" (.int (1 : Int32)) := by rw [hh47]; exact Fx_runs_a1_34
      have Fx_starting_a1_47 : Fld Z T47.heap a1 "com/example/fettle/fettle/regex/Counts" "starting" "Z" (.int (0 : Int32)) := by rw [hh47]; exact Fx_starting_a1_34
      have F_least_a1_47 : Fld Z T47.heap a1 "com/example/fettle/fettle/regex/Counts" "least" "I" (.int le) := by rw [hh47]; exact F_least_a1_34
      have F_most_a1_47 : Fld Z T47.heap a1 "com/example/fettle/fettle/regex/Counts" "most" "I" (.int mo) := by rw [hh47]; exact F_most_a1_34
      have V_o_a1_47 : Arv Z T47.heap o ko .int (4 : Int32) lo (.int (0 : Int32)) := by rw [hh47]; exact V_o_a1_34
      have V_w_a1_47 : Arv Z T47.heap w kw .int (4 : Int32) lw (.int (0 : Int32)) := by rw [hh47]; exact V_w_a1_34
      have E_ab_47 : Exa Z T47.heap ab "com/example/fettle/fettle/regex/Counts" := by rw [hh47]; exact E_ab_34
      have F_oldest_ab_47 : Fld Z T47.heap ab "com/example/fettle/fettle/regex/Counts" "oldest" "[I" (.ref ob) := by rw [hh47]; exact F_oldest_ab_34
      have F_newest_ab_47 : Fld Z T47.heap ab "com/example/fettle/fettle/regex/Counts" "newest" "[I" (.ref wb) := by rw [hh47]; exact F_newest_ab_34
      have F_first_ab_47 : Fld Z T47.heap ab "com/example/fettle/fettle/regex/Counts" "first" "I" (.int fib) := by rw [hh47]; exact F_first_ab_34
      have Fx_runs_ab_47 : Fld Z T47.heap ab "com/example/fettle/fettle/regex/Counts" "runs" "I" (.int (0 : Int32)) := by rw [hh47]; exact Fx_runs_ab_34
      have F_clock_ab_47 : Fld Z T47.heap ab "com/example/fettle/fettle/regex/Counts" "clock" "I" (.int clb) := by rw [hh47]; exact F_clock_ab_34
      have F_starting_ab_47 : Fld Z T47.heap ab "com/example/fettle/fettle/regex/Counts" "starting" "Z" (.int stb) := by rw [hh47]; exact F_starting_ab_34
      have F_least_ab_47 : Fld Z T47.heap ab "com/example/fettle/fettle/regex/Counts" "least" "I" (.int leb) := by rw [hh47]; exact F_least_ab_34
      have F_most_ab_47 : Fld Z T47.heap ab "com/example/fettle/fettle/regex/Counts" "most" "I" (.int mob) := by rw [hh47]; exact F_most_ab_34
      have V_o_ab_47 : Arv Z T47.heap ob kob .int (4 : Int32) lob (.int (0 : Int32)) := by rw [hh47]; exact V_o_ab_34
      have V_w_ab_47 : Arv Z T47.heap wb kwb .int (4 : Int32) lwb (.int (0 : Int32)) := by rw [hh47]; exact V_w_ab_34
      have F_clock_a1_47 : Fld Z T47.heap a1 "com/example/fettle/fettle/regex/Counts" "clock" "I" (.int (cl + (1 : Int32))) := by rw [hh47]; exact F_clock_a1_34
      have Z47 : n0 ≤ T47.heap.size := by rw [hh47]; exact Z34
      have Kp47 : Keep h0 T47.heap [a1, o, w, ab] := by rw [hh47]; exact Kp34
      have N47 := Fr.app N34 Nq47
      have pre48 := fun τ (κ : Steps p.tables e below (T47.setTop (mkF m 66 #[.val (.ref a1), .val (.ref ab), .val (.int may)] [(.int (own_sec 1 ov ov (cl + (1 : Int32))))])) τ) => pre46 τ (st47.trans κ)
      have pre49 := fun τ (κ : Steps p.tables e below (T47.setTop (mkF m 67 #[.val (.ref a1), .val (.ref ab), .val (.int may)] [(.ref a1), (.int (own_sec 1 ov ov (cl + (1 : Int32))))])) τ) => pre48 τ (by
        refine XS.aloadN X47.here hx rfl (hb hby d6_66) rfl rfl ?_
        show Steps p.tables e below (T47.setTop (mkF m 67 #[.val (.ref a1), .val (.ref ab), .val (.int may)] [(.ref a1), (.int (own_sec 1 ov ov (cl + (1 : Int32))))])) _
        exact κ)
      obtain ⟨T50, X50, e50, st50⟩ := getF X47 hx hZ hown (host := "") (Or.inl (hw _ (List.mem_of_getElem? (i := 19) rfl))) Via.refl rfl F_least_a1_47 (g := (mkF m 67 #[.val (.ref a1), .val (.ref ab), .val (.int may)] [(.ref a1), (.int (own_sec 1 ov ov (cl + (1 : Int32))))])) rfl rfl (hb hby d6_67)
      have pre51 := fun τ (κ : Steps p.tables e below (T50.setTop (mkF m 70 #[.val (.ref a1), .val (.ref ab), .val (.int may)] [(.int le), (.int (own_sec 1 ov ov (cl + (1 : Int32))))])) τ) => pre49 τ (st50 _ κ)
      have pre52 := fun τ (κ : Steps p.tables e below (T50.setTop (mkF m 79 #[.val (.ref a1), .val (.ref ab), .val (.int may)] [(.ref a1), (.ref ab)])) τ) => pre51 τ (by
        refine XS.icmpYes X50.here hx rfl (pc0 := 70) (pc' := 77) rfl (hb hby d6_70) rfl (tlt (by rw [own_sec, if_neg fun z => z.2 rfl]; exact own_nn1 hle0)).1 (by decide) (by decide) ?_
        show Steps p.tables e below (T50.setTop (mkF m 77 #[.val (.ref a1), .val (.ref ab), .val (.int may)] [])) _
        refine XS.aloadN X50.here hx rfl (hb hby d6_77) rfl rfl ?_
        show Steps p.tables e below (T50.setTop (mkF m 78 #[.val (.ref a1), .val (.ref ab), .val (.int may)] [(.ref ab)])) _
        refine XS.aloadN X50.here hx rfl (hb hby d6_78) rfl rfl ?_
        show Steps p.tables e below (T50.setTop (mkF m 79 #[.val (.ref a1), .val (.ref ab), .val (.int may)] [(.ref a1), (.ref ab)])) _
        exact κ)
      obtain ⟨cq53, q53, q53'⟩ := E_ab_47.cell
      obtain ⟨_, _, ⟨T53, L53, k53, n53⟩, -, X53, ⟨Lc53, hQ53, l53, y53, z53⟩, st53⟩ := X50.privateBack hx (y := (⟨"com/example/fettle/fettle/regex/Counts", "join", "(Lcom/example/fettle/fettle/regex/Counts;)V"⟩ : MethodName)) hown (mvT hZ (hw _ (List.mem_of_getElem? (i := 66) rfl))) (mvT hZ (hw _ (List.mem_of_getElem? (i := 67) rfl))) (own_sel hZ (hw _ (List.mem_of_getElem? (i := 6) rfl)) (hw _ (List.mem_of_getElem? (i := 68) rfl)) (hw _ (List.mem_of_getElem? (i := 67) rfl)) (by decide)) (Cond.privateMethod_at (mvP hZ (hw _ (List.mem_of_getElem? (i := 68) rfl)) (args := #[]))) (mvT hZ (hw _ (List.mem_of_getElem? (i := 69) rfl))) (by decide) (backOf (W := 0) (rm12 l Z a0 hw [] ab a1 ob wb kob kwb fib 0 clb stb leb mob lob lwb o w ko kw fi 1 (cl + (1 : Int32)) 0 le mo lo lw T47.heap n0 Z47 ⟨E_ab_47, F_oldest_ab_47, F_newest_ab_47, F_first_ab_47, Fx_runs_ab_47, F_clock_ab_47, F_starting_ab_47, F_least_ab_47, F_most_ab_47, V_o_ab_47, V_w_ab_47⟩ ⟨E_a1_47, F_oldest_a1_47, F_newest_a1_47, F_first_a1_47, Fx_runs_a1_47, F_clock_a1_47, Fx_starting_a1_47, F_least_a1_47, F_most_a1_47, V_o_a1_47, V_w_a1_47⟩ rfl m6 m7 n32 (Ne.symm m1) m4 m5 m2 m3 n1 n2 g_ab g_a1) hZ (hw _ (List.mem_of_getElem? (i := 69) rfl)) (hw _ (List.mem_of_getElem? (i := 7) rfl)) (by decide) (by decide)) (g := (mkF m 79 #[.val (.ref a1), .val (.ref ab), .val (.int may)] [(.ref a1), (.ref ab)])) rfl (by rw [hml]; rfl) (Steps.refl _) (a := ab) (by rw [e50]; exact q53) q53' (argsL := [(.ref a1)]) (rest := []) (lenOf pd_3 rfl) rfl (by show 2 * 0 + _ ≤ _; exact Nat.le_of_eq rfl) (hb hby d6_79) (fun _ _ => ⟨rfl, e50, (by decide : 0 + 0 ≤ _), (by decide : 0 + 0 ≤ _)⟩)
      dsimp only [Pt.U, Pt.locs, Pt.cells, Pt.slots] at X53 l53 y53 z53 st53 hQ53
      subst l53 y53 z53
      obtain ⟨rfl, Nq53, K53, Q153, Q253⟩ := hQ53
      have E_a1_53 : Exa Z T53.heap a1 "com/example/fettle/fettle/regex/Counts" := E_a1_47.keep K53
      have V_o_a1_53 : Arv Z T53.heap o ko .int (4 : Int32) lo (.int (0 : Int32)) := V_o_a1_47.keep K53 (ninS (Ne.symm m4) (ninS (Ne.symm n1) nin0))
      have V_w_a1_53 : Arv Z T53.heap w kw .int (4 : Int32) lw (.int (0 : Int32)) := V_w_a1_47.keep K53 (ninS (Ne.symm m5) (ninS (Ne.symm n2) nin0))
      have E_ab_53 : Exa Z T53.heap ab "com/example/fettle/fettle/regex/Counts" := E_ab_47.keep K53
      have V_o_ab_53 : Arv Z T53.heap ob kob .int (4 : Int32) lob (.int (0 : Int32)) := V_o_ab_47.keep K53 (ninS (Ne.symm m6) (ninS (Ne.symm m2) nin0))
      have V_w_ab_53 : Arv Z T53.heap wb kwb .int (4 : Int32) lwb (.int (0 : Int32)) := V_w_ab_47.keep K53 (ninS (Ne.symm m7) (ninS (Ne.symm m3) nin0))
      have Z53 : n0 ≤ T53.heap.size := Nat.le_trans Z47 K53.1
      have Kp53 : Keep h0 T53.heap [a1, o, w, ab] := Kp47.trans K53 (allS (Or.inl (List.mem_of_getElem? (i := 3) rfl)) (allS (Or.inl (List.mem_of_getElem? (i := 0) rfl)) all0))
      have N53 := Fr.app N47 Nq53
      have pre54 := fun τ (κ : Steps p.tables e below (T53.setTop (mkF m 82 #[.val (.ref a1), .val (.ref ab), .val (.int may)] [])) τ) => pre52 τ (st53.trans κ)
      have pre55 := fun τ (κ : Steps p.tables e below (T53.setTop (mkF m 83 #[.val (.ref a1), .val (.ref ab), .val (.int may)] [(.int may)])) τ) => pre54 τ (by
        refine XS.iloadN X53.here hx rfl (hb hby d6_82) rfl ?_
        show Steps p.tables e below (T53.setTop (mkF m 83 #[.val (.ref a1), .val (.ref ab), .val (.int may)] [(.int may)])) _
        exact κ)
      obtain ⟨b0, -, -, -, b4, -, b6, -⟩ := Q153
      obtain ⟨a0', -, -, -, a4, -, a6, -⟩ := Q253
      obtain ⟨fs, hr, hrun, hended, hW, hsame⟩ := X53.leave (v := some (.int (nar .boolean may))) (fun h => by rw [Bd.returns] at h; cases h)
      refine ⟨_, _, pre55 _ ?_, hrun, hended, _, _, rfl, ?_, ⟨_, rfl⟩, hW, hsame.mono (by decide) (by decide)⟩
      · exact retN X53 hx (t := .boolean) Bd.returns (by simp) (hb hby d6_83) hr
      · show Q6c Z a1 ab o w ko kw fi ru cl st le mo lo lw ob wb kob kwb fib rub clb stb leb mob lob lwb ov h0 n0 _ T53.heap _
        exact ⟨_, rfl, N53, Kp53, a0', a4, a6, b0, b6, Or.inr ⟨fun z => q2 z.2, b4⟩⟩
theorem ef_0 (m : MethodId) (p0 : Int32) (p1 : Int32) (p2 : Int32) (p3 : Int32) : entryFrame m #[(.int p0), (.int p1), (.int p2), (.int p3)] maxLocals = mkF m 0 #[.val (.int p0), .val (.int p1), .val (.int p2), .val (.int p3), .unset, .unset, .unset, .unset, .unset, .unset, .unset, .unset, .unset, .unset, .unset, .unset] [] := by first | (simp [entryFrame, mkF, argsToLocals, Value.category, maxLocals]; done) | rfl
def Q0 (Z : State) (p0 : Int32) (p1 : Int32) (p2 : Int32) (p3 : Int32) (h0 : Heap) (n0 : Nat) (v : Option Value) (h : Heap) (L : List Loc) : Prop := v = some (.int 1) ∧ Fr n0 L
set_option maxRecDepth 65536 in
set_option maxHeartbeats 40000000 in
theorem rm0 (l : Launch) (Z : State) (a0 : Array Value) (hw : ∀ d ∈ tables_1, d.before a0 Z = true) (ws : List Jvm.Cond) (p0 : Int32) (p1 : Int32) (p2 : Int32) (p3 : Int32) (h0 : Heap) (n0 : Nat) (Z0 : n0 ≤ h0.size) :
    MetFree l x (head1 (Jvm.Cond.code x code maxLocals ret :: ws) room_1) (fun α υ => α = #[(.int p0), (.int p1), (.int p2), (.int p3)] ∧ Z.Warmed39 υ.vm ∧ υ.heap = h0) (fun _ _ _ _ _ => True) (fun _ υ ω υ' => ∃ v L, ω = .returned v ∧ Q0 Z p0 p1 p2 p3 h0 n0 v υ'.heap L ∧ FrameEnd υ ω υ' L room_1.cells room_1.slots) := by
  refine MetFree.of_bodySF (plainFor_of_name pn_com_example_fettle_fettle_regex_CountsIsEmptyPinLaw) hisR ?_
  intro p e s m args below meth c s₁ Bd hml0 hP hK
  obtain ⟨rfl, hZ, hh⟩ := hP
  have hx := Bd.exec
  have hby := Bd.bytes
  have hml : c.maxLocals = 16 := hml0
  have hown : s.vm.findClass "com/example/fettle/fettle/regex/CountsIsEmptyPinLaw" = some m.cls := findClass_of_methodNamed Bd.named
  have hnm := (name_of_methodNamed Bd.named Bd.method).1
  have X0 : Stand p l e room_1 s m #[(.int p0), (.int p1), (.int p2), (.int p3)] below meth c s₁ [] 0 0 := Stand.of_body Bd
  have e0 : s₁.heap = h0 := by rw [← hh, Bd.state]; rfl
  have N0 := Fr.nil n0
  have pre0 : ∀ τ, Steps p.tables e below (s₁.setTop (mkF m 0 #[.val (.int p0), .val (.int p1), .val (.int p2), .val (.int p3), .unset, .unset, .unset, .unset, .unset, .unset, .unset, .unset, .unset, .unset, .unset, .unset] [])) τ → Steps p.tables e below (s₁.setTop (entryFrame m #[(.int p0), (.int p1), (.int p2), (.int p3)] maxLocals)) τ := fun τ κ => castTop (ef_0 m p0 p1 p2 p3) κ
  have pre1 := fun τ (κ : Steps p.tables e below (s₁.setTop (mkF m 3 #[.val (.int p0), .val (.int p1), .val (.int p2), .val (.int p3), .unset, .unset, .unset, .unset, .unset, .unset, .unset, .unset, .unset, .unset, .unset, .unset] [(.int (p1 &&& (3 : Int32)))])) τ) => pre0 τ (by
    refine XS.iloadN X0.here hx rfl (hb hby at_0) rfl ?_
    show Steps p.tables e below (s₁.setTop (mkF m 1 #[.val (.int p0), .val (.int p1), .val (.int p2), .val (.int p3), .unset, .unset, .unset, .unset, .unset, .unset, .unset, .unset, .unset, .unset, .unset, .unset] [(.int p1)])) _
    refine XS.iconst X0.here hx rfl (hb hby at_1) ?_
    show Steps p.tables e below (s₁.setTop (mkF m 2 #[.val (.int p0), .val (.int p1), .val (.int p2), .val (.int p3), .unset, .unset, .unset, .unset, .unset, .unset, .unset, .unset, .unset, .unset, .unset, .unset] [(.int (3 : Int32)), (.int p1)])) _
    refine XS.iand X0.here hx rfl (hb hby at_2) rfl ?_
    show Steps p.tables e below (s₁.setTop (mkF m 3 #[.val (.int p0), .val (.int p1), .val (.int p2), .val (.int p3), .unset, .unset, .unset, .unset, .unset, .unset, .unset, .unset, .unset, .unset, .unset, .unset] [(.int (p1 &&& (3 : Int32)))])) _
    exact κ)
  obtain ⟨md, h_md⟩ : ∃ z : Int32, z = (p1 &&& (3 : Int32)) := ⟨_, rfl⟩
  rw [← h_md] at pre1
  have pre2 := fun τ (κ : Steps p.tables e below (s₁.setTop (mkF m 7 #[.val (.int p0), .val (.int p1), .val (.int p2), .val (.int p3), .val (.int md), .unset, .unset, .unset, .unset, .unset, .unset, .unset, .unset, .unset, .unset, .unset] [(.int md)])) τ) => pre1 τ (by
    refine XS.istore X0.here hx rfl (hb hby at_3) rfl (l' := #[.val (.int p0), .val (.int p1), .val (.int p2), .val (.int p3), .val (.int md), .unset, .unset, .unset, .unset, .unset, .unset, .unset, .unset, .unset, .unset, .unset]) rfl ?_
    show Steps p.tables e below (s₁.setTop (mkF m 5 #[.val (.int p0), .val (.int p1), .val (.int p2), .val (.int p3), .val (.int md), .unset, .unset, .unset, .unset, .unset, .unset, .unset, .unset, .unset, .unset, .unset] [])) _
    refine XS.iload X0.here hx rfl (hb hby at_5) rfl ?_
    show Steps p.tables e below (s₁.setTop (mkF m 7 #[.val (.int p0), .val (.int p1), .val (.int p2), .val (.int p3), .val (.int md), .unset, .unset, .unset, .unset, .unset, .unset, .unset, .unset, .unset, .unset, .unset] [(.int md)])) _
    exact κ)
  obtain ⟨T3, h3, lo3, le, mo, X3, e3, N3, Z3, hle0, pre3⟩ : ∃ (T3 : State) (h3 : Heap) (lo3 : List Loc) (le mo : Int32), Stand p l e room_1 s m #[(.int p0), (.int p1), (.int p2), (.int p3)] below meth c T3 lo3 (0) (0) ∧ T3.heap = h3 ∧ Fr n0 lo3 ∧ n0 ≤ h3.size ∧ (¬ le < 0) ∧ ∀ τ, Steps p.tables e below (T3.setTop (mkF m 80 #[.val (.int p0), .val (.int p1), .val (.int p2), .val (.int p3), .val (.int md), .val (.int le), .val (.int mo), .unset, .unset, .unset, .unset, .unset, .unset, .unset, .unset, .unset] [])) τ → Steps p.tables e below (s₁.setTop (entryFrame m #[(.int p0), (.int p1), (.int p2), (.int p3)] maxLocals)) τ := by
    by_cases q1 : md = (0 : Int32)
    · have pre4 := fun τ (κ : Steps p.tables e below (s₁.setTop (mkF m 80 #[.val (.int p0), .val (.int p1), .val (.int p2), .val (.int p3), .val (.int md), .val (.int (p0 &&& (2147483647 : Int32))), .val (.int (-1 : Int32)), .unset, .unset, .unset, .unset, .unset, .unset, .unset, .unset, .unset] [])) τ) => pre2 τ (by
        refine XS.ifNo X0.here hx rfl (hb hby at_7) rfl ((if0 _ _).trans (teq q1).2) ?_
        show Steps p.tables e below (s₁.setTop (mkF m 10 #[.val (.int p0), .val (.int p1), .val (.int p2), .val (.int p3), .val (.int md), .unset, .unset, .unset, .unset, .unset, .unset, .unset, .unset, .unset, .unset, .unset] [])) _
        refine XS.iloadN X0.here hx rfl (hb hby at_10) rfl ?_
        show Steps p.tables e below (s₁.setTop (mkF m 11 #[.val (.int p0), .val (.int p1), .val (.int p2), .val (.int p3), .val (.int md), .unset, .unset, .unset, .unset, .unset, .unset, .unset, .unset, .unset, .unset, .unset] [(.int p0)])) _
        refine X0.ldcInt hx hown (mvT hZ (hw _ (List.mem_of_getElem? (i := 0) rfl))) (g := (mkF m 11 #[.val (.int p0), .val (.int p1), .val (.int p2), .val (.int p3), .val (.int md), .unset, .unset, .unset, .unset, .unset, .unset, .unset, .unset, .unset, .unset, .unset] [(.int p0)])) rfl (hb hby at_11) _ ?_
        show Steps p.tables e below (s₁.setTop (mkF m 13 #[.val (.int p0), .val (.int p1), .val (.int p2), .val (.int p3), .val (.int md), .unset, .unset, .unset, .unset, .unset, .unset, .unset, .unset, .unset, .unset, .unset] [(.int (2147483647 : Int32)), (.int p0)])) _
        refine XS.iand X0.here hx rfl (hb hby at_13) rfl ?_
        show Steps p.tables e below (s₁.setTop (mkF m 14 #[.val (.int p0), .val (.int p1), .val (.int p2), .val (.int p3), .val (.int md), .unset, .unset, .unset, .unset, .unset, .unset, .unset, .unset, .unset, .unset, .unset] [(.int (p0 &&& (2147483647 : Int32)))])) _
        refine XS.istore X0.here hx rfl (hb hby at_14) rfl (l' := #[.val (.int p0), .val (.int p1), .val (.int p2), .val (.int p3), .val (.int md), .val (.int (p0 &&& (2147483647 : Int32))), .unset, .unset, .unset, .unset, .unset, .unset, .unset, .unset, .unset, .unset]) rfl ?_
        show Steps p.tables e below (s₁.setTop (mkF m 16 #[.val (.int p0), .val (.int p1), .val (.int p2), .val (.int p3), .val (.int md), .val (.int (p0 &&& (2147483647 : Int32))), .unset, .unset, .unset, .unset, .unset, .unset, .unset, .unset, .unset, .unset] [])) _
        refine XS.iconst X0.here hx rfl (hb hby at_16) ?_
        show Steps p.tables e below (s₁.setTop (mkF m 17 #[.val (.int p0), .val (.int p1), .val (.int p2), .val (.int p3), .val (.int md), .val (.int (p0 &&& (2147483647 : Int32))), .unset, .unset, .unset, .unset, .unset, .unset, .unset, .unset, .unset, .unset] [(.int (-1 : Int32))])) _
        refine XS.istore X0.here hx rfl (hb hby at_17) rfl (l' := #[.val (.int p0), .val (.int p1), .val (.int p2), .val (.int p3), .val (.int md), .val (.int (p0 &&& (2147483647 : Int32))), .val (.int (-1 : Int32)), .unset, .unset, .unset, .unset, .unset, .unset, .unset, .unset, .unset]) rfl ?_
        show Steps p.tables e below (s₁.setTop (mkF m 19 #[.val (.int p0), .val (.int p1), .val (.int p2), .val (.int p3), .val (.int md), .val (.int (p0 &&& (2147483647 : Int32))), .val (.int (-1 : Int32)), .unset, .unset, .unset, .unset, .unset, .unset, .unset, .unset, .unset] [])) _
        refine XS.goto X0.here hx rfl (pc0 := 19) (pc' := 80) rfl (hb hby at_19) (by decide) (by decide) ?_
        show Steps p.tables e below (s₁.setTop (mkF m 80 #[.val (.int p0), .val (.int p1), .val (.int p2), .val (.int p3), .val (.int md), .val (.int (p0 &&& (2147483647 : Int32))), .val (.int (-1 : Int32)), .unset, .unset, .unset, .unset, .unset, .unset, .unset, .unset, .unset] [])) _
        exact κ)
      exact ⟨s₁, h0, _, _, _, X0, e0, N0, Z0, own_maskp _ _ (by decide), pre4⟩
    · have pre5 := fun τ (κ : Steps p.tables e below (s₁.setTop (mkF m 25 #[.val (.int p0), .val (.int p1), .val (.int p2), .val (.int p3), .val (.int md), .unset, .unset, .unset, .unset, .unset, .unset, .unset, .unset, .unset, .unset, .unset] [(.int (1 : Int32)), (.int md)])) τ) => pre2 τ (by
        refine XS.ifYes X0.here hx rfl (pc0 := 7) (pc' := 22) rfl (hb hby at_7) rfl ((if0 _ _).trans (feq q1).2) (by decide) (by decide) ?_
        show Steps p.tables e below (s₁.setTop (mkF m 22 #[.val (.int p0), .val (.int p1), .val (.int p2), .val (.int p3), .val (.int md), .unset, .unset, .unset, .unset, .unset, .unset, .unset, .unset, .unset, .unset, .unset] [])) _
        refine XS.iload X0.here hx rfl (hb hby at_22) rfl ?_
        show Steps p.tables e below (s₁.setTop (mkF m 24 #[.val (.int p0), .val (.int p1), .val (.int p2), .val (.int p3), .val (.int md), .unset, .unset, .unset, .unset, .unset, .unset, .unset, .unset, .unset, .unset, .unset] [(.int md)])) _
        refine XS.iconst X0.here hx rfl (hb hby at_24) ?_
        show Steps p.tables e below (s₁.setTop (mkF m 25 #[.val (.int p0), .val (.int p1), .val (.int p2), .val (.int p3), .val (.int md), .unset, .unset, .unset, .unset, .unset, .unset, .unset, .unset, .unset, .unset, .unset] [(.int (1 : Int32)), (.int md)])) _
        exact κ)
      by_cases q2 : md = (1 : Int32)
      · have pre6 := fun τ (κ : Steps p.tables e below (s₁.setTop (mkF m 80 #[.val (.int p0), .val (.int p1), .val (.int p2), .val (.int p3), .val (.int md), .val (.int (p0 &&& (1 : Int32))), .val (.int (1 : Int32)), .unset, .unset, .unset, .unset, .unset, .unset, .unset, .unset, .unset] [])) τ) => pre5 τ (by
          refine XS.icmpNo X0.here hx rfl (hb hby at_25) rfl (teq q2).2 ?_
          show Steps p.tables e below (s₁.setTop (mkF m 28 #[.val (.int p0), .val (.int p1), .val (.int p2), .val (.int p3), .val (.int md), .unset, .unset, .unset, .unset, .unset, .unset, .unset, .unset, .unset, .unset, .unset] [])) _
          refine XS.iloadN X0.here hx rfl (hb hby at_28) rfl ?_
          show Steps p.tables e below (s₁.setTop (mkF m 29 #[.val (.int p0), .val (.int p1), .val (.int p2), .val (.int p3), .val (.int md), .unset, .unset, .unset, .unset, .unset, .unset, .unset, .unset, .unset, .unset, .unset] [(.int p0)])) _
          refine XS.iconst X0.here hx rfl (hb hby at_29) ?_
          show Steps p.tables e below (s₁.setTop (mkF m 30 #[.val (.int p0), .val (.int p1), .val (.int p2), .val (.int p3), .val (.int md), .unset, .unset, .unset, .unset, .unset, .unset, .unset, .unset, .unset, .unset, .unset] [(.int (1 : Int32)), (.int p0)])) _
          refine XS.iand X0.here hx rfl (hb hby at_30) rfl ?_
          show Steps p.tables e below (s₁.setTop (mkF m 31 #[.val (.int p0), .val (.int p1), .val (.int p2), .val (.int p3), .val (.int md), .unset, .unset, .unset, .unset, .unset, .unset, .unset, .unset, .unset, .unset, .unset] [(.int (p0 &&& (1 : Int32)))])) _
          refine XS.istore X0.here hx rfl (hb hby at_31) rfl (l' := #[.val (.int p0), .val (.int p1), .val (.int p2), .val (.int p3), .val (.int md), .val (.int (p0 &&& (1 : Int32))), .unset, .unset, .unset, .unset, .unset, .unset, .unset, .unset, .unset, .unset]) rfl ?_
          show Steps p.tables e below (s₁.setTop (mkF m 33 #[.val (.int p0), .val (.int p1), .val (.int p2), .val (.int p3), .val (.int md), .val (.int (p0 &&& (1 : Int32))), .unset, .unset, .unset, .unset, .unset, .unset, .unset, .unset, .unset, .unset] [])) _
          refine XS.iconst X0.here hx rfl (hb hby at_33) ?_
          show Steps p.tables e below (s₁.setTop (mkF m 34 #[.val (.int p0), .val (.int p1), .val (.int p2), .val (.int p3), .val (.int md), .val (.int (p0 &&& (1 : Int32))), .unset, .unset, .unset, .unset, .unset, .unset, .unset, .unset, .unset, .unset] [(.int (1 : Int32))])) _
          refine XS.istore X0.here hx rfl (hb hby at_34) rfl (l' := #[.val (.int p0), .val (.int p1), .val (.int p2), .val (.int p3), .val (.int md), .val (.int (p0 &&& (1 : Int32))), .val (.int (1 : Int32)), .unset, .unset, .unset, .unset, .unset, .unset, .unset, .unset, .unset]) rfl ?_
          show Steps p.tables e below (s₁.setTop (mkF m 36 #[.val (.int p0), .val (.int p1), .val (.int p2), .val (.int p3), .val (.int md), .val (.int (p0 &&& (1 : Int32))), .val (.int (1 : Int32)), .unset, .unset, .unset, .unset, .unset, .unset, .unset, .unset, .unset] [])) _
          refine XS.goto X0.here hx rfl (pc0 := 36) (pc' := 80) rfl (hb hby at_36) (by decide) (by decide) ?_
          show Steps p.tables e below (s₁.setTop (mkF m 80 #[.val (.int p0), .val (.int p1), .val (.int p2), .val (.int p3), .val (.int md), .val (.int (p0 &&& (1 : Int32))), .val (.int (1 : Int32)), .unset, .unset, .unset, .unset, .unset, .unset, .unset, .unset, .unset] [])) _
          exact κ)
        exact ⟨s₁, h0, _, _, _, X0, e0, N0, Z0, own_maskp _ _ (by decide), pre6⟩
      · have pre7 := fun τ (κ : Steps p.tables e below (s₁.setTop (mkF m 42 #[.val (.int p0), .val (.int p1), .val (.int p2), .val (.int p3), .val (.int md), .unset, .unset, .unset, .unset, .unset, .unset, .unset, .unset, .unset, .unset, .unset] [(.int (2 : Int32)), (.int md)])) τ) => pre5 τ (by
          refine XS.icmpYes X0.here hx rfl (pc0 := 25) (pc' := 39) rfl (hb hby at_25) rfl (feq q2).2 (by decide) (by decide) ?_
          show Steps p.tables e below (s₁.setTop (mkF m 39 #[.val (.int p0), .val (.int p1), .val (.int p2), .val (.int p3), .val (.int md), .unset, .unset, .unset, .unset, .unset, .unset, .unset, .unset, .unset, .unset, .unset] [])) _
          refine XS.iload X0.here hx rfl (hb hby at_39) rfl ?_
          show Steps p.tables e below (s₁.setTop (mkF m 41 #[.val (.int p0), .val (.int p1), .val (.int p2), .val (.int p3), .val (.int md), .unset, .unset, .unset, .unset, .unset, .unset, .unset, .unset, .unset, .unset, .unset] [(.int md)])) _
          refine XS.iconst X0.here hx rfl (hb hby at_41) ?_
          show Steps p.tables e below (s₁.setTop (mkF m 42 #[.val (.int p0), .val (.int p1), .val (.int p2), .val (.int p3), .val (.int md), .unset, .unset, .unset, .unset, .unset, .unset, .unset, .unset, .unset, .unset, .unset] [(.int (2 : Int32)), (.int md)])) _
          exact κ)
        by_cases q3 : md = (2 : Int32)
        · have pre8 := fun τ (κ : Steps p.tables e below (s₁.setTop (mkF m 80 #[.val (.int p0), .val (.int p1), .val (.int p2), .val (.int p3), .val (.int md), .val (.int ((p0 &&& (2147483647 : Int32)) % (3 : Int32))), .val (.int (2 : Int32)), .unset, .unset, .unset, .unset, .unset, .unset, .unset, .unset, .unset] [])) τ) => pre7 τ (by
            refine XS.icmpNo X0.here hx rfl (hb hby at_42) rfl (teq q3).2 ?_
            show Steps p.tables e below (s₁.setTop (mkF m 45 #[.val (.int p0), .val (.int p1), .val (.int p2), .val (.int p3), .val (.int md), .unset, .unset, .unset, .unset, .unset, .unset, .unset, .unset, .unset, .unset, .unset] [])) _
            refine XS.iloadN X0.here hx rfl (hb hby at_45) rfl ?_
            show Steps p.tables e below (s₁.setTop (mkF m 46 #[.val (.int p0), .val (.int p1), .val (.int p2), .val (.int p3), .val (.int md), .unset, .unset, .unset, .unset, .unset, .unset, .unset, .unset, .unset, .unset, .unset] [(.int p0)])) _
            refine X0.ldcInt hx hown (mvT hZ (hw _ (List.mem_of_getElem? (i := 0) rfl))) (g := (mkF m 46 #[.val (.int p0), .val (.int p1), .val (.int p2), .val (.int p3), .val (.int md), .unset, .unset, .unset, .unset, .unset, .unset, .unset, .unset, .unset, .unset, .unset] [(.int p0)])) rfl (hb hby at_46) _ ?_
            show Steps p.tables e below (s₁.setTop (mkF m 48 #[.val (.int p0), .val (.int p1), .val (.int p2), .val (.int p3), .val (.int md), .unset, .unset, .unset, .unset, .unset, .unset, .unset, .unset, .unset, .unset, .unset] [(.int (2147483647 : Int32)), (.int p0)])) _
            refine XS.iand X0.here hx rfl (hb hby at_48) rfl ?_
            show Steps p.tables e below (s₁.setTop (mkF m 49 #[.val (.int p0), .val (.int p1), .val (.int p2), .val (.int p3), .val (.int md), .unset, .unset, .unset, .unset, .unset, .unset, .unset, .unset, .unset, .unset, .unset] [(.int (p0 &&& (2147483647 : Int32)))])) _
            refine XS.iconst X0.here hx rfl (hb hby at_49) ?_
            show Steps p.tables e below (s₁.setTop (mkF m 50 #[.val (.int p0), .val (.int p1), .val (.int p2), .val (.int p3), .val (.int md), .unset, .unset, .unset, .unset, .unset, .unset, .unset, .unset, .unset, .unset, .unset] [(.int (3 : Int32)), (.int (p0 &&& (2147483647 : Int32)))])) _
            refine iremM X0 hx rfl (hb hby at_50) rfl (by decide) ?_
            show Steps p.tables e below (s₁.setTop (mkF m 51 #[.val (.int p0), .val (.int p1), .val (.int p2), .val (.int p3), .val (.int md), .unset, .unset, .unset, .unset, .unset, .unset, .unset, .unset, .unset, .unset, .unset] [(.int ((p0 &&& (2147483647 : Int32)) % (3 : Int32)))])) _
            refine XS.istore X0.here hx rfl (hb hby at_51) rfl (l' := #[.val (.int p0), .val (.int p1), .val (.int p2), .val (.int p3), .val (.int md), .val (.int ((p0 &&& (2147483647 : Int32)) % (3 : Int32))), .unset, .unset, .unset, .unset, .unset, .unset, .unset, .unset, .unset, .unset]) rfl ?_
            show Steps p.tables e below (s₁.setTop (mkF m 53 #[.val (.int p0), .val (.int p1), .val (.int p2), .val (.int p3), .val (.int md), .val (.int ((p0 &&& (2147483647 : Int32)) % (3 : Int32))), .unset, .unset, .unset, .unset, .unset, .unset, .unset, .unset, .unset, .unset] [])) _
            refine XS.iconst X0.here hx rfl (hb hby at_53) ?_
            show Steps p.tables e below (s₁.setTop (mkF m 54 #[.val (.int p0), .val (.int p1), .val (.int p2), .val (.int p3), .val (.int md), .val (.int ((p0 &&& (2147483647 : Int32)) % (3 : Int32))), .unset, .unset, .unset, .unset, .unset, .unset, .unset, .unset, .unset, .unset] [(.int (2 : Int32))])) _
            refine XS.istore X0.here hx rfl (hb hby at_54) rfl (l' := #[.val (.int p0), .val (.int p1), .val (.int p2), .val (.int p3), .val (.int md), .val (.int ((p0 &&& (2147483647 : Int32)) % (3 : Int32))), .val (.int (2 : Int32)), .unset, .unset, .unset, .unset, .unset, .unset, .unset, .unset, .unset]) rfl ?_
            show Steps p.tables e below (s₁.setTop (mkF m 56 #[.val (.int p0), .val (.int p1), .val (.int p2), .val (.int p3), .val (.int md), .val (.int ((p0 &&& (2147483647 : Int32)) % (3 : Int32))), .val (.int (2 : Int32)), .unset, .unset, .unset, .unset, .unset, .unset, .unset, .unset, .unset] [])) _
            refine XS.goto X0.here hx rfl (pc0 := 56) (pc' := 80) rfl (hb hby at_56) (by decide) (by decide) ?_
            show Steps p.tables e below (s₁.setTop (mkF m 80 #[.val (.int p0), .val (.int p1), .val (.int p2), .val (.int p3), .val (.int md), .val (.int ((p0 &&& (2147483647 : Int32)) % (3 : Int32))), .val (.int (2 : Int32)), .unset, .unset, .unset, .unset, .unset, .unset, .unset, .unset, .unset] [])) _
            exact κ)
          exact ⟨s₁, h0, _, _, _, X0, e0, N0, Z0, own_rem3 _, pre8⟩
        · have pre9 := fun τ (κ : Steps p.tables e below (s₁.setTop (mkF m 71 #[.val (.int p0), .val (.int p1), .val (.int p2), .val (.int p3), .val (.int md), .val (.int (p0 &&& (2147483647 : Int32))), .unset, .unset, .unset, .unset, .unset, .unset, .unset, .unset, .unset, .unset] [(.int (p2 &&& (2147483647 : Int32))), (.int (p0 &&& (2147483647 : Int32)))])) τ) => pre7 τ (by
            refine XS.icmpYes X0.here hx rfl (pc0 := 42) (pc' := 59) rfl (hb hby at_42) rfl (feq q3).2 (by decide) (by decide) ?_
            show Steps p.tables e below (s₁.setTop (mkF m 59 #[.val (.int p0), .val (.int p1), .val (.int p2), .val (.int p3), .val (.int md), .unset, .unset, .unset, .unset, .unset, .unset, .unset, .unset, .unset, .unset, .unset] [])) _
            refine XS.iloadN X0.here hx rfl (hb hby at_59) rfl ?_
            show Steps p.tables e below (s₁.setTop (mkF m 60 #[.val (.int p0), .val (.int p1), .val (.int p2), .val (.int p3), .val (.int md), .unset, .unset, .unset, .unset, .unset, .unset, .unset, .unset, .unset, .unset, .unset] [(.int p0)])) _
            refine X0.ldcInt hx hown (mvT hZ (hw _ (List.mem_of_getElem? (i := 0) rfl))) (g := (mkF m 60 #[.val (.int p0), .val (.int p1), .val (.int p2), .val (.int p3), .val (.int md), .unset, .unset, .unset, .unset, .unset, .unset, .unset, .unset, .unset, .unset, .unset] [(.int p0)])) rfl (hb hby at_60) _ ?_
            show Steps p.tables e below (s₁.setTop (mkF m 62 #[.val (.int p0), .val (.int p1), .val (.int p2), .val (.int p3), .val (.int md), .unset, .unset, .unset, .unset, .unset, .unset, .unset, .unset, .unset, .unset, .unset] [(.int (2147483647 : Int32)), (.int p0)])) _
            refine XS.iand X0.here hx rfl (hb hby at_62) rfl ?_
            show Steps p.tables e below (s₁.setTop (mkF m 63 #[.val (.int p0), .val (.int p1), .val (.int p2), .val (.int p3), .val (.int md), .unset, .unset, .unset, .unset, .unset, .unset, .unset, .unset, .unset, .unset, .unset] [(.int (p0 &&& (2147483647 : Int32)))])) _
            refine XS.istore X0.here hx rfl (hb hby at_63) rfl (l' := #[.val (.int p0), .val (.int p1), .val (.int p2), .val (.int p3), .val (.int md), .val (.int (p0 &&& (2147483647 : Int32))), .unset, .unset, .unset, .unset, .unset, .unset, .unset, .unset, .unset, .unset]) rfl ?_
            show Steps p.tables e below (s₁.setTop (mkF m 65 #[.val (.int p0), .val (.int p1), .val (.int p2), .val (.int p3), .val (.int md), .val (.int (p0 &&& (2147483647 : Int32))), .unset, .unset, .unset, .unset, .unset, .unset, .unset, .unset, .unset, .unset] [])) _
            refine XS.iload X0.here hx rfl (hb hby at_65) rfl ?_
            show Steps p.tables e below (s₁.setTop (mkF m 67 #[.val (.int p0), .val (.int p1), .val (.int p2), .val (.int p3), .val (.int md), .val (.int (p0 &&& (2147483647 : Int32))), .unset, .unset, .unset, .unset, .unset, .unset, .unset, .unset, .unset, .unset] [(.int (p0 &&& (2147483647 : Int32)))])) _
            refine XS.iloadN X0.here hx rfl (hb hby at_67) rfl ?_
            show Steps p.tables e below (s₁.setTop (mkF m 68 #[.val (.int p0), .val (.int p1), .val (.int p2), .val (.int p3), .val (.int md), .val (.int (p0 &&& (2147483647 : Int32))), .unset, .unset, .unset, .unset, .unset, .unset, .unset, .unset, .unset, .unset] [(.int p2), (.int (p0 &&& (2147483647 : Int32)))])) _
            refine X0.ldcInt hx hown (mvT hZ (hw _ (List.mem_of_getElem? (i := 0) rfl))) (g := (mkF m 68 #[.val (.int p0), .val (.int p1), .val (.int p2), .val (.int p3), .val (.int md), .val (.int (p0 &&& (2147483647 : Int32))), .unset, .unset, .unset, .unset, .unset, .unset, .unset, .unset, .unset, .unset] [(.int p2), (.int (p0 &&& (2147483647 : Int32)))])) rfl (hb hby at_68) _ ?_
            show Steps p.tables e below (s₁.setTop (mkF m 70 #[.val (.int p0), .val (.int p1), .val (.int p2), .val (.int p3), .val (.int md), .val (.int (p0 &&& (2147483647 : Int32))), .unset, .unset, .unset, .unset, .unset, .unset, .unset, .unset, .unset, .unset] [(.int (2147483647 : Int32)), (.int p2), (.int (p0 &&& (2147483647 : Int32)))])) _
            refine XS.iand X0.here hx rfl (hb hby at_70) rfl ?_
            show Steps p.tables e below (s₁.setTop (mkF m 71 #[.val (.int p0), .val (.int p1), .val (.int p2), .val (.int p3), .val (.int md), .val (.int (p0 &&& (2147483647 : Int32))), .unset, .unset, .unset, .unset, .unset, .unset, .unset, .unset, .unset, .unset] [(.int (p2 &&& (2147483647 : Int32))), (.int (p0 &&& (2147483647 : Int32)))])) _
            exact κ)
          obtain ⟨_, _, ⟨T10, L10, k10, n10⟩, -, X10, ⟨Lc10, hQ10, l10, y10, z10⟩, st10⟩ := Jvm.LawKit.callS X0 hx (y := (⟨"java/lang/Math", "max", "(II)I"⟩ : MethodName)) hown (mvT hZ (hw _ (List.mem_of_getElem? (i := 1) rfl))) (mvT hZ (hw _ (List.mem_of_getElem? (i := 2) rfl))) (mvT hZ (hw _ (List.mem_of_getElem? (i := 3) rfl))) (mvT hZ (hw _ (List.mem_of_getElem? (i := 4) rfl))) (by decide) (backOf (W := 0) (rm1 l Z a0 hw [] (p0 &&& (2147483647 : Int32)) (p2 &&& (2147483647 : Int32)) h0 n0 Z0) hZ (hw _ (List.mem_of_getElem? (i := 4) rfl)) (hw _ (List.mem_of_getElem? (i := 3) rfl)) (by decide) (by decide)) (g := (mkF m 71 #[.val (.int p0), .val (.int p1), .val (.int p2), .val (.int p3), .val (.int md), .val (.int (p0 &&& (2147483647 : Int32))), .unset, .unset, .unset, .unset, .unset, .unset, .unset, .unset, .unset, .unset] [(.int (p2 &&& (2147483647 : Int32))), (.int (p0 &&& (2147483647 : Int32)))])) rfl (by rw [hml]; rfl) (argsL := [(.int (p0 &&& (2147483647 : Int32))), (.int (p2 &&& (2147483647 : Int32)))]) (rest := []) (lenOf pd_5 rfl) rfl (by show 2 * 0 + _ ≤ _; exact Nat.le_of_eq rfl) (hb hby at_71) (fun _ _ => ⟨rfl, e0, (by decide : 0 + 0 ≤ _), (by decide : 0 + 0 ≤ _)⟩)
          dsimp only [Pt.U, Pt.locs, Pt.cells, Pt.slots] at X10 l10 y10 z10 st10 hQ10
          subst l10 y10 z10
          obtain ⟨z1, rfl, Nq10, hh10⟩ := hQ10
          have Z10 : n0 ≤ T10.heap.size := by rw [hh10]; exact Z0
          have N10 := Fr.app N0 Nq10
          have pre11 := fun τ (κ : Steps p.tables e below (T10.setTop (mkF m 74 #[.val (.int p0), .val (.int p1), .val (.int p2), .val (.int p3), .val (.int md), .val (.int (p0 &&& (2147483647 : Int32))), .unset, .unset, .unset, .unset, .unset, .unset, .unset, .unset, .unset, .unset] [(.int z1)])) τ) => pre9 τ (st10 _ κ)
          have pre12 := fun τ (κ : Steps p.tables e below (T10.setTop (mkF m 75 #[.val (.int p0), .val (.int p1), .val (.int p2), .val (.int p3), .val (.int md), .val (.int (p0 &&& (2147483647 : Int32))), .unset, .unset, .unset, .unset, .unset, .unset, .unset, .unset, .unset, .unset] [(.int (1 : Int32)), (.int z1)])) τ) => pre11 τ (by
            refine XS.iconst X10.here hx rfl (hb hby at_74) ?_
            show Steps p.tables e below (T10.setTop (mkF m 75 #[.val (.int p0), .val (.int p1), .val (.int p2), .val (.int p3), .val (.int md), .val (.int (p0 &&& (2147483647 : Int32))), .unset, .unset, .unset, .unset, .unset, .unset, .unset, .unset, .unset, .unset] [(.int (1 : Int32)), (.int z1)])) _
            exact κ)
          obtain ⟨_, _, ⟨T13, L13, k13, n13⟩, -, X13, ⟨Lc13, hQ13, l13, y13, z13⟩, st13⟩ := Jvm.LawKit.callS X10 hx (y := (⟨"java/lang/Math", "max", "(II)I"⟩ : MethodName)) hown (mvT hZ (hw _ (List.mem_of_getElem? (i := 1) rfl))) (mvT hZ (hw _ (List.mem_of_getElem? (i := 2) rfl))) (mvT hZ (hw _ (List.mem_of_getElem? (i := 3) rfl))) (mvT hZ (hw _ (List.mem_of_getElem? (i := 4) rfl))) (by decide) (backOf (W := 0) (rm1 l Z a0 hw [] z1 (1 : Int32) T10.heap n0 Z10) hZ (hw _ (List.mem_of_getElem? (i := 4) rfl)) (hw _ (List.mem_of_getElem? (i := 3) rfl)) (by decide) (by decide)) (g := (mkF m 75 #[.val (.int p0), .val (.int p1), .val (.int p2), .val (.int p3), .val (.int md), .val (.int (p0 &&& (2147483647 : Int32))), .unset, .unset, .unset, .unset, .unset, .unset, .unset, .unset, .unset, .unset] [(.int (1 : Int32)), (.int z1)])) rfl (by rw [hml]; rfl) (argsL := [(.int z1), (.int (1 : Int32))]) (rest := []) (lenOf pd_5 rfl) rfl (by show 2 * 0 + _ ≤ _; exact Nat.le_of_eq rfl) (hb hby at_75) (fun _ _ => ⟨rfl, rfl, (by decide : 0 + 0 ≤ _), (by decide : 0 + 0 ≤ _)⟩)
          dsimp only [Pt.U, Pt.locs, Pt.cells, Pt.slots] at X13 l13 y13 z13 st13 hQ13
          subst l13 y13 z13
          obtain ⟨z2, rfl, Nq13, hh13⟩ := hQ13
          have Z13 : n0 ≤ T13.heap.size := by rw [hh13]; exact Z10
          have N13 := Fr.app N10 Nq13
          have pre14 := fun τ (κ : Steps p.tables e below (T13.setTop (mkF m 78 #[.val (.int p0), .val (.int p1), .val (.int p2), .val (.int p3), .val (.int md), .val (.int (p0 &&& (2147483647 : Int32))), .unset, .unset, .unset, .unset, .unset, .unset, .unset, .unset, .unset, .unset] [(.int z2)])) τ) => pre12 τ (st13 _ κ)
          have pre15 := fun τ (κ : Steps p.tables e below (T13.setTop (mkF m 80 #[.val (.int p0), .val (.int p1), .val (.int p2), .val (.int p3), .val (.int md), .val (.int (p0 &&& (2147483647 : Int32))), .val (.int z2), .unset, .unset, .unset, .unset, .unset, .unset, .unset, .unset, .unset] [])) τ) => pre14 τ (by
            refine XS.istore X13.here hx rfl (hb hby at_78) rfl (l' := #[.val (.int p0), .val (.int p1), .val (.int p2), .val (.int p3), .val (.int md), .val (.int (p0 &&& (2147483647 : Int32))), .val (.int z2), .unset, .unset, .unset, .unset, .unset, .unset, .unset, .unset, .unset]) rfl ?_
            show Steps p.tables e below (T13.setTop (mkF m 80 #[.val (.int p0), .val (.int p1), .val (.int p2), .val (.int p3), .val (.int md), .val (.int (p0 &&& (2147483647 : Int32))), .val (.int z2), .unset, .unset, .unset, .unset, .unset, .unset, .unset, .unset, .unset] [])) _
            exact κ)
          exact ⟨T13, T13.heap, _, _, _, X13, rfl, N13, Z13, own_maskp _ _ (by decide), pre15⟩
  have pre16 := fun τ (κ : Steps p.tables e below (T3.setTop (mkF m 83 #[.val (.int p0), .val (.int p1), .val (.int p2), .val (.int p3), .val (.int md), .val (.int le), .val (.int mo), .unset, .unset, .unset, .unset, .unset, .unset, .unset, .unset, .unset] [(.int (p3 &&& (1 : Int32)))])) τ) => pre3 τ (by
    refine XS.iloadN X3.here hx rfl (hb hby at_80) rfl ?_
    show Steps p.tables e below (T3.setTop (mkF m 81 #[.val (.int p0), .val (.int p1), .val (.int p2), .val (.int p3), .val (.int md), .val (.int le), .val (.int mo), .unset, .unset, .unset, .unset, .unset, .unset, .unset, .unset, .unset] [(.int p3)])) _
    refine XS.iconst X3.here hx rfl (hb hby at_81) ?_
    show Steps p.tables e below (T3.setTop (mkF m 82 #[.val (.int p0), .val (.int p1), .val (.int p2), .val (.int p3), .val (.int md), .val (.int le), .val (.int mo), .unset, .unset, .unset, .unset, .unset, .unset, .unset, .unset, .unset] [(.int (1 : Int32)), (.int p3)])) _
    refine XS.iand X3.here hx rfl (hb hby at_82) rfl ?_
    show Steps p.tables e below (T3.setTop (mkF m 83 #[.val (.int p0), .val (.int p1), .val (.int p2), .val (.int p3), .val (.int md), .val (.int le), .val (.int mo), .unset, .unset, .unset, .unset, .unset, .unset, .unset, .unset, .unset] [(.int (p3 &&& (1 : Int32)))])) _
    exact κ)
  obtain ⟨va, pre17⟩ : ∃ va : Int32, ∀ τ, Steps p.tables e below (T3.setTop (mkF m 93 #[.val (.int p0), .val (.int p1), .val (.int p2), .val (.int p3), .val (.int md), .val (.int le), .val (.int mo), .val (.int va), .unset, .unset, .unset, .unset, .unset, .unset, .unset, .unset] [])) τ → Steps p.tables e below (s₁.setTop (entryFrame m #[(.int p0), (.int p1), (.int p2), (.int p3)] maxLocals)) τ := by
    by_cases q1 : (p3 &&& (1 : Int32)) = (0 : Int32)
    · have pre18 := fun τ (κ : Steps p.tables e below (T3.setTop (mkF m 93 #[.val (.int p0), .val (.int p1), .val (.int p2), .val (.int p3), .val (.int md), .val (.int le), .val (.int mo), .val (.int (0 : Int32)), .unset, .unset, .unset, .unset, .unset, .unset, .unset, .unset] [])) τ) => pre16 τ (by
        refine XS.ifYes X3.here hx rfl (pc0 := 83) (pc' := 90) rfl (hb hby at_83) rfl ((if0 _ _).trans (teq q1).1) (by decide) (by decide) ?_
        show Steps p.tables e below (T3.setTop (mkF m 90 #[.val (.int p0), .val (.int p1), .val (.int p2), .val (.int p3), .val (.int md), .val (.int le), .val (.int mo), .unset, .unset, .unset, .unset, .unset, .unset, .unset, .unset, .unset] [])) _
        refine XS.iconst X3.here hx rfl (hb hby at_90) ?_
        show Steps p.tables e below (T3.setTop (mkF m 91 #[.val (.int p0), .val (.int p1), .val (.int p2), .val (.int p3), .val (.int md), .val (.int le), .val (.int mo), .unset, .unset, .unset, .unset, .unset, .unset, .unset, .unset, .unset] [(.int (0 : Int32))])) _
        refine XS.istore X3.here hx rfl (hb hby at_91) rfl (l' := #[.val (.int p0), .val (.int p1), .val (.int p2), .val (.int p3), .val (.int md), .val (.int le), .val (.int mo), .val (.int (0 : Int32)), .unset, .unset, .unset, .unset, .unset, .unset, .unset, .unset]) rfl ?_
        show Steps p.tables e below (T3.setTop (mkF m 93 #[.val (.int p0), .val (.int p1), .val (.int p2), .val (.int p3), .val (.int md), .val (.int le), .val (.int mo), .val (.int (0 : Int32)), .unset, .unset, .unset, .unset, .unset, .unset, .unset, .unset] [])) _
        exact κ)
      exact ⟨_, pre18⟩
    · have pre19 := fun τ (κ : Steps p.tables e below (T3.setTop (mkF m 93 #[.val (.int p0), .val (.int p1), .val (.int p2), .val (.int p3), .val (.int md), .val (.int le), .val (.int mo), .val (.int (1 : Int32)), .unset, .unset, .unset, .unset, .unset, .unset, .unset, .unset] [])) τ) => pre16 τ (by
        refine XS.ifNo X3.here hx rfl (hb hby at_83) rfl ((if0 _ _).trans (feq q1).1) ?_
        show Steps p.tables e below (T3.setTop (mkF m 86 #[.val (.int p0), .val (.int p1), .val (.int p2), .val (.int p3), .val (.int md), .val (.int le), .val (.int mo), .unset, .unset, .unset, .unset, .unset, .unset, .unset, .unset, .unset] [])) _
        refine XS.iconst X3.here hx rfl (hb hby at_86) ?_
        show Steps p.tables e below (T3.setTop (mkF m 87 #[.val (.int p0), .val (.int p1), .val (.int p2), .val (.int p3), .val (.int md), .val (.int le), .val (.int mo), .unset, .unset, .unset, .unset, .unset, .unset, .unset, .unset, .unset] [(.int (1 : Int32))])) _
        refine XS.goto X3.here hx rfl (pc0 := 87) (pc' := 91) rfl (hb hby at_87) (by decide) (by decide) ?_
        show Steps p.tables e below (T3.setTop (mkF m 91 #[.val (.int p0), .val (.int p1), .val (.int p2), .val (.int p3), .val (.int md), .val (.int le), .val (.int mo), .unset, .unset, .unset, .unset, .unset, .unset, .unset, .unset, .unset] [(.int (1 : Int32))])) _
        refine XS.istore X3.here hx rfl (hb hby at_91) rfl (l' := #[.val (.int p0), .val (.int p1), .val (.int p2), .val (.int p3), .val (.int md), .val (.int le), .val (.int mo), .val (.int (1 : Int32)), .unset, .unset, .unset, .unset, .unset, .unset, .unset, .unset]) rfl ?_
        show Steps p.tables e below (T3.setTop (mkF m 93 #[.val (.int p0), .val (.int p1), .val (.int p2), .val (.int p3), .val (.int md), .val (.int le), .val (.int mo), .val (.int (1 : Int32)), .unset, .unset, .unset, .unset, .unset, .unset, .unset, .unset] [])) _
        exact κ)
      exact ⟨_, pre19⟩
  have pre20 := fun τ (κ : Steps p.tables e below (T3.setTop (mkF m 96 #[.val (.int p0), .val (.int p1), .val (.int p2), .val (.int p3), .val (.int md), .val (.int le), .val (.int mo), .val (.int va), .unset, .unset, .unset, .unset, .unset, .unset, .unset, .unset] [(.int (p3 &&& (2 : Int32)))])) τ) => pre17 τ (by
    refine XS.iloadN X3.here hx rfl (hb hby at_93) rfl ?_
    show Steps p.tables e below (T3.setTop (mkF m 94 #[.val (.int p0), .val (.int p1), .val (.int p2), .val (.int p3), .val (.int md), .val (.int le), .val (.int mo), .val (.int va), .unset, .unset, .unset, .unset, .unset, .unset, .unset, .unset] [(.int p3)])) _
    refine XS.iconst X3.here hx rfl (hb hby at_94) ?_
    show Steps p.tables e below (T3.setTop (mkF m 95 #[.val (.int p0), .val (.int p1), .val (.int p2), .val (.int p3), .val (.int md), .val (.int le), .val (.int mo), .val (.int va), .unset, .unset, .unset, .unset, .unset, .unset, .unset, .unset] [(.int (2 : Int32)), (.int p3)])) _
    refine XS.iand X3.here hx rfl (hb hby at_95) rfl ?_
    show Steps p.tables e below (T3.setTop (mkF m 96 #[.val (.int p0), .val (.int p1), .val (.int p2), .val (.int p3), .val (.int md), .val (.int le), .val (.int mo), .val (.int va), .unset, .unset, .unset, .unset, .unset, .unset, .unset, .unset] [(.int (p3 &&& (2 : Int32)))])) _
    exact κ)
  obtain ⟨vb, pre21⟩ : ∃ vb : Int32, ∀ τ, Steps p.tables e below (T3.setTop (mkF m 106 #[.val (.int p0), .val (.int p1), .val (.int p2), .val (.int p3), .val (.int md), .val (.int le), .val (.int mo), .val (.int va), .val (.int vb), .unset, .unset, .unset, .unset, .unset, .unset, .unset] [])) τ → Steps p.tables e below (s₁.setTop (entryFrame m #[(.int p0), (.int p1), (.int p2), (.int p3)] maxLocals)) τ := by
    by_cases q1 : (p3 &&& (2 : Int32)) = (0 : Int32)
    · have pre22 := fun τ (κ : Steps p.tables e below (T3.setTop (mkF m 106 #[.val (.int p0), .val (.int p1), .val (.int p2), .val (.int p3), .val (.int md), .val (.int le), .val (.int mo), .val (.int va), .val (.int (0 : Int32)), .unset, .unset, .unset, .unset, .unset, .unset, .unset] [])) τ) => pre20 τ (by
        refine XS.ifYes X3.here hx rfl (pc0 := 96) (pc' := 103) rfl (hb hby at_96) rfl ((if0 _ _).trans (teq q1).1) (by decide) (by decide) ?_
        show Steps p.tables e below (T3.setTop (mkF m 103 #[.val (.int p0), .val (.int p1), .val (.int p2), .val (.int p3), .val (.int md), .val (.int le), .val (.int mo), .val (.int va), .unset, .unset, .unset, .unset, .unset, .unset, .unset, .unset] [])) _
        refine XS.iconst X3.here hx rfl (hb hby at_103) ?_
        show Steps p.tables e below (T3.setTop (mkF m 104 #[.val (.int p0), .val (.int p1), .val (.int p2), .val (.int p3), .val (.int md), .val (.int le), .val (.int mo), .val (.int va), .unset, .unset, .unset, .unset, .unset, .unset, .unset, .unset] [(.int (0 : Int32))])) _
        refine XS.istore X3.here hx rfl (hb hby at_104) rfl (l' := #[.val (.int p0), .val (.int p1), .val (.int p2), .val (.int p3), .val (.int md), .val (.int le), .val (.int mo), .val (.int va), .val (.int (0 : Int32)), .unset, .unset, .unset, .unset, .unset, .unset, .unset]) rfl ?_
        show Steps p.tables e below (T3.setTop (mkF m 106 #[.val (.int p0), .val (.int p1), .val (.int p2), .val (.int p3), .val (.int md), .val (.int le), .val (.int mo), .val (.int va), .val (.int (0 : Int32)), .unset, .unset, .unset, .unset, .unset, .unset, .unset] [])) _
        exact κ)
      exact ⟨_, pre22⟩
    · have pre23 := fun τ (κ : Steps p.tables e below (T3.setTop (mkF m 106 #[.val (.int p0), .val (.int p1), .val (.int p2), .val (.int p3), .val (.int md), .val (.int le), .val (.int mo), .val (.int va), .val (.int (1 : Int32)), .unset, .unset, .unset, .unset, .unset, .unset, .unset] [])) τ) => pre20 τ (by
        refine XS.ifNo X3.here hx rfl (hb hby at_96) rfl ((if0 _ _).trans (feq q1).1) ?_
        show Steps p.tables e below (T3.setTop (mkF m 99 #[.val (.int p0), .val (.int p1), .val (.int p2), .val (.int p3), .val (.int md), .val (.int le), .val (.int mo), .val (.int va), .unset, .unset, .unset, .unset, .unset, .unset, .unset, .unset] [])) _
        refine XS.iconst X3.here hx rfl (hb hby at_99) ?_
        show Steps p.tables e below (T3.setTop (mkF m 100 #[.val (.int p0), .val (.int p1), .val (.int p2), .val (.int p3), .val (.int md), .val (.int le), .val (.int mo), .val (.int va), .unset, .unset, .unset, .unset, .unset, .unset, .unset, .unset] [(.int (1 : Int32))])) _
        refine XS.goto X3.here hx rfl (pc0 := 100) (pc' := 104) rfl (hb hby at_100) (by decide) (by decide) ?_
        show Steps p.tables e below (T3.setTop (mkF m 104 #[.val (.int p0), .val (.int p1), .val (.int p2), .val (.int p3), .val (.int md), .val (.int le), .val (.int mo), .val (.int va), .unset, .unset, .unset, .unset, .unset, .unset, .unset, .unset] [(.int (1 : Int32))])) _
        refine XS.istore X3.here hx rfl (hb hby at_104) rfl (l' := #[.val (.int p0), .val (.int p1), .val (.int p2), .val (.int p3), .val (.int md), .val (.int le), .val (.int mo), .val (.int va), .val (.int (1 : Int32)), .unset, .unset, .unset, .unset, .unset, .unset, .unset]) rfl ?_
        show Steps p.tables e below (T3.setTop (mkF m 106 #[.val (.int p0), .val (.int p1), .val (.int p2), .val (.int p3), .val (.int md), .val (.int le), .val (.int mo), .val (.int va), .val (.int (1 : Int32)), .unset, .unset, .unset, .unset, .unset, .unset, .unset] [])) _
        exact κ)
      exact ⟨_, pre23⟩
  have pre24 := fun τ (κ : Steps p.tables e below (T3.setTop (mkF m 109 #[.val (.int p0), .val (.int p1), .val (.int p2), .val (.int p3), .val (.int md), .val (.int le), .val (.int mo), .val (.int va), .val (.int vb), .unset, .unset, .unset, .unset, .unset, .unset, .unset] [(.int (p3 &&& (4 : Int32)))])) τ) => pre21 τ (by
    refine XS.iloadN X3.here hx rfl (hb hby at_106) rfl ?_
    show Steps p.tables e below (T3.setTop (mkF m 107 #[.val (.int p0), .val (.int p1), .val (.int p2), .val (.int p3), .val (.int md), .val (.int le), .val (.int mo), .val (.int va), .val (.int vb), .unset, .unset, .unset, .unset, .unset, .unset, .unset] [(.int p3)])) _
    refine XS.iconst X3.here hx rfl (hb hby at_107) ?_
    show Steps p.tables e below (T3.setTop (mkF m 108 #[.val (.int p0), .val (.int p1), .val (.int p2), .val (.int p3), .val (.int md), .val (.int le), .val (.int mo), .val (.int va), .val (.int vb), .unset, .unset, .unset, .unset, .unset, .unset, .unset] [(.int (4 : Int32)), (.int p3)])) _
    refine XS.iand X3.here hx rfl (hb hby at_108) rfl ?_
    show Steps p.tables e below (T3.setTop (mkF m 109 #[.val (.int p0), .val (.int p1), .val (.int p2), .val (.int p3), .val (.int md), .val (.int le), .val (.int mo), .val (.int va), .val (.int vb), .unset, .unset, .unset, .unset, .unset, .unset, .unset] [(.int (p3 &&& (4 : Int32)))])) _
    exact κ)
  obtain ⟨vd, pre25⟩ : ∃ vd : Int32, ∀ τ, Steps p.tables e below (T3.setTop (mkF m 119 #[.val (.int p0), .val (.int p1), .val (.int p2), .val (.int p3), .val (.int md), .val (.int le), .val (.int mo), .val (.int va), .val (.int vb), .val (.int vd), .unset, .unset, .unset, .unset, .unset, .unset] [])) τ → Steps p.tables e below (s₁.setTop (entryFrame m #[(.int p0), (.int p1), (.int p2), (.int p3)] maxLocals)) τ := by
    by_cases q1 : (p3 &&& (4 : Int32)) = (0 : Int32)
    · have pre26 := fun τ (κ : Steps p.tables e below (T3.setTop (mkF m 119 #[.val (.int p0), .val (.int p1), .val (.int p2), .val (.int p3), .val (.int md), .val (.int le), .val (.int mo), .val (.int va), .val (.int vb), .val (.int (0 : Int32)), .unset, .unset, .unset, .unset, .unset, .unset] [])) τ) => pre24 τ (by
        refine XS.ifYes X3.here hx rfl (pc0 := 109) (pc' := 116) rfl (hb hby at_109) rfl ((if0 _ _).trans (teq q1).1) (by decide) (by decide) ?_
        show Steps p.tables e below (T3.setTop (mkF m 116 #[.val (.int p0), .val (.int p1), .val (.int p2), .val (.int p3), .val (.int md), .val (.int le), .val (.int mo), .val (.int va), .val (.int vb), .unset, .unset, .unset, .unset, .unset, .unset, .unset] [])) _
        refine XS.iconst X3.here hx rfl (hb hby at_116) ?_
        show Steps p.tables e below (T3.setTop (mkF m 117 #[.val (.int p0), .val (.int p1), .val (.int p2), .val (.int p3), .val (.int md), .val (.int le), .val (.int mo), .val (.int va), .val (.int vb), .unset, .unset, .unset, .unset, .unset, .unset, .unset] [(.int (0 : Int32))])) _
        refine XS.istore X3.here hx rfl (hb hby at_117) rfl (l' := #[.val (.int p0), .val (.int p1), .val (.int p2), .val (.int p3), .val (.int md), .val (.int le), .val (.int mo), .val (.int va), .val (.int vb), .val (.int (0 : Int32)), .unset, .unset, .unset, .unset, .unset, .unset]) rfl ?_
        show Steps p.tables e below (T3.setTop (mkF m 119 #[.val (.int p0), .val (.int p1), .val (.int p2), .val (.int p3), .val (.int md), .val (.int le), .val (.int mo), .val (.int va), .val (.int vb), .val (.int (0 : Int32)), .unset, .unset, .unset, .unset, .unset, .unset] [])) _
        exact κ)
      exact ⟨_, pre26⟩
    · have pre27 := fun τ (κ : Steps p.tables e below (T3.setTop (mkF m 119 #[.val (.int p0), .val (.int p1), .val (.int p2), .val (.int p3), .val (.int md), .val (.int le), .val (.int mo), .val (.int va), .val (.int vb), .val (.int (1 : Int32)), .unset, .unset, .unset, .unset, .unset, .unset] [])) τ) => pre24 τ (by
        refine XS.ifNo X3.here hx rfl (hb hby at_109) rfl ((if0 _ _).trans (feq q1).1) ?_
        show Steps p.tables e below (T3.setTop (mkF m 112 #[.val (.int p0), .val (.int p1), .val (.int p2), .val (.int p3), .val (.int md), .val (.int le), .val (.int mo), .val (.int va), .val (.int vb), .unset, .unset, .unset, .unset, .unset, .unset, .unset] [])) _
        refine XS.iconst X3.here hx rfl (hb hby at_112) ?_
        show Steps p.tables e below (T3.setTop (mkF m 113 #[.val (.int p0), .val (.int p1), .val (.int p2), .val (.int p3), .val (.int md), .val (.int le), .val (.int mo), .val (.int va), .val (.int vb), .unset, .unset, .unset, .unset, .unset, .unset, .unset] [(.int (1 : Int32))])) _
        refine XS.goto X3.here hx rfl (pc0 := 113) (pc' := 117) rfl (hb hby at_113) (by decide) (by decide) ?_
        show Steps p.tables e below (T3.setTop (mkF m 117 #[.val (.int p0), .val (.int p1), .val (.int p2), .val (.int p3), .val (.int md), .val (.int le), .val (.int mo), .val (.int va), .val (.int vb), .unset, .unset, .unset, .unset, .unset, .unset, .unset] [(.int (1 : Int32))])) _
        refine XS.istore X3.here hx rfl (hb hby at_117) rfl (l' := #[.val (.int p0), .val (.int p1), .val (.int p2), .val (.int p3), .val (.int md), .val (.int le), .val (.int mo), .val (.int va), .val (.int vb), .val (.int (1 : Int32)), .unset, .unset, .unset, .unset, .unset, .unset]) rfl ?_
        show Steps p.tables e below (T3.setTop (mkF m 119 #[.val (.int p0), .val (.int p1), .val (.int p2), .val (.int p3), .val (.int md), .val (.int le), .val (.int mo), .val (.int va), .val (.int vb), .val (.int (1 : Int32)), .unset, .unset, .unset, .unset, .unset, .unset] [])) _
        exact κ)
      exact ⟨_, pre27⟩
  obtain ⟨T28, h28, X28, e28, E28, A28, D28, -, st28⟩ := newO X3 hx hZ hown (hw _ (List.mem_of_getElem? (i := 5) rfl)) (hw _ (List.mem_of_getElem? (i := 6) rfl)) (hw _ (List.mem_of_getElem? (i := 7) rfl)) e3 (g := (mkF m 119 #[.val (.int p0), .val (.int p1), .val (.int p2), .val (.int p3), .val (.int md), .val (.int le), .val (.int mo), .val (.int va), .val (.int vb), .val (.int vd), .unset, .unset, .unset, .unset, .unset, .unset] [])) rfl (hb hby at_119) (by decide) (by decide)
  obtain ⟨cc, g28⟩ : ∃ z, z = h3.size := ⟨_, rfl⟩
  rw [← g28] at A28 D28 st28
  have g_cc : n0 ≤ cc := Nat.le_trans Z3 (Nat.le_of_eq g28.symm)
  have Z28 : n0 ≤ h28.size := Nat.le_trans Z3 E28.1
  have F_oldest_cc_28 : Fld Z h28 cc "com/example/fettle/fettle/regex/Counts" "oldest" "[I" .null := D28 (Or.inl (hw _ (List.mem_of_getElem? (i := 16) rfl))) (ty := (.array .int)) (by decide)
  have F_newest_cc_28 : Fld Z h28 cc "com/example/fettle/fettle/regex/Counts" "newest" "[I" .null := D28 (Or.inl (hw _ (List.mem_of_getElem? (i := 18) rfl))) (ty := (.array .int)) (by decide)
  have F_least_cc_28 : Fld Z h28 cc "com/example/fettle/fettle/regex/Counts" "least" "I" (.int (0 : Int32)) := D28 (Or.inr (hw _ (List.mem_of_getElem? (i := 20) rfl))) (ty := .int) (by decide)
  have F_most_cc_28 : Fld Z h28 cc "com/example/fettle/fettle/regex/Counts" "most" "I" (.int (0 : Int32)) := D28 (Or.inr (hw _ (List.mem_of_getElem? (i := 22) rfl))) (ty := .int) (by decide)
  have F_runs_cc_28 : Fld Z h28 cc "com/example/fettle/fettle/regex/Counts" "runs" "I" (.int (0 : Int32)) := D28 (Or.inl (hw _ (List.mem_of_getElem? (i := 29) rfl))) (ty := .int) (by decide)
  have F_starting_cc_28 : Fld Z h28 cc "com/example/fettle/fettle/regex/Counts" "starting" "Z" (.int (0 : Int32)) := D28 (Or.inl (hw _ (List.mem_of_getElem? (i := 31) rfl))) (ty := .boolean) (by decide)
  have F_clock_cc_28 : Fld Z h28 cc "com/example/fettle/fettle/regex/Counts" "clock" "I" (.int (0 : Int32)) := D28 (Or.inl (hw _ (List.mem_of_getElem? (i := 47) rfl))) (ty := .int) (by decide)
  have F_first_cc_28 : Fld Z h28 cc "com/example/fettle/fettle/regex/Counts" "first" "I" (.int (0 : Int32)) := D28 (Or.inl (hw _ (List.mem_of_getElem? (i := 57) rfl))) (ty := .int) (by decide)
  have pre29 := fun τ (κ : Steps p.tables e below (T28.setTop (mkF m 122 #[.val (.int p0), .val (.int p1), .val (.int p2), .val (.int p3), .val (.int md), .val (.int le), .val (.int mo), .val (.int va), .val (.int vb), .val (.int vd), .unset, .unset, .unset, .unset, .unset, .unset] [(.ref cc)])) τ) => pre25 τ (st28 _ κ)
  have pre30 := fun τ (κ : Steps p.tables e below (T28.setTop (mkF m 127 #[.val (.int p0), .val (.int p1), .val (.int p2), .val (.int p3), .val (.int md), .val (.int le), .val (.int mo), .val (.int va), .val (.int vb), .val (.int vd), .unset, .unset, .unset, .unset, .unset, .unset] [(.int mo), (.int le), (.ref cc), (.ref cc)])) τ) => pre29 τ (by
    refine XS.dup X28.here hx rfl (hb hby at_122) rfl rfl ?_
    show Steps p.tables e below (T28.setTop (mkF m 123 #[.val (.int p0), .val (.int p1), .val (.int p2), .val (.int p3), .val (.int md), .val (.int le), .val (.int mo), .val (.int va), .val (.int vb), .val (.int vd), .unset, .unset, .unset, .unset, .unset, .unset] [(.ref cc), (.ref cc)])) _
    refine XS.iload X28.here hx rfl (hb hby at_123) rfl ?_
    show Steps p.tables e below (T28.setTop (mkF m 125 #[.val (.int p0), .val (.int p1), .val (.int p2), .val (.int p3), .val (.int md), .val (.int le), .val (.int mo), .val (.int va), .val (.int vb), .val (.int vd), .unset, .unset, .unset, .unset, .unset, .unset] [(.int le), (.ref cc), (.ref cc)])) _
    refine XS.iload X28.here hx rfl (hb hby at_125) rfl ?_
    show Steps p.tables e below (T28.setTop (mkF m 127 #[.val (.int p0), .val (.int p1), .val (.int p2), .val (.int p3), .val (.int md), .val (.int le), .val (.int mo), .val (.int va), .val (.int vb), .val (.int vd), .unset, .unset, .unset, .unset, .unset, .unset] [(.int mo), (.int le), (.ref cc), (.ref cc)])) _
    exact κ)
  obtain ⟨_, _, ⟨T31, L31, k31, n31⟩, -, X31, ⟨Lc31, hQ31, l31, y31, z31⟩, st31⟩ := X28.specialBack hx (y := (⟨"com/example/fettle/fettle/regex/Counts", "<init>", "(II)V"⟩ : MethodName)) rfl hown (mvT hZ (hw _ (List.mem_of_getElem? (i := 8) rfl))) (mvT hZ (hw _ (List.mem_of_getElem? (i := 9) rfl))) (mvT hZ (hw _ (List.mem_of_getElem? (i := 10) rfl))) (by decide) (backOf (W := 1) (rm2 l Z a0 hw [] cc le mo h28 n0 Z28 A28 F_oldest_cc_28 F_newest_cc_28 F_first_cc_28 F_runs_cc_28 F_clock_cc_28 F_starting_cc_28 F_least_cc_28 F_most_cc_28 g_cc) hZ (hw _ (List.mem_of_getElem? (i := 10) rfl)) (hw _ (List.mem_of_getElem? (i := 7) rfl)) (by decide) (by decide)) (g := (mkF m 127 #[.val (.int p0), .val (.int p1), .val (.int p2), .val (.int p3), .val (.int md), .val (.int le), .val (.int mo), .val (.int va), .val (.int vb), .val (.int vd), .unset, .unset, .unset, .unset, .unset, .unset] [(.int mo), (.int le), (.ref cc), (.ref cc)])) rfl (by rw [hml]; rfl) (Steps.refl _) (a := cc) (argsL := [(.int le), (.int mo)]) (rest := [(.ref cc)]) (lenOf pd_1 rfl) rfl (by show 2 * 0 + _ ≤ _; exact Nat.le_of_eq rfl) (hb hby at_127) (fun _ _ => ⟨rfl, e28, (by decide : 1 + 2 ≤ _), (by decide : 8 + 8 ≤ _)⟩)
  dsimp only [Pt.U, Pt.locs, Pt.cells, Pt.slots] at X31 l31 y31 z31 st31 hQ31
  subst l31 y31 z31
  obtain ⟨occ, xcc, kocc, kxcc, rfl, Nq31, K31, P31, so31, sx31, nox31⟩ := hQ31
  have A28_31 : Exa Z T31.heap cc "com/example/fettle/fettle/regex/Counts" := A28.keep K31
  have Z31 : n0 ≤ T31.heap.size := Nat.le_trans Z28 K31.1
  have N31 := Fr.app N3 Nq31
  have pre32 := fun τ (κ : Steps p.tables e below (T31.setTop (mkF m 130 #[.val (.int p0), .val (.int p1), .val (.int p2), .val (.int p3), .val (.int md), .val (.int le), .val (.int mo), .val (.int va), .val (.int vb), .val (.int vd), .unset, .unset, .unset, .unset, .unset, .unset] [(.ref cc)])) τ) => pre30 τ (st31.trans κ)
  have g_occ : n0 ≤ occ := Nat.le_trans Z28 so31
  have ne_cc_occ : cc ≠ occ := Nat.ne_of_lt (Nat.lt_of_lt_of_le A28.lt so31)
  have g_xcc : n0 ≤ xcc := Nat.le_trans Z28 sx31
  have ne_cc_xcc : cc ≠ xcc := Nat.ne_of_lt (Nat.lt_of_lt_of_le A28.lt sx31)
  obtain ⟨E_cc_31, F_oldest_cc_31, F_newest_cc_31, F_first_cc_31, F_runs_cc_31, F_clock_cc_31, F_starting_cc_31, F_least_cc_31, F_most_cc_31, V_o_cc_31, V_w_cc_31⟩ := P31
  have pre33 := fun τ (κ : Steps p.tables e below (T31.setTop (mkF m 132 #[.val (.int p0), .val (.int p1), .val (.int p2), .val (.int p3), .val (.int md), .val (.int le), .val (.int mo), .val (.int va), .val (.int vb), .val (.int vd), .val (.ref cc), .unset, .unset, .unset, .unset, .unset] [])) τ) => pre32 τ (by
    refine XS.astore X31.here hx rfl (hb hby at_130) rfl rfl (l' := #[.val (.int p0), .val (.int p1), .val (.int p2), .val (.int p3), .val (.int md), .val (.int le), .val (.int mo), .val (.int va), .val (.int vb), .val (.int vd), .val (.ref cc), .unset, .unset, .unset, .unset, .unset]) rfl ?_
    show Steps p.tables e below (T31.setTop (mkF m 132 #[.val (.int p0), .val (.int p1), .val (.int p2), .val (.int p3), .val (.int md), .val (.int le), .val (.int mo), .val (.int va), .val (.int vb), .val (.int vd), .val (.ref cc), .unset, .unset, .unset, .unset, .unset] [])) _
    exact κ)
  obtain ⟨T34, h34, X34, e34, E34, A34, D34, -, st34⟩ := newO X31 hx hZ hown (hw _ (List.mem_of_getElem? (i := 5) rfl)) (hw _ (List.mem_of_getElem? (i := 6) rfl)) (hw _ (List.mem_of_getElem? (i := 7) rfl)) rfl (g := (mkF m 132 #[.val (.int p0), .val (.int p1), .val (.int p2), .val (.int p3), .val (.int md), .val (.int le), .val (.int mo), .val (.int va), .val (.int vb), .val (.int vd), .val (.ref cc), .unset, .unset, .unset, .unset, .unset] [])) rfl (hb hby at_132) (by decide) (by decide)
  obtain ⟨dd, g34⟩ : ∃ z, z = T31.heap.size := ⟨_, rfl⟩
  rw [← g34] at A34 D34 st34
  have g_dd : n0 ≤ dd := Nat.le_trans Z31 (Nat.le_of_eq g34.symm)
  have ne_cc_dd : cc ≠ dd := Nat.ne_of_lt (Nat.lt_of_lt_of_le E_cc_31.lt (Nat.le_of_eq g34.symm))
  have ne_occ_dd : occ ≠ dd := Nat.ne_of_lt (Nat.lt_of_lt_of_le V_o_cc_31.lt (Nat.le_of_eq g34.symm))
  have ne_xcc_dd : xcc ≠ dd := Nat.ne_of_lt (Nat.lt_of_lt_of_le V_w_cc_31.lt (Nat.le_of_eq g34.symm))
  have E_cc_34 : Exa Z h34 cc "com/example/fettle/fettle/regex/Counts" := E_cc_31.ext E34
  have F_oldest_cc_34 : Fld Z h34 cc "com/example/fettle/fettle/regex/Counts" "oldest" "[I" (.ref occ) := F_oldest_cc_31.ext E34
  have F_newest_cc_34 : Fld Z h34 cc "com/example/fettle/fettle/regex/Counts" "newest" "[I" (.ref xcc) := F_newest_cc_31.ext E34
  have F_first_cc_34 : Fld Z h34 cc "com/example/fettle/fettle/regex/Counts" "first" "I" (.int 0) := F_first_cc_31.ext E34
  have F_runs_cc_34 : Fld Z h34 cc "com/example/fettle/fettle/regex/Counts" "runs" "I" (.int 0) := F_runs_cc_31.ext E34
  have F_clock_cc_34 : Fld Z h34 cc "com/example/fettle/fettle/regex/Counts" "clock" "I" (.int 0) := F_clock_cc_31.ext E34
  have F_starting_cc_34 : Fld Z h34 cc "com/example/fettle/fettle/regex/Counts" "starting" "Z" (.int 0) := F_starting_cc_31.ext E34
  have F_least_cc_34 : Fld Z h34 cc "com/example/fettle/fettle/regex/Counts" "least" "I" (.int le) := F_least_cc_31.ext E34
  have F_most_cc_34 : Fld Z h34 cc "com/example/fettle/fettle/regex/Counts" "most" "I" (.int mo) := F_most_cc_31.ext E34
  have V_o_cc_34 : Arv Z h34 occ kocc .int (4 : Int32) [(.int (0 : Int32)), (.int (0 : Int32)), (.int (0 : Int32)), (.int (0 : Int32))] (.int (0 : Int32)) := V_o_cc_31.ext E34
  have V_w_cc_34 : Arv Z h34 xcc kxcc .int (4 : Int32) [(.int (0 : Int32)), (.int (0 : Int32)), (.int (0 : Int32)), (.int (0 : Int32))] (.int (0 : Int32)) := V_w_cc_31.ext E34
  have Z34 : n0 ≤ h34.size := Nat.le_trans Z31 E34.1
  have F_oldest_dd_34 : Fld Z h34 dd "com/example/fettle/fettle/regex/Counts" "oldest" "[I" .null := D34 (Or.inl (hw _ (List.mem_of_getElem? (i := 16) rfl))) (ty := (.array .int)) (by decide)
  have F_newest_dd_34 : Fld Z h34 dd "com/example/fettle/fettle/regex/Counts" "newest" "[I" .null := D34 (Or.inl (hw _ (List.mem_of_getElem? (i := 18) rfl))) (ty := (.array .int)) (by decide)
  have F_least_dd_34 : Fld Z h34 dd "com/example/fettle/fettle/regex/Counts" "least" "I" (.int (0 : Int32)) := D34 (Or.inr (hw _ (List.mem_of_getElem? (i := 20) rfl))) (ty := .int) (by decide)
  have F_most_dd_34 : Fld Z h34 dd "com/example/fettle/fettle/regex/Counts" "most" "I" (.int (0 : Int32)) := D34 (Or.inr (hw _ (List.mem_of_getElem? (i := 22) rfl))) (ty := .int) (by decide)
  have F_runs_dd_34 : Fld Z h34 dd "com/example/fettle/fettle/regex/Counts" "runs" "I" (.int (0 : Int32)) := D34 (Or.inl (hw _ (List.mem_of_getElem? (i := 29) rfl))) (ty := .int) (by decide)
  have F_starting_dd_34 : Fld Z h34 dd "com/example/fettle/fettle/regex/Counts" "starting" "Z" (.int (0 : Int32)) := D34 (Or.inl (hw _ (List.mem_of_getElem? (i := 31) rfl))) (ty := .boolean) (by decide)
  have F_clock_dd_34 : Fld Z h34 dd "com/example/fettle/fettle/regex/Counts" "clock" "I" (.int (0 : Int32)) := D34 (Or.inl (hw _ (List.mem_of_getElem? (i := 47) rfl))) (ty := .int) (by decide)
  have F_first_dd_34 : Fld Z h34 dd "com/example/fettle/fettle/regex/Counts" "first" "I" (.int (0 : Int32)) := D34 (Or.inl (hw _ (List.mem_of_getElem? (i := 57) rfl))) (ty := .int) (by decide)
  have pre35 := fun τ (κ : Steps p.tables e below (T34.setTop (mkF m 135 #[.val (.int p0), .val (.int p1), .val (.int p2), .val (.int p3), .val (.int md), .val (.int le), .val (.int mo), .val (.int va), .val (.int vb), .val (.int vd), .val (.ref cc), .unset, .unset, .unset, .unset, .unset] [(.ref dd)])) τ) => pre33 τ (st34 _ κ)
  have pre36 := fun τ (κ : Steps p.tables e below (T34.setTop (mkF m 140 #[.val (.int p0), .val (.int p1), .val (.int p2), .val (.int p3), .val (.int md), .val (.int le), .val (.int mo), .val (.int va), .val (.int vb), .val (.int vd), .val (.ref cc), .unset, .unset, .unset, .unset, .unset] [(.int mo), (.int le), (.ref dd), (.ref dd)])) τ) => pre35 τ (by
    refine XS.dup X34.here hx rfl (hb hby at_135) rfl rfl ?_
    show Steps p.tables e below (T34.setTop (mkF m 136 #[.val (.int p0), .val (.int p1), .val (.int p2), .val (.int p3), .val (.int md), .val (.int le), .val (.int mo), .val (.int va), .val (.int vb), .val (.int vd), .val (.ref cc), .unset, .unset, .unset, .unset, .unset] [(.ref dd), (.ref dd)])) _
    refine XS.iload X34.here hx rfl (hb hby at_136) rfl ?_
    show Steps p.tables e below (T34.setTop (mkF m 138 #[.val (.int p0), .val (.int p1), .val (.int p2), .val (.int p3), .val (.int md), .val (.int le), .val (.int mo), .val (.int va), .val (.int vb), .val (.int vd), .val (.ref cc), .unset, .unset, .unset, .unset, .unset] [(.int le), (.ref dd), (.ref dd)])) _
    refine XS.iload X34.here hx rfl (hb hby at_138) rfl ?_
    show Steps p.tables e below (T34.setTop (mkF m 140 #[.val (.int p0), .val (.int p1), .val (.int p2), .val (.int p3), .val (.int md), .val (.int le), .val (.int mo), .val (.int va), .val (.int vb), .val (.int vd), .val (.ref cc), .unset, .unset, .unset, .unset, .unset] [(.int mo), (.int le), (.ref dd), (.ref dd)])) _
    exact κ)
  obtain ⟨_, _, ⟨T37, L37, k37, n37⟩, -, X37, ⟨Lc37, hQ37, l37, y37, z37⟩, st37⟩ := X34.specialBack hx (y := (⟨"com/example/fettle/fettle/regex/Counts", "<init>", "(II)V"⟩ : MethodName)) rfl hown (mvT hZ (hw _ (List.mem_of_getElem? (i := 8) rfl))) (mvT hZ (hw _ (List.mem_of_getElem? (i := 9) rfl))) (mvT hZ (hw _ (List.mem_of_getElem? (i := 10) rfl))) (by decide) (backOf (W := 1) (rm2 l Z a0 hw [] dd le mo h34 n0 Z34 A34 F_oldest_dd_34 F_newest_dd_34 F_first_dd_34 F_runs_dd_34 F_clock_dd_34 F_starting_dd_34 F_least_dd_34 F_most_dd_34 g_dd) hZ (hw _ (List.mem_of_getElem? (i := 10) rfl)) (hw _ (List.mem_of_getElem? (i := 7) rfl)) (by decide) (by decide)) (g := (mkF m 140 #[.val (.int p0), .val (.int p1), .val (.int p2), .val (.int p3), .val (.int md), .val (.int le), .val (.int mo), .val (.int va), .val (.int vb), .val (.int vd), .val (.ref cc), .unset, .unset, .unset, .unset, .unset] [(.int mo), (.int le), (.ref dd), (.ref dd)])) rfl (by rw [hml]; rfl) (Steps.refl _) (a := dd) (argsL := [(.int le), (.int mo)]) (rest := [(.ref dd)]) (lenOf pd_1 rfl) rfl (by show 2 * 0 + _ ≤ _; exact Nat.le_of_eq rfl) (hb hby at_140) (fun _ _ => ⟨rfl, e34, (by decide : 4 + 2 ≤ _), (by decide : 24 + 8 ≤ _)⟩)
  dsimp only [Pt.U, Pt.locs, Pt.cells, Pt.slots] at X37 l37 y37 z37 st37 hQ37
  subst l37 y37 z37
  obtain ⟨odd, xdd, kodd, kxdd, rfl, Nq37, K37, P37, so37, sx37, nox37⟩ := hQ37
  have E_cc_37 : Exa Z T37.heap cc "com/example/fettle/fettle/regex/Counts" := E_cc_34.keep K37
  have F_oldest_cc_37 : Fld Z T37.heap cc "com/example/fettle/fettle/regex/Counts" "oldest" "[I" (.ref occ) := F_oldest_cc_34.keep K37 (ninS ne_cc_dd nin0)
  have F_newest_cc_37 : Fld Z T37.heap cc "com/example/fettle/fettle/regex/Counts" "newest" "[I" (.ref xcc) := F_newest_cc_34.keep K37 (ninS ne_cc_dd nin0)
  have F_first_cc_37 : Fld Z T37.heap cc "com/example/fettle/fettle/regex/Counts" "first" "I" (.int 0) := F_first_cc_34.keep K37 (ninS ne_cc_dd nin0)
  have F_runs_cc_37 : Fld Z T37.heap cc "com/example/fettle/fettle/regex/Counts" "runs" "I" (.int 0) := F_runs_cc_34.keep K37 (ninS ne_cc_dd nin0)
  have F_clock_cc_37 : Fld Z T37.heap cc "com/example/fettle/fettle/regex/Counts" "clock" "I" (.int 0) := F_clock_cc_34.keep K37 (ninS ne_cc_dd nin0)
  have F_starting_cc_37 : Fld Z T37.heap cc "com/example/fettle/fettle/regex/Counts" "starting" "Z" (.int 0) := F_starting_cc_34.keep K37 (ninS ne_cc_dd nin0)
  have F_least_cc_37 : Fld Z T37.heap cc "com/example/fettle/fettle/regex/Counts" "least" "I" (.int le) := F_least_cc_34.keep K37 (ninS ne_cc_dd nin0)
  have F_most_cc_37 : Fld Z T37.heap cc "com/example/fettle/fettle/regex/Counts" "most" "I" (.int mo) := F_most_cc_34.keep K37 (ninS ne_cc_dd nin0)
  have V_o_cc_37 : Arv Z T37.heap occ kocc .int (4 : Int32) [(.int (0 : Int32)), (.int (0 : Int32)), (.int (0 : Int32)), (.int (0 : Int32))] (.int (0 : Int32)) := V_o_cc_34.keep K37 (ninS ne_occ_dd nin0)
  have V_w_cc_37 : Arv Z T37.heap xcc kxcc .int (4 : Int32) [(.int (0 : Int32)), (.int (0 : Int32)), (.int (0 : Int32)), (.int (0 : Int32))] (.int (0 : Int32)) := V_w_cc_34.keep K37 (ninS ne_xcc_dd nin0)
  have A34_37 : Exa Z T37.heap dd "com/example/fettle/fettle/regex/Counts" := A34.keep K37
  have Z37 : n0 ≤ T37.heap.size := Nat.le_trans Z34 K37.1
  have N37 := Fr.app N31 Nq37
  have pre38 := fun τ (κ : Steps p.tables e below (T37.setTop (mkF m 143 #[.val (.int p0), .val (.int p1), .val (.int p2), .val (.int p3), .val (.int md), .val (.int le), .val (.int mo), .val (.int va), .val (.int vb), .val (.int vd), .val (.ref cc), .unset, .unset, .unset, .unset, .unset] [(.ref dd)])) τ) => pre36 τ (st37.trans κ)
  have g_odd : n0 ≤ odd := Nat.le_trans Z34 so37
  have ne_cc_odd : cc ≠ odd := Nat.ne_of_lt (Nat.lt_of_lt_of_le E_cc_34.lt so37)
  have ne_occ_odd : occ ≠ odd := Nat.ne_of_lt (Nat.lt_of_lt_of_le V_o_cc_34.lt so37)
  have ne_xcc_odd : xcc ≠ odd := Nat.ne_of_lt (Nat.lt_of_lt_of_le V_w_cc_34.lt so37)
  have ne_dd_odd : dd ≠ odd := Nat.ne_of_lt (Nat.lt_of_lt_of_le A34.lt so37)
  have g_xdd : n0 ≤ xdd := Nat.le_trans Z34 sx37
  have ne_cc_xdd : cc ≠ xdd := Nat.ne_of_lt (Nat.lt_of_lt_of_le E_cc_34.lt sx37)
  have ne_occ_xdd : occ ≠ xdd := Nat.ne_of_lt (Nat.lt_of_lt_of_le V_o_cc_34.lt sx37)
  have ne_xcc_xdd : xcc ≠ xdd := Nat.ne_of_lt (Nat.lt_of_lt_of_le V_w_cc_34.lt sx37)
  have ne_dd_xdd : dd ≠ xdd := Nat.ne_of_lt (Nat.lt_of_lt_of_le A34.lt sx37)
  obtain ⟨E_dd_37, F_oldest_dd_37, F_newest_dd_37, F_first_dd_37, F_runs_dd_37, F_clock_dd_37, F_starting_dd_37, F_least_dd_37, F_most_dd_37, V_o_dd_37, V_w_dd_37⟩ := P37
  have pre39 := fun τ (κ : Steps p.tables e below (T37.setTop (mkF m 145 #[.val (.int p0), .val (.int p1), .val (.int p2), .val (.int p3), .val (.int md), .val (.int le), .val (.int mo), .val (.int va), .val (.int vb), .val (.int vd), .val (.ref cc), .val (.ref dd), .unset, .unset, .unset, .unset] [])) τ) => pre38 τ (by
    refine XS.astore X37.here hx rfl (hb hby at_143) rfl rfl (l' := #[.val (.int p0), .val (.int p1), .val (.int p2), .val (.int p3), .val (.int md), .val (.int le), .val (.int mo), .val (.int va), .val (.int vb), .val (.int vd), .val (.ref cc), .val (.ref dd), .unset, .unset, .unset, .unset]) rfl ?_
    show Steps p.tables e below (T37.setTop (mkF m 145 #[.val (.int p0), .val (.int p1), .val (.int p2), .val (.int p3), .val (.int md), .val (.int le), .val (.int mo), .val (.int va), .val (.int vb), .val (.int vd), .val (.ref cc), .val (.ref dd), .unset, .unset, .unset, .unset] [])) _
    exact κ)
  obtain ⟨T40, h40, X40, e40, E40, A40, D40, -, st40⟩ := newO X37 hx hZ hown (hw _ (List.mem_of_getElem? (i := 5) rfl)) (hw _ (List.mem_of_getElem? (i := 6) rfl)) (hw _ (List.mem_of_getElem? (i := 7) rfl)) rfl (g := (mkF m 145 #[.val (.int p0), .val (.int p1), .val (.int p2), .val (.int p3), .val (.int md), .val (.int le), .val (.int mo), .val (.int va), .val (.int vb), .val (.int vd), .val (.ref cc), .val (.ref dd), .unset, .unset, .unset, .unset] [])) rfl (hb hby at_145) (by decide) (by decide)
  obtain ⟨ee, g40⟩ : ∃ z, z = T37.heap.size := ⟨_, rfl⟩
  rw [← g40] at A40 D40 st40
  have g_ee : n0 ≤ ee := Nat.le_trans Z37 (Nat.le_of_eq g40.symm)
  have ne_cc_ee : cc ≠ ee := Nat.ne_of_lt (Nat.lt_of_lt_of_le E_cc_37.lt (Nat.le_of_eq g40.symm))
  have ne_occ_ee : occ ≠ ee := Nat.ne_of_lt (Nat.lt_of_lt_of_le V_o_cc_37.lt (Nat.le_of_eq g40.symm))
  have ne_xcc_ee : xcc ≠ ee := Nat.ne_of_lt (Nat.lt_of_lt_of_le V_w_cc_37.lt (Nat.le_of_eq g40.symm))
  have ne_dd_ee : dd ≠ ee := Nat.ne_of_lt (Nat.lt_of_lt_of_le E_dd_37.lt (Nat.le_of_eq g40.symm))
  have ne_odd_ee : odd ≠ ee := Nat.ne_of_lt (Nat.lt_of_lt_of_le V_o_dd_37.lt (Nat.le_of_eq g40.symm))
  have ne_xdd_ee : xdd ≠ ee := Nat.ne_of_lt (Nat.lt_of_lt_of_le V_w_dd_37.lt (Nat.le_of_eq g40.symm))
  have E_cc_40 : Exa Z h40 cc "com/example/fettle/fettle/regex/Counts" := E_cc_37.ext E40
  have F_oldest_cc_40 : Fld Z h40 cc "com/example/fettle/fettle/regex/Counts" "oldest" "[I" (.ref occ) := F_oldest_cc_37.ext E40
  have F_newest_cc_40 : Fld Z h40 cc "com/example/fettle/fettle/regex/Counts" "newest" "[I" (.ref xcc) := F_newest_cc_37.ext E40
  have F_first_cc_40 : Fld Z h40 cc "com/example/fettle/fettle/regex/Counts" "first" "I" (.int 0) := F_first_cc_37.ext E40
  have F_runs_cc_40 : Fld Z h40 cc "com/example/fettle/fettle/regex/Counts" "runs" "I" (.int 0) := F_runs_cc_37.ext E40
  have F_clock_cc_40 : Fld Z h40 cc "com/example/fettle/fettle/regex/Counts" "clock" "I" (.int 0) := F_clock_cc_37.ext E40
  have F_starting_cc_40 : Fld Z h40 cc "com/example/fettle/fettle/regex/Counts" "starting" "Z" (.int 0) := F_starting_cc_37.ext E40
  have F_least_cc_40 : Fld Z h40 cc "com/example/fettle/fettle/regex/Counts" "least" "I" (.int le) := F_least_cc_37.ext E40
  have F_most_cc_40 : Fld Z h40 cc "com/example/fettle/fettle/regex/Counts" "most" "I" (.int mo) := F_most_cc_37.ext E40
  have V_o_cc_40 : Arv Z h40 occ kocc .int (4 : Int32) [(.int (0 : Int32)), (.int (0 : Int32)), (.int (0 : Int32)), (.int (0 : Int32))] (.int (0 : Int32)) := V_o_cc_37.ext E40
  have V_w_cc_40 : Arv Z h40 xcc kxcc .int (4 : Int32) [(.int (0 : Int32)), (.int (0 : Int32)), (.int (0 : Int32)), (.int (0 : Int32))] (.int (0 : Int32)) := V_w_cc_37.ext E40
  have E_dd_40 : Exa Z h40 dd "com/example/fettle/fettle/regex/Counts" := E_dd_37.ext E40
  have F_oldest_dd_40 : Fld Z h40 dd "com/example/fettle/fettle/regex/Counts" "oldest" "[I" (.ref odd) := F_oldest_dd_37.ext E40
  have F_newest_dd_40 : Fld Z h40 dd "com/example/fettle/fettle/regex/Counts" "newest" "[I" (.ref xdd) := F_newest_dd_37.ext E40
  have F_first_dd_40 : Fld Z h40 dd "com/example/fettle/fettle/regex/Counts" "first" "I" (.int 0) := F_first_dd_37.ext E40
  have F_runs_dd_40 : Fld Z h40 dd "com/example/fettle/fettle/regex/Counts" "runs" "I" (.int 0) := F_runs_dd_37.ext E40
  have F_clock_dd_40 : Fld Z h40 dd "com/example/fettle/fettle/regex/Counts" "clock" "I" (.int 0) := F_clock_dd_37.ext E40
  have F_starting_dd_40 : Fld Z h40 dd "com/example/fettle/fettle/regex/Counts" "starting" "Z" (.int 0) := F_starting_dd_37.ext E40
  have F_least_dd_40 : Fld Z h40 dd "com/example/fettle/fettle/regex/Counts" "least" "I" (.int le) := F_least_dd_37.ext E40
  have F_most_dd_40 : Fld Z h40 dd "com/example/fettle/fettle/regex/Counts" "most" "I" (.int mo) := F_most_dd_37.ext E40
  have V_o_dd_40 : Arv Z h40 odd kodd .int (4 : Int32) [(.int (0 : Int32)), (.int (0 : Int32)), (.int (0 : Int32)), (.int (0 : Int32))] (.int (0 : Int32)) := V_o_dd_37.ext E40
  have V_w_dd_40 : Arv Z h40 xdd kxdd .int (4 : Int32) [(.int (0 : Int32)), (.int (0 : Int32)), (.int (0 : Int32)), (.int (0 : Int32))] (.int (0 : Int32)) := V_w_dd_37.ext E40
  have Z40 : n0 ≤ h40.size := Nat.le_trans Z37 E40.1
  have F_oldest_ee_40 : Fld Z h40 ee "com/example/fettle/fettle/regex/Counts" "oldest" "[I" .null := D40 (Or.inl (hw _ (List.mem_of_getElem? (i := 16) rfl))) (ty := (.array .int)) (by decide)
  have F_newest_ee_40 : Fld Z h40 ee "com/example/fettle/fettle/regex/Counts" "newest" "[I" .null := D40 (Or.inl (hw _ (List.mem_of_getElem? (i := 18) rfl))) (ty := (.array .int)) (by decide)
  have F_least_ee_40 : Fld Z h40 ee "com/example/fettle/fettle/regex/Counts" "least" "I" (.int (0 : Int32)) := D40 (Or.inr (hw _ (List.mem_of_getElem? (i := 20) rfl))) (ty := .int) (by decide)
  have F_most_ee_40 : Fld Z h40 ee "com/example/fettle/fettle/regex/Counts" "most" "I" (.int (0 : Int32)) := D40 (Or.inr (hw _ (List.mem_of_getElem? (i := 22) rfl))) (ty := .int) (by decide)
  have F_runs_ee_40 : Fld Z h40 ee "com/example/fettle/fettle/regex/Counts" "runs" "I" (.int (0 : Int32)) := D40 (Or.inl (hw _ (List.mem_of_getElem? (i := 29) rfl))) (ty := .int) (by decide)
  have F_starting_ee_40 : Fld Z h40 ee "com/example/fettle/fettle/regex/Counts" "starting" "Z" (.int (0 : Int32)) := D40 (Or.inl (hw _ (List.mem_of_getElem? (i := 31) rfl))) (ty := .boolean) (by decide)
  have F_clock_ee_40 : Fld Z h40 ee "com/example/fettle/fettle/regex/Counts" "clock" "I" (.int (0 : Int32)) := D40 (Or.inl (hw _ (List.mem_of_getElem? (i := 47) rfl))) (ty := .int) (by decide)
  have F_first_ee_40 : Fld Z h40 ee "com/example/fettle/fettle/regex/Counts" "first" "I" (.int (0 : Int32)) := D40 (Or.inl (hw _ (List.mem_of_getElem? (i := 57) rfl))) (ty := .int) (by decide)
  have pre41 := fun τ (κ : Steps p.tables e below (T40.setTop (mkF m 148 #[.val (.int p0), .val (.int p1), .val (.int p2), .val (.int p3), .val (.int md), .val (.int le), .val (.int mo), .val (.int va), .val (.int vb), .val (.int vd), .val (.ref cc), .val (.ref dd), .unset, .unset, .unset, .unset] [(.ref ee)])) τ) => pre39 τ (st40 _ κ)
  have pre42 := fun τ (κ : Steps p.tables e below (T40.setTop (mkF m 153 #[.val (.int p0), .val (.int p1), .val (.int p2), .val (.int p3), .val (.int md), .val (.int le), .val (.int mo), .val (.int va), .val (.int vb), .val (.int vd), .val (.ref cc), .val (.ref dd), .unset, .unset, .unset, .unset] [(.int mo), (.int le), (.ref ee), (.ref ee)])) τ) => pre41 τ (by
    refine XS.dup X40.here hx rfl (hb hby at_148) rfl rfl ?_
    show Steps p.tables e below (T40.setTop (mkF m 149 #[.val (.int p0), .val (.int p1), .val (.int p2), .val (.int p3), .val (.int md), .val (.int le), .val (.int mo), .val (.int va), .val (.int vb), .val (.int vd), .val (.ref cc), .val (.ref dd), .unset, .unset, .unset, .unset] [(.ref ee), (.ref ee)])) _
    refine XS.iload X40.here hx rfl (hb hby at_149) rfl ?_
    show Steps p.tables e below (T40.setTop (mkF m 151 #[.val (.int p0), .val (.int p1), .val (.int p2), .val (.int p3), .val (.int md), .val (.int le), .val (.int mo), .val (.int va), .val (.int vb), .val (.int vd), .val (.ref cc), .val (.ref dd), .unset, .unset, .unset, .unset] [(.int le), (.ref ee), (.ref ee)])) _
    refine XS.iload X40.here hx rfl (hb hby at_151) rfl ?_
    show Steps p.tables e below (T40.setTop (mkF m 153 #[.val (.int p0), .val (.int p1), .val (.int p2), .val (.int p3), .val (.int md), .val (.int le), .val (.int mo), .val (.int va), .val (.int vb), .val (.int vd), .val (.ref cc), .val (.ref dd), .unset, .unset, .unset, .unset] [(.int mo), (.int le), (.ref ee), (.ref ee)])) _
    exact κ)
  obtain ⟨_, _, ⟨T43, L43, k43, n43⟩, -, X43, ⟨Lc43, hQ43, l43, y43, z43⟩, st43⟩ := X40.specialBack hx (y := (⟨"com/example/fettle/fettle/regex/Counts", "<init>", "(II)V"⟩ : MethodName)) rfl hown (mvT hZ (hw _ (List.mem_of_getElem? (i := 8) rfl))) (mvT hZ (hw _ (List.mem_of_getElem? (i := 9) rfl))) (mvT hZ (hw _ (List.mem_of_getElem? (i := 10) rfl))) (by decide) (backOf (W := 1) (rm2 l Z a0 hw [] ee le mo h40 n0 Z40 A40 F_oldest_ee_40 F_newest_ee_40 F_first_ee_40 F_runs_ee_40 F_clock_ee_40 F_starting_ee_40 F_least_ee_40 F_most_ee_40 g_ee) hZ (hw _ (List.mem_of_getElem? (i := 10) rfl)) (hw _ (List.mem_of_getElem? (i := 7) rfl)) (by decide) (by decide)) (g := (mkF m 153 #[.val (.int p0), .val (.int p1), .val (.int p2), .val (.int p3), .val (.int md), .val (.int le), .val (.int mo), .val (.int va), .val (.int vb), .val (.int vd), .val (.ref cc), .val (.ref dd), .unset, .unset, .unset, .unset] [(.int mo), (.int le), (.ref ee), (.ref ee)])) rfl (by rw [hml]; rfl) (Steps.refl _) (a := ee) (argsL := [(.int le), (.int mo)]) (rest := [(.ref ee)]) (lenOf pd_1 rfl) rfl (by show 2 * 0 + _ ≤ _; exact Nat.le_of_eq rfl) (hb hby at_153) (fun _ _ => ⟨rfl, e40, (by decide : 7 + 2 ≤ _), (by decide : 40 + 8 ≤ _)⟩)
  dsimp only [Pt.U, Pt.locs, Pt.cells, Pt.slots] at X43 l43 y43 z43 st43 hQ43
  subst l43 y43 z43
  obtain ⟨oee, xee, koee, kxee, rfl, Nq43, K43, P43, so43, sx43, nox43⟩ := hQ43
  have E_cc_43 : Exa Z T43.heap cc "com/example/fettle/fettle/regex/Counts" := E_cc_40.keep K43
  have F_oldest_cc_43 : Fld Z T43.heap cc "com/example/fettle/fettle/regex/Counts" "oldest" "[I" (.ref occ) := F_oldest_cc_40.keep K43 (ninS ne_cc_ee nin0)
  have F_newest_cc_43 : Fld Z T43.heap cc "com/example/fettle/fettle/regex/Counts" "newest" "[I" (.ref xcc) := F_newest_cc_40.keep K43 (ninS ne_cc_ee nin0)
  have F_first_cc_43 : Fld Z T43.heap cc "com/example/fettle/fettle/regex/Counts" "first" "I" (.int 0) := F_first_cc_40.keep K43 (ninS ne_cc_ee nin0)
  have F_runs_cc_43 : Fld Z T43.heap cc "com/example/fettle/fettle/regex/Counts" "runs" "I" (.int 0) := F_runs_cc_40.keep K43 (ninS ne_cc_ee nin0)
  have F_clock_cc_43 : Fld Z T43.heap cc "com/example/fettle/fettle/regex/Counts" "clock" "I" (.int 0) := F_clock_cc_40.keep K43 (ninS ne_cc_ee nin0)
  have F_starting_cc_43 : Fld Z T43.heap cc "com/example/fettle/fettle/regex/Counts" "starting" "Z" (.int 0) := F_starting_cc_40.keep K43 (ninS ne_cc_ee nin0)
  have F_least_cc_43 : Fld Z T43.heap cc "com/example/fettle/fettle/regex/Counts" "least" "I" (.int le) := F_least_cc_40.keep K43 (ninS ne_cc_ee nin0)
  have F_most_cc_43 : Fld Z T43.heap cc "com/example/fettle/fettle/regex/Counts" "most" "I" (.int mo) := F_most_cc_40.keep K43 (ninS ne_cc_ee nin0)
  have V_o_cc_43 : Arv Z T43.heap occ kocc .int (4 : Int32) [(.int (0 : Int32)), (.int (0 : Int32)), (.int (0 : Int32)), (.int (0 : Int32))] (.int (0 : Int32)) := V_o_cc_40.keep K43 (ninS ne_occ_ee nin0)
  have V_w_cc_43 : Arv Z T43.heap xcc kxcc .int (4 : Int32) [(.int (0 : Int32)), (.int (0 : Int32)), (.int (0 : Int32)), (.int (0 : Int32))] (.int (0 : Int32)) := V_w_cc_40.keep K43 (ninS ne_xcc_ee nin0)
  have E_dd_43 : Exa Z T43.heap dd "com/example/fettle/fettle/regex/Counts" := E_dd_40.keep K43
  have F_oldest_dd_43 : Fld Z T43.heap dd "com/example/fettle/fettle/regex/Counts" "oldest" "[I" (.ref odd) := F_oldest_dd_40.keep K43 (ninS ne_dd_ee nin0)
  have F_newest_dd_43 : Fld Z T43.heap dd "com/example/fettle/fettle/regex/Counts" "newest" "[I" (.ref xdd) := F_newest_dd_40.keep K43 (ninS ne_dd_ee nin0)
  have F_first_dd_43 : Fld Z T43.heap dd "com/example/fettle/fettle/regex/Counts" "first" "I" (.int 0) := F_first_dd_40.keep K43 (ninS ne_dd_ee nin0)
  have F_runs_dd_43 : Fld Z T43.heap dd "com/example/fettle/fettle/regex/Counts" "runs" "I" (.int 0) := F_runs_dd_40.keep K43 (ninS ne_dd_ee nin0)
  have F_clock_dd_43 : Fld Z T43.heap dd "com/example/fettle/fettle/regex/Counts" "clock" "I" (.int 0) := F_clock_dd_40.keep K43 (ninS ne_dd_ee nin0)
  have F_starting_dd_43 : Fld Z T43.heap dd "com/example/fettle/fettle/regex/Counts" "starting" "Z" (.int 0) := F_starting_dd_40.keep K43 (ninS ne_dd_ee nin0)
  have F_least_dd_43 : Fld Z T43.heap dd "com/example/fettle/fettle/regex/Counts" "least" "I" (.int le) := F_least_dd_40.keep K43 (ninS ne_dd_ee nin0)
  have F_most_dd_43 : Fld Z T43.heap dd "com/example/fettle/fettle/regex/Counts" "most" "I" (.int mo) := F_most_dd_40.keep K43 (ninS ne_dd_ee nin0)
  have V_o_dd_43 : Arv Z T43.heap odd kodd .int (4 : Int32) [(.int (0 : Int32)), (.int (0 : Int32)), (.int (0 : Int32)), (.int (0 : Int32))] (.int (0 : Int32)) := V_o_dd_40.keep K43 (ninS ne_odd_ee nin0)
  have V_w_dd_43 : Arv Z T43.heap xdd kxdd .int (4 : Int32) [(.int (0 : Int32)), (.int (0 : Int32)), (.int (0 : Int32)), (.int (0 : Int32))] (.int (0 : Int32)) := V_w_dd_40.keep K43 (ninS ne_xdd_ee nin0)
  have A40_43 : Exa Z T43.heap ee "com/example/fettle/fettle/regex/Counts" := A40.keep K43
  have Z43 : n0 ≤ T43.heap.size := Nat.le_trans Z40 K43.1
  have N43 := Fr.app N37 Nq43
  have pre44 := fun τ (κ : Steps p.tables e below (T43.setTop (mkF m 156 #[.val (.int p0), .val (.int p1), .val (.int p2), .val (.int p3), .val (.int md), .val (.int le), .val (.int mo), .val (.int va), .val (.int vb), .val (.int vd), .val (.ref cc), .val (.ref dd), .unset, .unset, .unset, .unset] [(.ref ee)])) τ) => pre42 τ (st43.trans κ)
  have g_oee : n0 ≤ oee := Nat.le_trans Z40 so43
  have ne_cc_oee : cc ≠ oee := Nat.ne_of_lt (Nat.lt_of_lt_of_le E_cc_40.lt so43)
  have ne_occ_oee : occ ≠ oee := Nat.ne_of_lt (Nat.lt_of_lt_of_le V_o_cc_40.lt so43)
  have ne_xcc_oee : xcc ≠ oee := Nat.ne_of_lt (Nat.lt_of_lt_of_le V_w_cc_40.lt so43)
  have ne_dd_oee : dd ≠ oee := Nat.ne_of_lt (Nat.lt_of_lt_of_le E_dd_40.lt so43)
  have ne_odd_oee : odd ≠ oee := Nat.ne_of_lt (Nat.lt_of_lt_of_le V_o_dd_40.lt so43)
  have ne_xdd_oee : xdd ≠ oee := Nat.ne_of_lt (Nat.lt_of_lt_of_le V_w_dd_40.lt so43)
  have ne_ee_oee : ee ≠ oee := Nat.ne_of_lt (Nat.lt_of_lt_of_le A40.lt so43)
  have g_xee : n0 ≤ xee := Nat.le_trans Z40 sx43
  have ne_cc_xee : cc ≠ xee := Nat.ne_of_lt (Nat.lt_of_lt_of_le E_cc_40.lt sx43)
  have ne_occ_xee : occ ≠ xee := Nat.ne_of_lt (Nat.lt_of_lt_of_le V_o_cc_40.lt sx43)
  have ne_xcc_xee : xcc ≠ xee := Nat.ne_of_lt (Nat.lt_of_lt_of_le V_w_cc_40.lt sx43)
  have ne_dd_xee : dd ≠ xee := Nat.ne_of_lt (Nat.lt_of_lt_of_le E_dd_40.lt sx43)
  have ne_odd_xee : odd ≠ xee := Nat.ne_of_lt (Nat.lt_of_lt_of_le V_o_dd_40.lt sx43)
  have ne_xdd_xee : xdd ≠ xee := Nat.ne_of_lt (Nat.lt_of_lt_of_le V_w_dd_40.lt sx43)
  have ne_ee_xee : ee ≠ xee := Nat.ne_of_lt (Nat.lt_of_lt_of_le A40.lt sx43)
  obtain ⟨E_ee_43, F_oldest_ee_43, F_newest_ee_43, F_first_ee_43, F_runs_ee_43, F_clock_ee_43, F_starting_ee_43, F_least_ee_43, F_most_ee_43, V_o_ee_43, V_w_ee_43⟩ := P43
  have pre45 := fun τ (κ : Steps p.tables e below (T43.setTop (mkF m 160 #[.val (.int p0), .val (.int p1), .val (.int p2), .val (.int p3), .val (.int md), .val (.int le), .val (.int mo), .val (.int va), .val (.int vb), .val (.int vd), .val (.ref cc), .val (.ref dd), .val (.ref ee), .unset, .unset, .unset] [(.ref cc)])) τ) => pre44 τ (by
    refine XS.astore X43.here hx rfl (hb hby at_156) rfl rfl (l' := #[.val (.int p0), .val (.int p1), .val (.int p2), .val (.int p3), .val (.int md), .val (.int le), .val (.int mo), .val (.int va), .val (.int vb), .val (.int vd), .val (.ref cc), .val (.ref dd), .val (.ref ee), .unset, .unset, .unset]) rfl ?_
    show Steps p.tables e below (T43.setTop (mkF m 158 #[.val (.int p0), .val (.int p1), .val (.int p2), .val (.int p3), .val (.int md), .val (.int le), .val (.int mo), .val (.int va), .val (.int vb), .val (.int vd), .val (.ref cc), .val (.ref dd), .val (.ref ee), .unset, .unset, .unset] [])) _
    refine XS.aload X43.here hx rfl (hb hby at_158) rfl rfl ?_
    show Steps p.tables e below (T43.setTop (mkF m 160 #[.val (.int p0), .val (.int p1), .val (.int p2), .val (.int p3), .val (.int md), .val (.int le), .val (.int mo), .val (.int va), .val (.int vb), .val (.int vd), .val (.ref cc), .val (.ref dd), .val (.ref ee), .unset, .unset, .unset] [(.ref cc)])) _
    exact κ)
  obtain ⟨cq46, kq46, q46a, q46b, q46c⟩ := isOf hZ rfl E_cc_43
  obtain ⟨_, _, ⟨T46, L46, k46, n46⟩, -, X46, ⟨Lc46, hQ46, l46, y46, z46⟩, st46⟩ := X43.virtualBack hx (y := (⟨"com/example/fettle/fettle/regex/Counts", "isEmpty", "()Z"⟩ : MethodName)) (z := (⟨"com/example/fettle/fettle/regex/Counts", "isEmpty", "()Z"⟩ : MethodName)) hown (mvT hZ (hw _ (List.mem_of_getElem? (i := 23) rfl))) (mvT hZ (hw _ (List.mem_of_getElem? (i := 24) rfl))) (notFace_of_selects (args := #[]) (mvT hZ (hw _ (List.mem_of_getElem? (i := 26) rfl)))) (mvT hZ (hw _ (List.mem_of_getElem? (i := 26) rfl))) (mvT hZ (hw _ (List.mem_of_getElem? (i := 25) rfl))) (by decide) (backOf (W := 0) (rm4 l Z a0 hw [] cc 0 0 T43.heap n0 Z43 F_runs_cc_43 F_starting_cc_43) hZ (hw _ (List.mem_of_getElem? (i := 27) rfl)) (hw _ (List.mem_of_getElem? (i := 7) rfl)) (by decide) (by decide)) q46a q46c (g := (mkF m 160 #[.val (.int p0), .val (.int p1), .val (.int p2), .val (.int p3), .val (.int md), .val (.int le), .val (.int mo), .val (.int va), .val (.int vb), .val (.int vd), .val (.ref cc), .val (.ref dd), .val (.ref ee), .unset, .unset, .unset] [(.ref cc)])) rfl (by rw [hml]; rfl) (Steps.refl _) (argsL := []) (rest := []) (lenOf pd_6 rfl) rfl (by show 2 * 0 + _ ≤ _; exact Nat.le_of_eq rfl) (hb hby at_160) (fun _ _ => ⟨rfl, rfl, (by decide : 9 + 0 ≤ _), (by decide : 48 + 0 ≤ _)⟩)
  dsimp only [Pt.U, Pt.locs, Pt.cells, Pt.slots] at X46 l46 y46 z46 st46 hQ46
  subst l46 y46 z46
  obtain ⟨rfl, Nq46, hh46⟩ := hQ46
  have E_cc_46 : Exa Z T46.heap cc "com/example/fettle/fettle/regex/Counts" := by rw [hh46]; exact E_cc_43
  have F_oldest_cc_46 : Fld Z T46.heap cc "com/example/fettle/fettle/regex/Counts" "oldest" "[I" (.ref occ) := by rw [hh46]; exact F_oldest_cc_43
  have F_newest_cc_46 : Fld Z T46.heap cc "com/example/fettle/fettle/regex/Counts" "newest" "[I" (.ref xcc) := by rw [hh46]; exact F_newest_cc_43
  have F_first_cc_46 : Fld Z T46.heap cc "com/example/fettle/fettle/regex/Counts" "first" "I" (.int 0) := by rw [hh46]; exact F_first_cc_43
  have F_runs_cc_46 : Fld Z T46.heap cc "com/example/fettle/fettle/regex/Counts" "runs" "I" (.int 0) := by rw [hh46]; exact F_runs_cc_43
  have F_clock_cc_46 : Fld Z T46.heap cc "com/example/fettle/fettle/regex/Counts" "clock" "I" (.int 0) := by rw [hh46]; exact F_clock_cc_43
  have F_starting_cc_46 : Fld Z T46.heap cc "com/example/fettle/fettle/regex/Counts" "starting" "Z" (.int 0) := by rw [hh46]; exact F_starting_cc_43
  have F_least_cc_46 : Fld Z T46.heap cc "com/example/fettle/fettle/regex/Counts" "least" "I" (.int le) := by rw [hh46]; exact F_least_cc_43
  have F_most_cc_46 : Fld Z T46.heap cc "com/example/fettle/fettle/regex/Counts" "most" "I" (.int mo) := by rw [hh46]; exact F_most_cc_43
  have V_o_cc_46 : Arv Z T46.heap occ kocc .int (4 : Int32) [(.int (0 : Int32)), (.int (0 : Int32)), (.int (0 : Int32)), (.int (0 : Int32))] (.int (0 : Int32)) := by rw [hh46]; exact V_o_cc_43
  have V_w_cc_46 : Arv Z T46.heap xcc kxcc .int (4 : Int32) [(.int (0 : Int32)), (.int (0 : Int32)), (.int (0 : Int32)), (.int (0 : Int32))] (.int (0 : Int32)) := by rw [hh46]; exact V_w_cc_43
  have E_dd_46 : Exa Z T46.heap dd "com/example/fettle/fettle/regex/Counts" := by rw [hh46]; exact E_dd_43
  have F_oldest_dd_46 : Fld Z T46.heap dd "com/example/fettle/fettle/regex/Counts" "oldest" "[I" (.ref odd) := by rw [hh46]; exact F_oldest_dd_43
  have F_newest_dd_46 : Fld Z T46.heap dd "com/example/fettle/fettle/regex/Counts" "newest" "[I" (.ref xdd) := by rw [hh46]; exact F_newest_dd_43
  have F_first_dd_46 : Fld Z T46.heap dd "com/example/fettle/fettle/regex/Counts" "first" "I" (.int 0) := by rw [hh46]; exact F_first_dd_43
  have F_runs_dd_46 : Fld Z T46.heap dd "com/example/fettle/fettle/regex/Counts" "runs" "I" (.int 0) := by rw [hh46]; exact F_runs_dd_43
  have F_clock_dd_46 : Fld Z T46.heap dd "com/example/fettle/fettle/regex/Counts" "clock" "I" (.int 0) := by rw [hh46]; exact F_clock_dd_43
  have F_starting_dd_46 : Fld Z T46.heap dd "com/example/fettle/fettle/regex/Counts" "starting" "Z" (.int 0) := by rw [hh46]; exact F_starting_dd_43
  have F_least_dd_46 : Fld Z T46.heap dd "com/example/fettle/fettle/regex/Counts" "least" "I" (.int le) := by rw [hh46]; exact F_least_dd_43
  have F_most_dd_46 : Fld Z T46.heap dd "com/example/fettle/fettle/regex/Counts" "most" "I" (.int mo) := by rw [hh46]; exact F_most_dd_43
  have V_o_dd_46 : Arv Z T46.heap odd kodd .int (4 : Int32) [(.int (0 : Int32)), (.int (0 : Int32)), (.int (0 : Int32)), (.int (0 : Int32))] (.int (0 : Int32)) := by rw [hh46]; exact V_o_dd_43
  have V_w_dd_46 : Arv Z T46.heap xdd kxdd .int (4 : Int32) [(.int (0 : Int32)), (.int (0 : Int32)), (.int (0 : Int32)), (.int (0 : Int32))] (.int (0 : Int32)) := by rw [hh46]; exact V_w_dd_43
  have E_ee_46 : Exa Z T46.heap ee "com/example/fettle/fettle/regex/Counts" := by rw [hh46]; exact E_ee_43
  have F_oldest_ee_46 : Fld Z T46.heap ee "com/example/fettle/fettle/regex/Counts" "oldest" "[I" (.ref oee) := by rw [hh46]; exact F_oldest_ee_43
  have F_newest_ee_46 : Fld Z T46.heap ee "com/example/fettle/fettle/regex/Counts" "newest" "[I" (.ref xee) := by rw [hh46]; exact F_newest_ee_43
  have F_first_ee_46 : Fld Z T46.heap ee "com/example/fettle/fettle/regex/Counts" "first" "I" (.int 0) := by rw [hh46]; exact F_first_ee_43
  have F_runs_ee_46 : Fld Z T46.heap ee "com/example/fettle/fettle/regex/Counts" "runs" "I" (.int 0) := by rw [hh46]; exact F_runs_ee_43
  have F_clock_ee_46 : Fld Z T46.heap ee "com/example/fettle/fettle/regex/Counts" "clock" "I" (.int 0) := by rw [hh46]; exact F_clock_ee_43
  have F_starting_ee_46 : Fld Z T46.heap ee "com/example/fettle/fettle/regex/Counts" "starting" "Z" (.int 0) := by rw [hh46]; exact F_starting_ee_43
  have F_least_ee_46 : Fld Z T46.heap ee "com/example/fettle/fettle/regex/Counts" "least" "I" (.int le) := by rw [hh46]; exact F_least_ee_43
  have F_most_ee_46 : Fld Z T46.heap ee "com/example/fettle/fettle/regex/Counts" "most" "I" (.int mo) := by rw [hh46]; exact F_most_ee_43
  have V_o_ee_46 : Arv Z T46.heap oee koee .int (4 : Int32) [(.int (0 : Int32)), (.int (0 : Int32)), (.int (0 : Int32)), (.int (0 : Int32))] (.int (0 : Int32)) := by rw [hh46]; exact V_o_ee_43
  have V_w_ee_46 : Arv Z T46.heap xee kxee .int (4 : Int32) [(.int (0 : Int32)), (.int (0 : Int32)), (.int (0 : Int32)), (.int (0 : Int32))] (.int (0 : Int32)) := by rw [hh46]; exact V_w_ee_43
  have Z46 : n0 ≤ T46.heap.size := by rw [hh46]; exact Z43
  have N46 := Fr.app N43 Nq46
  have pre47 := fun τ (κ : Steps p.tables e below (T46.setTop (mkF m 163 #[.val (.int p0), .val (.int p1), .val (.int p2), .val (.int p3), .val (.int md), .val (.int le), .val (.int mo), .val (.int va), .val (.int vb), .val (.int vd), .val (.ref cc), .val (.ref dd), .val (.ref ee), .unset, .unset, .unset] [(.int (own_emp 0 0))])) τ) => pre45 τ (st46.trans κ)
  rw [show (own_emp 0 0) = (1 : Int32) from own_emp0] at pre47
  have pre48 := fun τ (κ : Steps p.tables e below (T46.setTop (mkF m 167 #[.val (.int p0), .val (.int p1), .val (.int p2), .val (.int p3), .val (.int md), .val (.int le), .val (.int mo), .val (.int va), .val (.int vb), .val (.int vd), .val (.ref cc), .val (.ref dd), .val (.ref ee), .val (.int (1 : Int32)), .unset, .unset] [(.int va)])) τ) => pre47 τ (by
    refine XS.istore X46.here hx rfl (hb hby at_163) rfl (l' := #[.val (.int p0), .val (.int p1), .val (.int p2), .val (.int p3), .val (.int md), .val (.int le), .val (.int mo), .val (.int va), .val (.int vb), .val (.int vd), .val (.ref cc), .val (.ref dd), .val (.ref ee), .val (.int (1 : Int32)), .unset, .unset]) rfl ?_
    show Steps p.tables e below (T46.setTop (mkF m 165 #[.val (.int p0), .val (.int p1), .val (.int p2), .val (.int p3), .val (.int md), .val (.int le), .val (.int mo), .val (.int va), .val (.int vb), .val (.int vd), .val (.ref cc), .val (.ref dd), .val (.ref ee), .val (.int (1 : Int32)), .unset, .unset] [])) _
    refine XS.iload X46.here hx rfl (hb hby at_165) rfl ?_
    show Steps p.tables e below (T46.setTop (mkF m 167 #[.val (.int p0), .val (.int p1), .val (.int p2), .val (.int p3), .val (.int md), .val (.int le), .val (.int mo), .val (.int va), .val (.int vb), .val (.int vd), .val (.ref cc), .val (.ref dd), .val (.ref ee), .val (.int (1 : Int32)), .unset, .unset] [(.int va)])) _
    exact κ)
  obtain ⟨T49, h49, lo49, sa, X49, e49, N49, Z49, E_cc_49, F_oldest_cc_49, F_newest_cc_49, F_first_cc_49, F_runs_cc_49, F_clock_cc_49, F_starting_cc_49, F_least_cc_49, F_most_cc_49, V_o_cc_49, V_w_cc_49, E_dd_49, F_oldest_dd_49, F_newest_dd_49, F_first_dd_49, F_runs_dd_49, F_clock_dd_49, F_starting_dd_49, F_least_dd_49, F_most_dd_49, V_o_dd_49, V_w_dd_49, E_ee_49, F_oldest_ee_49, F_newest_ee_49, F_first_ee_49, F_runs_ee_49, F_clock_ee_49, F_starting_ee_49, F_least_ee_49, F_most_ee_49, V_o_ee_49, V_w_ee_49, hsa, pre49⟩ : ∃ (T49 : State) (h49 : Heap) (lo49 : List Loc) (sa : Int32), Stand p l e room_1 s m #[(.int p0), (.int p1), (.int p2), (.int p3)] below meth c T49 lo49 (9) (48) ∧ T49.heap = h49 ∧ Fr n0 lo49 ∧ n0 ≤ h49.size ∧ (Exa Z h49 cc "com/example/fettle/fettle/regex/Counts") ∧ (Fld Z h49 cc "com/example/fettle/fettle/regex/Counts" "oldest" "[I" (.ref occ)) ∧ (Fld Z h49 cc "com/example/fettle/fettle/regex/Counts" "newest" "[I" (.ref xcc)) ∧ (Fld Z h49 cc "com/example/fettle/fettle/regex/Counts" "first" "I" (.int 0)) ∧ (Fld Z h49 cc "com/example/fettle/fettle/regex/Counts" "runs" "I" (.int 0)) ∧ (Fld Z h49 cc "com/example/fettle/fettle/regex/Counts" "clock" "I" (.int 0)) ∧ (Fld Z h49 cc "com/example/fettle/fettle/regex/Counts" "starting" "Z" (.int sa)) ∧ (Fld Z h49 cc "com/example/fettle/fettle/regex/Counts" "least" "I" (.int le)) ∧ (Fld Z h49 cc "com/example/fettle/fettle/regex/Counts" "most" "I" (.int mo)) ∧ (Arv Z h49 occ kocc .int (4 : Int32) [(.int (0 : Int32)), (.int (0 : Int32)), (.int (0 : Int32)), (.int (0 : Int32))] (.int (0 : Int32))) ∧ (Arv Z h49 xcc kxcc .int (4 : Int32) [(.int (0 : Int32)), (.int (0 : Int32)), (.int (0 : Int32)), (.int (0 : Int32))] (.int (0 : Int32))) ∧ (Exa Z h49 dd "com/example/fettle/fettle/regex/Counts") ∧ (Fld Z h49 dd "com/example/fettle/fettle/regex/Counts" "oldest" "[I" (.ref odd)) ∧ (Fld Z h49 dd "com/example/fettle/fettle/regex/Counts" "newest" "[I" (.ref xdd)) ∧ (Fld Z h49 dd "com/example/fettle/fettle/regex/Counts" "first" "I" (.int 0)) ∧ (Fld Z h49 dd "com/example/fettle/fettle/regex/Counts" "runs" "I" (.int 0)) ∧ (Fld Z h49 dd "com/example/fettle/fettle/regex/Counts" "clock" "I" (.int 0)) ∧ (Fld Z h49 dd "com/example/fettle/fettle/regex/Counts" "starting" "Z" (.int 0)) ∧ (Fld Z h49 dd "com/example/fettle/fettle/regex/Counts" "least" "I" (.int le)) ∧ (Fld Z h49 dd "com/example/fettle/fettle/regex/Counts" "most" "I" (.int mo)) ∧ (Arv Z h49 odd kodd .int (4 : Int32) [(.int (0 : Int32)), (.int (0 : Int32)), (.int (0 : Int32)), (.int (0 : Int32))] (.int (0 : Int32))) ∧ (Arv Z h49 xdd kxdd .int (4 : Int32) [(.int (0 : Int32)), (.int (0 : Int32)), (.int (0 : Int32)), (.int (0 : Int32))] (.int (0 : Int32))) ∧ (Exa Z h49 ee "com/example/fettle/fettle/regex/Counts") ∧ (Fld Z h49 ee "com/example/fettle/fettle/regex/Counts" "oldest" "[I" (.ref oee)) ∧ (Fld Z h49 ee "com/example/fettle/fettle/regex/Counts" "newest" "[I" (.ref xee)) ∧ (Fld Z h49 ee "com/example/fettle/fettle/regex/Counts" "first" "I" (.int 0)) ∧ (Fld Z h49 ee "com/example/fettle/fettle/regex/Counts" "runs" "I" (.int 0)) ∧ (Fld Z h49 ee "com/example/fettle/fettle/regex/Counts" "clock" "I" (.int 0)) ∧ (Fld Z h49 ee "com/example/fettle/fettle/regex/Counts" "starting" "Z" (.int 0)) ∧ (Fld Z h49 ee "com/example/fettle/fettle/regex/Counts" "least" "I" (.int le)) ∧ (Fld Z h49 ee "com/example/fettle/fettle/regex/Counts" "most" "I" (.int mo)) ∧ (Arv Z h49 oee koee .int (4 : Int32) [(.int (0 : Int32)), (.int (0 : Int32)), (.int (0 : Int32)), (.int (0 : Int32))] (.int (0 : Int32))) ∧ (Arv Z h49 xee kxee .int (4 : Int32) [(.int (0 : Int32)), (.int (0 : Int32)), (.int (0 : Int32)), (.int (0 : Int32))] (.int (0 : Int32))) ∧ ((va = 0 ∧ sa = 0) ∨ (¬ va = 0 ∧ sa = 1)) ∧ ∀ τ, Steps p.tables e below (T49.setTop (mkF m 175 #[.val (.int p0), .val (.int p1), .val (.int p2), .val (.int p3), .val (.int md), .val (.int le), .val (.int mo), .val (.int va), .val (.int vb), .val (.int vd), .val (.ref cc), .val (.ref dd), .val (.ref ee), .val (.int (1 : Int32)), .unset, .unset] [])) τ → Steps p.tables e below (s₁.setTop (entryFrame m #[(.int p0), (.int p1), (.int p2), (.int p3)] maxLocals)) τ := by
    by_cases qq : va = (0 : Int32)
    · have pre50 := fun τ (κ : Steps p.tables e below (T46.setTop (mkF m 175 #[.val (.int p0), .val (.int p1), .val (.int p2), .val (.int p3), .val (.int md), .val (.int le), .val (.int mo), .val (.int va), .val (.int vb), .val (.int vd), .val (.ref cc), .val (.ref dd), .val (.ref ee), .val (.int (1 : Int32)), .unset, .unset] [])) τ) => pre48 τ (by
        refine XS.ifYes X46.here hx rfl (pc0 := 167) (pc' := 175) rfl (hb hby at_167) rfl ((if0 _ _).trans (teq qq).1) (by decide) (by decide) ?_
        show Steps p.tables e below (T46.setTop (mkF m 175 #[.val (.int p0), .val (.int p1), .val (.int p2), .val (.int p3), .val (.int md), .val (.int le), .val (.int mo), .val (.int va), .val (.int vb), .val (.int vd), .val (.ref cc), .val (.ref dd), .val (.ref ee), .val (.int (1 : Int32)), .unset, .unset] [])) _
        exact κ)
      exact ⟨T46, T46.heap, _, _, X46, rfl, N46, Z46, E_cc_46, F_oldest_cc_46, F_newest_cc_46, F_first_cc_46, F_runs_cc_46, F_clock_cc_46, F_starting_cc_46, F_least_cc_46, F_most_cc_46, V_o_cc_46, V_w_cc_46, E_dd_46, F_oldest_dd_46, F_newest_dd_46, F_first_dd_46, F_runs_dd_46, F_clock_dd_46, F_starting_dd_46, F_least_dd_46, F_most_dd_46, V_o_dd_46, V_w_dd_46, E_ee_46, F_oldest_ee_46, F_newest_ee_46, F_first_ee_46, F_runs_ee_46, F_clock_ee_46, F_starting_ee_46, F_least_ee_46, F_most_ee_46, V_o_ee_46, V_w_ee_46, Or.inl ⟨qq, rfl⟩, pre50⟩
    · have pre51 := fun τ (κ : Steps p.tables e below (T46.setTop (mkF m 172 #[.val (.int p0), .val (.int p1), .val (.int p2), .val (.int p3), .val (.int md), .val (.int le), .val (.int mo), .val (.int va), .val (.int vb), .val (.int vd), .val (.ref cc), .val (.ref dd), .val (.ref ee), .val (.int (1 : Int32)), .unset, .unset] [(.ref cc)])) τ) => pre48 τ (by
        refine XS.ifNo X46.here hx rfl (hb hby at_167) rfl ((if0 _ _).trans (feq qq).1) ?_
        show Steps p.tables e below (T46.setTop (mkF m 170 #[.val (.int p0), .val (.int p1), .val (.int p2), .val (.int p3), .val (.int md), .val (.int le), .val (.int mo), .val (.int va), .val (.int vb), .val (.int vd), .val (.ref cc), .val (.ref dd), .val (.ref ee), .val (.int (1 : Int32)), .unset, .unset] [])) _
        refine XS.aload X46.here hx rfl (hb hby at_170) rfl rfl ?_
        show Steps p.tables e below (T46.setTop (mkF m 172 #[.val (.int p0), .val (.int p1), .val (.int p2), .val (.int p3), .val (.int md), .val (.int le), .val (.int mo), .val (.int va), .val (.int vb), .val (.int vd), .val (.ref cc), .val (.ref dd), .val (.ref ee), .val (.int (1 : Int32)), .unset, .unset] [(.ref cc)])) _
        exact κ)
      obtain ⟨cq52, kq52, q52a, q52b, q52c⟩ := isOf hZ rfl E_cc_46
      obtain ⟨_, _, ⟨T52, L52, k52, n52⟩, -, X52, ⟨Lc52, hQ52, l52, y52, z52⟩, st52⟩ := X46.virtualBack hx (y := (⟨"com/example/fettle/fettle/regex/Counts", "start", "()V"⟩ : MethodName)) (z := (⟨"com/example/fettle/fettle/regex/Counts", "start", "()V"⟩ : MethodName)) hown (mvT hZ (hw _ (List.mem_of_getElem? (i := 32) rfl))) (mvT hZ (hw _ (List.mem_of_getElem? (i := 33) rfl))) (notFace_of_selects (args := #[]) (mvT hZ (hw _ (List.mem_of_getElem? (i := 35) rfl)))) (mvT hZ (hw _ (List.mem_of_getElem? (i := 35) rfl))) (mvT hZ (hw _ (List.mem_of_getElem? (i := 34) rfl))) (by decide) (backOf (W := 0) (rm5 l Z a0 hw [] cc occ xcc kocc kxcc 0 0 0 0 le mo [(.int (0 : Int32)), (.int (0 : Int32)), (.int (0 : Int32)), (.int (0 : Int32))] [(.int (0 : Int32)), (.int (0 : Int32)), (.int (0 : Int32)), (.int (0 : Int32))] T46.heap n0 Z46 ⟨E_cc_46, F_oldest_cc_46, F_newest_cc_46, F_first_cc_46, F_runs_cc_46, F_clock_cc_46, F_starting_cc_46, F_least_cc_46, F_most_cc_46, V_o_cc_46, V_w_cc_46⟩ ne_cc_occ ne_cc_xcc nox31 g_cc) hZ (hw _ (List.mem_of_getElem? (i := 36) rfl)) (hw _ (List.mem_of_getElem? (i := 7) rfl)) (by decide) (by decide)) q52a q52c (g := (mkF m 172 #[.val (.int p0), .val (.int p1), .val (.int p2), .val (.int p3), .val (.int md), .val (.int le), .val (.int mo), .val (.int va), .val (.int vb), .val (.int vd), .val (.ref cc), .val (.ref dd), .val (.ref ee), .val (.int (1 : Int32)), .unset, .unset] [(.ref cc)])) rfl (by rw [hml]; rfl) (Steps.refl _) (argsL := []) (rest := []) (lenOf pd_4 rfl) rfl (by show 2 * 0 + _ ≤ _; exact Nat.le_of_eq rfl) (hb hby at_172) (fun _ _ => ⟨rfl, rfl, (by decide : 9 + 0 ≤ _), (by decide : 48 + 0 ≤ _)⟩)
      dsimp only [Pt.U, Pt.locs, Pt.cells, Pt.slots] at X52 l52 y52 z52 st52 hQ52
      subst l52 y52 z52
      obtain ⟨rfl, Nq52, K52, P52⟩ := hQ52
      have E_cc_52 : Exa Z T52.heap cc "com/example/fettle/fettle/regex/Counts" := E_cc_46.keep K52
      have V_o_cc_52 : Arv Z T52.heap occ kocc .int (4 : Int32) [(.int (0 : Int32)), (.int (0 : Int32)), (.int (0 : Int32)), (.int (0 : Int32))] (.int (0 : Int32)) := V_o_cc_46.keep K52 (ninS (Ne.symm ne_cc_occ) nin0)
      have V_w_cc_52 : Arv Z T52.heap xcc kxcc .int (4 : Int32) [(.int (0 : Int32)), (.int (0 : Int32)), (.int (0 : Int32)), (.int (0 : Int32))] (.int (0 : Int32)) := V_w_cc_46.keep K52 (ninS (Ne.symm ne_cc_xcc) nin0)
      have E_dd_52 : Exa Z T52.heap dd "com/example/fettle/fettle/regex/Counts" := E_dd_46.keep K52
      have F_oldest_dd_52 : Fld Z T52.heap dd "com/example/fettle/fettle/regex/Counts" "oldest" "[I" (.ref odd) := F_oldest_dd_46.keep K52 (ninS (Ne.symm ne_cc_dd) nin0)
      have F_newest_dd_52 : Fld Z T52.heap dd "com/example/fettle/fettle/regex/Counts" "newest" "[I" (.ref xdd) := F_newest_dd_46.keep K52 (ninS (Ne.symm ne_cc_dd) nin0)
      have F_first_dd_52 : Fld Z T52.heap dd "com/example/fettle/fettle/regex/Counts" "first" "I" (.int 0) := F_first_dd_46.keep K52 (ninS (Ne.symm ne_cc_dd) nin0)
      have F_runs_dd_52 : Fld Z T52.heap dd "com/example/fettle/fettle/regex/Counts" "runs" "I" (.int 0) := F_runs_dd_46.keep K52 (ninS (Ne.symm ne_cc_dd) nin0)
      have F_clock_dd_52 : Fld Z T52.heap dd "com/example/fettle/fettle/regex/Counts" "clock" "I" (.int 0) := F_clock_dd_46.keep K52 (ninS (Ne.symm ne_cc_dd) nin0)
      have F_starting_dd_52 : Fld Z T52.heap dd "com/example/fettle/fettle/regex/Counts" "starting" "Z" (.int 0) := F_starting_dd_46.keep K52 (ninS (Ne.symm ne_cc_dd) nin0)
      have F_least_dd_52 : Fld Z T52.heap dd "com/example/fettle/fettle/regex/Counts" "least" "I" (.int le) := F_least_dd_46.keep K52 (ninS (Ne.symm ne_cc_dd) nin0)
      have F_most_dd_52 : Fld Z T52.heap dd "com/example/fettle/fettle/regex/Counts" "most" "I" (.int mo) := F_most_dd_46.keep K52 (ninS (Ne.symm ne_cc_dd) nin0)
      have V_o_dd_52 : Arv Z T52.heap odd kodd .int (4 : Int32) [(.int (0 : Int32)), (.int (0 : Int32)), (.int (0 : Int32)), (.int (0 : Int32))] (.int (0 : Int32)) := V_o_dd_46.keep K52 (ninS (Ne.symm ne_cc_odd) nin0)
      have V_w_dd_52 : Arv Z T52.heap xdd kxdd .int (4 : Int32) [(.int (0 : Int32)), (.int (0 : Int32)), (.int (0 : Int32)), (.int (0 : Int32))] (.int (0 : Int32)) := V_w_dd_46.keep K52 (ninS (Ne.symm ne_cc_xdd) nin0)
      have E_ee_52 : Exa Z T52.heap ee "com/example/fettle/fettle/regex/Counts" := E_ee_46.keep K52
      have F_oldest_ee_52 : Fld Z T52.heap ee "com/example/fettle/fettle/regex/Counts" "oldest" "[I" (.ref oee) := F_oldest_ee_46.keep K52 (ninS (Ne.symm ne_cc_ee) nin0)
      have F_newest_ee_52 : Fld Z T52.heap ee "com/example/fettle/fettle/regex/Counts" "newest" "[I" (.ref xee) := F_newest_ee_46.keep K52 (ninS (Ne.symm ne_cc_ee) nin0)
      have F_first_ee_52 : Fld Z T52.heap ee "com/example/fettle/fettle/regex/Counts" "first" "I" (.int 0) := F_first_ee_46.keep K52 (ninS (Ne.symm ne_cc_ee) nin0)
      have F_runs_ee_52 : Fld Z T52.heap ee "com/example/fettle/fettle/regex/Counts" "runs" "I" (.int 0) := F_runs_ee_46.keep K52 (ninS (Ne.symm ne_cc_ee) nin0)
      have F_clock_ee_52 : Fld Z T52.heap ee "com/example/fettle/fettle/regex/Counts" "clock" "I" (.int 0) := F_clock_ee_46.keep K52 (ninS (Ne.symm ne_cc_ee) nin0)
      have F_starting_ee_52 : Fld Z T52.heap ee "com/example/fettle/fettle/regex/Counts" "starting" "Z" (.int 0) := F_starting_ee_46.keep K52 (ninS (Ne.symm ne_cc_ee) nin0)
      have F_least_ee_52 : Fld Z T52.heap ee "com/example/fettle/fettle/regex/Counts" "least" "I" (.int le) := F_least_ee_46.keep K52 (ninS (Ne.symm ne_cc_ee) nin0)
      have F_most_ee_52 : Fld Z T52.heap ee "com/example/fettle/fettle/regex/Counts" "most" "I" (.int mo) := F_most_ee_46.keep K52 (ninS (Ne.symm ne_cc_ee) nin0)
      have V_o_ee_52 : Arv Z T52.heap oee koee .int (4 : Int32) [(.int (0 : Int32)), (.int (0 : Int32)), (.int (0 : Int32)), (.int (0 : Int32))] (.int (0 : Int32)) := V_o_ee_46.keep K52 (ninS (Ne.symm ne_cc_oee) nin0)
      have V_w_ee_52 : Arv Z T52.heap xee kxee .int (4 : Int32) [(.int (0 : Int32)), (.int (0 : Int32)), (.int (0 : Int32)), (.int (0 : Int32))] (.int (0 : Int32)) := V_w_ee_46.keep K52 (ninS (Ne.symm ne_cc_xee) nin0)
      have Z52 : n0 ≤ T52.heap.size := Nat.le_trans Z46 K52.1
      have N52 := Fr.app N46 Nq52
      have pre53 := fun τ (κ : Steps p.tables e below (T52.setTop (mkF m 175 #[.val (.int p0), .val (.int p1), .val (.int p2), .val (.int p3), .val (.int md), .val (.int le), .val (.int mo), .val (.int va), .val (.int vb), .val (.int vd), .val (.ref cc), .val (.ref dd), .val (.ref ee), .val (.int (1 : Int32)), .unset, .unset] [])) τ) => pre51 τ (st52.trans κ)
      obtain ⟨E_cc_52, F_oldest_cc_52, F_newest_cc_52, F_first_cc_52, F_runs_cc_52, F_clock_cc_52, F_starting_cc_52, F_least_cc_52, F_most_cc_52, V_o_cc_52, V_w_cc_52⟩ := P52
      exact ⟨T52, T52.heap, _, _, X52, rfl, N52, Z52, E_cc_52, F_oldest_cc_52, F_newest_cc_52, F_first_cc_52, F_runs_cc_52, F_clock_cc_52, F_starting_cc_52, F_least_cc_52, F_most_cc_52, V_o_cc_52, V_w_cc_52, E_dd_52, F_oldest_dd_52, F_newest_dd_52, F_first_dd_52, F_runs_dd_52, F_clock_dd_52, F_starting_dd_52, F_least_dd_52, F_most_dd_52, V_o_dd_52, V_w_dd_52, E_ee_52, F_oldest_ee_52, F_newest_ee_52, F_first_ee_52, F_runs_ee_52, F_clock_ee_52, F_starting_ee_52, F_least_ee_52, F_most_ee_52, V_o_ee_52, V_w_ee_52, Or.inr ⟨qq, rfl⟩, pre53⟩
  have pre54 := fun τ (κ : Steps p.tables e below (T49.setTop (mkF m 182 #[.val (.int p0), .val (.int p1), .val (.int p2), .val (.int p3), .val (.int md), .val (.int le), .val (.int mo), .val (.int va), .val (.int vb), .val (.int vd), .val (.ref cc), .val (.ref dd), .val (.ref ee), .val (.int (1 : Int32)), .unset, .unset] [(.ref cc)])) τ) => pre49 τ (by
    refine XS.iload X49.here hx rfl (hb hby at_175) rfl ?_
    show Steps p.tables e below (T49.setTop (mkF m 177 #[.val (.int p0), .val (.int p1), .val (.int p2), .val (.int p3), .val (.int md), .val (.int le), .val (.int mo), .val (.int va), .val (.int vb), .val (.int vd), .val (.ref cc), .val (.ref dd), .val (.ref ee), .val (.int (1 : Int32)), .unset, .unset] [(.int (1 : Int32))])) _
    refine XS.ifNo X49.here hx rfl (hb hby at_177) rfl ((if0 _ _).trans (feq (by decide)).1) ?_
    show Steps p.tables e below (T49.setTop (mkF m 180 #[.val (.int p0), .val (.int p1), .val (.int p2), .val (.int p3), .val (.int md), .val (.int le), .val (.int mo), .val (.int va), .val (.int vb), .val (.int vd), .val (.ref cc), .val (.ref dd), .val (.ref ee), .val (.int (1 : Int32)), .unset, .unset] [])) _
    refine XS.aload X49.here hx rfl (hb hby at_180) rfl rfl ?_
    show Steps p.tables e below (T49.setTop (mkF m 182 #[.val (.int p0), .val (.int p1), .val (.int p2), .val (.int p3), .val (.int md), .val (.int le), .val (.int mo), .val (.int va), .val (.int vb), .val (.int vd), .val (.ref cc), .val (.ref dd), .val (.ref ee), .val (.int (1 : Int32)), .unset, .unset] [(.ref cc)])) _
    exact κ)
  obtain ⟨cq55, kq55, q55a, q55b, q55c⟩ := isOf hZ e49 E_cc_49
  obtain ⟨_, _, ⟨T55, L55, k55, n55⟩, -, X55, ⟨Lc55, hQ55, l55, y55, z55⟩, st55⟩ := X49.virtualBack hx (y := (⟨"com/example/fettle/fettle/regex/Counts", "isEmpty", "()Z"⟩ : MethodName)) (z := (⟨"com/example/fettle/fettle/regex/Counts", "isEmpty", "()Z"⟩ : MethodName)) hown (mvT hZ (hw _ (List.mem_of_getElem? (i := 23) rfl))) (mvT hZ (hw _ (List.mem_of_getElem? (i := 24) rfl))) (notFace_of_selects (args := #[]) (mvT hZ (hw _ (List.mem_of_getElem? (i := 26) rfl)))) (mvT hZ (hw _ (List.mem_of_getElem? (i := 26) rfl))) (mvT hZ (hw _ (List.mem_of_getElem? (i := 25) rfl))) (by decide) (backOf (W := 0) (rm4 l Z a0 hw [] cc 0 sa h49 n0 Z49 F_runs_cc_49 F_starting_cc_49) hZ (hw _ (List.mem_of_getElem? (i := 27) rfl)) (hw _ (List.mem_of_getElem? (i := 7) rfl)) (by decide) (by decide)) q55a q55c (g := (mkF m 182 #[.val (.int p0), .val (.int p1), .val (.int p2), .val (.int p3), .val (.int md), .val (.int le), .val (.int mo), .val (.int va), .val (.int vb), .val (.int vd), .val (.ref cc), .val (.ref dd), .val (.ref ee), .val (.int (1 : Int32)), .unset, .unset] [(.ref cc)])) rfl (by rw [hml]; rfl) (Steps.refl _) (argsL := []) (rest := []) (lenOf pd_6 rfl) rfl (by show 2 * 0 + _ ≤ _; exact Nat.le_of_eq rfl) (hb hby at_182) (fun _ _ => ⟨rfl, e49, (by decide : 9 + 0 ≤ _), (by decide : 48 + 0 ≤ _)⟩)
  dsimp only [Pt.U, Pt.locs, Pt.cells, Pt.slots] at X55 l55 y55 z55 st55 hQ55
  subst l55 y55 z55
  obtain ⟨rfl, Nq55, hh55⟩ := hQ55
  have E_cc_55 : Exa Z T55.heap cc "com/example/fettle/fettle/regex/Counts" := by rw [hh55]; exact E_cc_49
  have F_oldest_cc_55 : Fld Z T55.heap cc "com/example/fettle/fettle/regex/Counts" "oldest" "[I" (.ref occ) := by rw [hh55]; exact F_oldest_cc_49
  have F_newest_cc_55 : Fld Z T55.heap cc "com/example/fettle/fettle/regex/Counts" "newest" "[I" (.ref xcc) := by rw [hh55]; exact F_newest_cc_49
  have F_first_cc_55 : Fld Z T55.heap cc "com/example/fettle/fettle/regex/Counts" "first" "I" (.int 0) := by rw [hh55]; exact F_first_cc_49
  have F_runs_cc_55 : Fld Z T55.heap cc "com/example/fettle/fettle/regex/Counts" "runs" "I" (.int 0) := by rw [hh55]; exact F_runs_cc_49
  have F_clock_cc_55 : Fld Z T55.heap cc "com/example/fettle/fettle/regex/Counts" "clock" "I" (.int 0) := by rw [hh55]; exact F_clock_cc_49
  have F_starting_cc_55 : Fld Z T55.heap cc "com/example/fettle/fettle/regex/Counts" "starting" "Z" (.int sa) := by rw [hh55]; exact F_starting_cc_49
  have F_least_cc_55 : Fld Z T55.heap cc "com/example/fettle/fettle/regex/Counts" "least" "I" (.int le) := by rw [hh55]; exact F_least_cc_49
  have F_most_cc_55 : Fld Z T55.heap cc "com/example/fettle/fettle/regex/Counts" "most" "I" (.int mo) := by rw [hh55]; exact F_most_cc_49
  have V_o_cc_55 : Arv Z T55.heap occ kocc .int (4 : Int32) [(.int (0 : Int32)), (.int (0 : Int32)), (.int (0 : Int32)), (.int (0 : Int32))] (.int (0 : Int32)) := by rw [hh55]; exact V_o_cc_49
  have V_w_cc_55 : Arv Z T55.heap xcc kxcc .int (4 : Int32) [(.int (0 : Int32)), (.int (0 : Int32)), (.int (0 : Int32)), (.int (0 : Int32))] (.int (0 : Int32)) := by rw [hh55]; exact V_w_cc_49
  have E_dd_55 : Exa Z T55.heap dd "com/example/fettle/fettle/regex/Counts" := by rw [hh55]; exact E_dd_49
  have F_oldest_dd_55 : Fld Z T55.heap dd "com/example/fettle/fettle/regex/Counts" "oldest" "[I" (.ref odd) := by rw [hh55]; exact F_oldest_dd_49
  have F_newest_dd_55 : Fld Z T55.heap dd "com/example/fettle/fettle/regex/Counts" "newest" "[I" (.ref xdd) := by rw [hh55]; exact F_newest_dd_49
  have F_first_dd_55 : Fld Z T55.heap dd "com/example/fettle/fettle/regex/Counts" "first" "I" (.int 0) := by rw [hh55]; exact F_first_dd_49
  have F_runs_dd_55 : Fld Z T55.heap dd "com/example/fettle/fettle/regex/Counts" "runs" "I" (.int 0) := by rw [hh55]; exact F_runs_dd_49
  have F_clock_dd_55 : Fld Z T55.heap dd "com/example/fettle/fettle/regex/Counts" "clock" "I" (.int 0) := by rw [hh55]; exact F_clock_dd_49
  have F_starting_dd_55 : Fld Z T55.heap dd "com/example/fettle/fettle/regex/Counts" "starting" "Z" (.int 0) := by rw [hh55]; exact F_starting_dd_49
  have F_least_dd_55 : Fld Z T55.heap dd "com/example/fettle/fettle/regex/Counts" "least" "I" (.int le) := by rw [hh55]; exact F_least_dd_49
  have F_most_dd_55 : Fld Z T55.heap dd "com/example/fettle/fettle/regex/Counts" "most" "I" (.int mo) := by rw [hh55]; exact F_most_dd_49
  have V_o_dd_55 : Arv Z T55.heap odd kodd .int (4 : Int32) [(.int (0 : Int32)), (.int (0 : Int32)), (.int (0 : Int32)), (.int (0 : Int32))] (.int (0 : Int32)) := by rw [hh55]; exact V_o_dd_49
  have V_w_dd_55 : Arv Z T55.heap xdd kxdd .int (4 : Int32) [(.int (0 : Int32)), (.int (0 : Int32)), (.int (0 : Int32)), (.int (0 : Int32))] (.int (0 : Int32)) := by rw [hh55]; exact V_w_dd_49
  have E_ee_55 : Exa Z T55.heap ee "com/example/fettle/fettle/regex/Counts" := by rw [hh55]; exact E_ee_49
  have F_oldest_ee_55 : Fld Z T55.heap ee "com/example/fettle/fettle/regex/Counts" "oldest" "[I" (.ref oee) := by rw [hh55]; exact F_oldest_ee_49
  have F_newest_ee_55 : Fld Z T55.heap ee "com/example/fettle/fettle/regex/Counts" "newest" "[I" (.ref xee) := by rw [hh55]; exact F_newest_ee_49
  have F_first_ee_55 : Fld Z T55.heap ee "com/example/fettle/fettle/regex/Counts" "first" "I" (.int 0) := by rw [hh55]; exact F_first_ee_49
  have F_runs_ee_55 : Fld Z T55.heap ee "com/example/fettle/fettle/regex/Counts" "runs" "I" (.int 0) := by rw [hh55]; exact F_runs_ee_49
  have F_clock_ee_55 : Fld Z T55.heap ee "com/example/fettle/fettle/regex/Counts" "clock" "I" (.int 0) := by rw [hh55]; exact F_clock_ee_49
  have F_starting_ee_55 : Fld Z T55.heap ee "com/example/fettle/fettle/regex/Counts" "starting" "Z" (.int 0) := by rw [hh55]; exact F_starting_ee_49
  have F_least_ee_55 : Fld Z T55.heap ee "com/example/fettle/fettle/regex/Counts" "least" "I" (.int le) := by rw [hh55]; exact F_least_ee_49
  have F_most_ee_55 : Fld Z T55.heap ee "com/example/fettle/fettle/regex/Counts" "most" "I" (.int mo) := by rw [hh55]; exact F_most_ee_49
  have V_o_ee_55 : Arv Z T55.heap oee koee .int (4 : Int32) [(.int (0 : Int32)), (.int (0 : Int32)), (.int (0 : Int32)), (.int (0 : Int32))] (.int (0 : Int32)) := by rw [hh55]; exact V_o_ee_49
  have V_w_ee_55 : Arv Z T55.heap xee kxee .int (4 : Int32) [(.int (0 : Int32)), (.int (0 : Int32)), (.int (0 : Int32)), (.int (0 : Int32))] (.int (0 : Int32)) := by rw [hh55]; exact V_w_ee_49
  have Z55 : n0 ≤ T55.heap.size := by rw [hh55]; exact Z49
  have N55 := Fr.app N49 Nq55
  have pre56 := fun τ (κ : Steps p.tables e below (T55.setTop (mkF m 185 #[.val (.int p0), .val (.int p1), .val (.int p2), .val (.int p3), .val (.int md), .val (.int le), .val (.int mo), .val (.int va), .val (.int vb), .val (.int vd), .val (.ref cc), .val (.ref dd), .val (.ref ee), .val (.int (1 : Int32)), .unset, .unset] [(.int (own_emp 0 sa))])) τ) => pre54 τ (st55.trans κ)
  have pre57 := fun τ (κ : Steps p.tables e below (T55.setTop (mkF m 187 #[.val (.int p0), .val (.int p1), .val (.int p2), .val (.int p3), .val (.int md), .val (.int le), .val (.int mo), .val (.int va), .val (.int vb), .val (.int vd), .val (.ref cc), .val (.ref dd), .val (.ref ee), .val (.int (1 : Int32)), .unset, .unset] [(.int va), (.int (own_emp 0 sa))])) τ) => pre56 τ (by
    refine XS.iload X55.here hx rfl (hb hby at_185) rfl ?_
    show Steps p.tables e below (T55.setTop (mkF m 187 #[.val (.int p0), .val (.int p1), .val (.int p2), .val (.int p3), .val (.int md), .val (.int le), .val (.int mo), .val (.int va), .val (.int vb), .val (.int vd), .val (.ref cc), .val (.ref dd), .val (.ref ee), .val (.int (1 : Int32)), .unset, .unset] [(.int va), (.int (own_emp 0 sa))])) _
    exact κ)
  obtain ⟨-, pre58⟩ : ∃ _u : Unit, ∀ τ, Steps p.tables e below (T55.setTop (mkF m 205 #[.val (.int p0), .val (.int p1), .val (.int p2), .val (.int p3), .val (.int md), .val (.int le), .val (.int mo), .val (.int va), .val (.int vb), .val (.int vd), .val (.ref cc), .val (.ref dd), .val (.ref ee), .val (.int (1 : Int32)), .unset, .unset] [])) τ → Steps p.tables e below (s₁.setTop (entryFrame m #[(.int p0), (.int p1), (.int p2), (.int p3)] maxLocals)) τ := by
    by_cases qq : va = (0 : Int32)
    · have pre59 := fun τ (κ : Steps p.tables e below (T55.setTop (mkF m 205 #[.val (.int p0), .val (.int p1), .val (.int p2), .val (.int p3), .val (.int md), .val (.int le), .val (.int mo), .val (.int va), .val (.int vb), .val (.int vd), .val (.ref cc), .val (.ref dd), .val (.ref ee), .val (.int (1 : Int32)), .unset, .unset] [])) τ) => pre57 τ (by
        refine XS.ifNo X55.here hx rfl (hb hby at_187) rfl ((if0 _ _).trans (teq qq).2) ?_
        show Steps p.tables e below (T55.setTop (mkF m 190 #[.val (.int p0), .val (.int p1), .val (.int p2), .val (.int p3), .val (.int md), .val (.int le), .val (.int mo), .val (.int va), .val (.int vb), .val (.int vd), .val (.ref cc), .val (.ref dd), .val (.ref ee), .val (.int (1 : Int32)), .unset, .unset] [(.int (own_emp 0 sa))])) _
        refine XS.iconst X55.here hx rfl (hb hby at_190) ?_
        show Steps p.tables e below (T55.setTop (mkF m 191 #[.val (.int p0), .val (.int p1), .val (.int p2), .val (.int p3), .val (.int md), .val (.int le), .val (.int mo), .val (.int va), .val (.int vb), .val (.int vd), .val (.ref cc), .val (.ref dd), .val (.ref ee), .val (.int (1 : Int32)), .unset, .unset] [(.int (1 : Int32)), (.int (own_emp 0 sa))])) _
        refine XS.goto X55.here hx rfl (pc0 := 191) (pc' := 195) rfl (hb hby at_191) (by decide) (by decide) ?_
        show Steps p.tables e below (T55.setTop (mkF m 195 #[.val (.int p0), .val (.int p1), .val (.int p2), .val (.int p3), .val (.int md), .val (.int le), .val (.int mo), .val (.int va), .val (.int vb), .val (.int vd), .val (.ref cc), .val (.ref dd), .val (.ref ee), .val (.int (1 : Int32)), .unset, .unset] [(.int (1 : Int32)), (.int (own_emp 0 sa))])) _
        refine XS.icmpNo X55.here hx rfl (hb hby at_195) rfl (teq (by rw [(hsa.resolve_right fun z => z.1 qq).2]; rfl)).2 ?_
        show Steps p.tables e below (T55.setTop (mkF m 198 #[.val (.int p0), .val (.int p1), .val (.int p2), .val (.int p3), .val (.int md), .val (.int le), .val (.int mo), .val (.int va), .val (.int vb), .val (.int vd), .val (.ref cc), .val (.ref dd), .val (.ref ee), .val (.int (1 : Int32)), .unset, .unset] [])) _
        refine XS.iconst X55.here hx rfl (hb hby at_198) ?_
        show Steps p.tables e below (T55.setTop (mkF m 199 #[.val (.int p0), .val (.int p1), .val (.int p2), .val (.int p3), .val (.int md), .val (.int le), .val (.int mo), .val (.int va), .val (.int vb), .val (.int vd), .val (.ref cc), .val (.ref dd), .val (.ref ee), .val (.int (1 : Int32)), .unset, .unset] [(.int (1 : Int32))])) _
        refine XS.goto X55.here hx rfl (pc0 := 199) (pc' := 203) rfl (hb hby at_199) (by decide) (by decide) ?_
        show Steps p.tables e below (T55.setTop (mkF m 203 #[.val (.int p0), .val (.int p1), .val (.int p2), .val (.int p3), .val (.int md), .val (.int le), .val (.int mo), .val (.int va), .val (.int vb), .val (.int vd), .val (.ref cc), .val (.ref dd), .val (.ref ee), .val (.int (1 : Int32)), .unset, .unset] [(.int (1 : Int32))])) _
        refine XS.istore X55.here hx rfl (hb hby at_203) rfl (l' := #[.val (.int p0), .val (.int p1), .val (.int p2), .val (.int p3), .val (.int md), .val (.int le), .val (.int mo), .val (.int va), .val (.int vb), .val (.int vd), .val (.ref cc), .val (.ref dd), .val (.ref ee), .val (.int (1 : Int32)), .unset, .unset]) rfl ?_
        show Steps p.tables e below (T55.setTop (mkF m 205 #[.val (.int p0), .val (.int p1), .val (.int p2), .val (.int p3), .val (.int md), .val (.int le), .val (.int mo), .val (.int va), .val (.int vb), .val (.int vd), .val (.ref cc), .val (.ref dd), .val (.ref ee), .val (.int (1 : Int32)), .unset, .unset] [])) _
        exact κ)
      exact ⟨(), pre59⟩
    · have pre60 := fun τ (κ : Steps p.tables e below (T55.setTop (mkF m 205 #[.val (.int p0), .val (.int p1), .val (.int p2), .val (.int p3), .val (.int md), .val (.int le), .val (.int mo), .val (.int va), .val (.int vb), .val (.int vd), .val (.ref cc), .val (.ref dd), .val (.ref ee), .val (.int (1 : Int32)), .unset, .unset] [])) τ) => pre57 τ (by
        refine XS.ifYes X55.here hx rfl (pc0 := 187) (pc' := 194) rfl (hb hby at_187) rfl ((if0 _ _).trans (feq qq).2) (by decide) (by decide) ?_
        show Steps p.tables e below (T55.setTop (mkF m 194 #[.val (.int p0), .val (.int p1), .val (.int p2), .val (.int p3), .val (.int md), .val (.int le), .val (.int mo), .val (.int va), .val (.int vb), .val (.int vd), .val (.ref cc), .val (.ref dd), .val (.ref ee), .val (.int (1 : Int32)), .unset, .unset] [(.int (own_emp 0 sa))])) _
        refine XS.iconst X55.here hx rfl (hb hby at_194) ?_
        show Steps p.tables e below (T55.setTop (mkF m 195 #[.val (.int p0), .val (.int p1), .val (.int p2), .val (.int p3), .val (.int md), .val (.int le), .val (.int mo), .val (.int va), .val (.int vb), .val (.int vd), .val (.ref cc), .val (.ref dd), .val (.ref ee), .val (.int (1 : Int32)), .unset, .unset] [(.int (0 : Int32)), (.int (own_emp 0 sa))])) _
        refine XS.icmpNo X55.here hx rfl (hb hby at_195) rfl (teq (by rw [(hsa.resolve_left fun z => qq z.1).2]; exact own_empS)).2 ?_
        show Steps p.tables e below (T55.setTop (mkF m 198 #[.val (.int p0), .val (.int p1), .val (.int p2), .val (.int p3), .val (.int md), .val (.int le), .val (.int mo), .val (.int va), .val (.int vb), .val (.int vd), .val (.ref cc), .val (.ref dd), .val (.ref ee), .val (.int (1 : Int32)), .unset, .unset] [])) _
        refine XS.iconst X55.here hx rfl (hb hby at_198) ?_
        show Steps p.tables e below (T55.setTop (mkF m 199 #[.val (.int p0), .val (.int p1), .val (.int p2), .val (.int p3), .val (.int md), .val (.int le), .val (.int mo), .val (.int va), .val (.int vb), .val (.int vd), .val (.ref cc), .val (.ref dd), .val (.ref ee), .val (.int (1 : Int32)), .unset, .unset] [(.int (1 : Int32))])) _
        refine XS.goto X55.here hx rfl (pc0 := 199) (pc' := 203) rfl (hb hby at_199) (by decide) (by decide) ?_
        show Steps p.tables e below (T55.setTop (mkF m 203 #[.val (.int p0), .val (.int p1), .val (.int p2), .val (.int p3), .val (.int md), .val (.int le), .val (.int mo), .val (.int va), .val (.int vb), .val (.int vd), .val (.ref cc), .val (.ref dd), .val (.ref ee), .val (.int (1 : Int32)), .unset, .unset] [(.int (1 : Int32))])) _
        refine XS.istore X55.here hx rfl (hb hby at_203) rfl (l' := #[.val (.int p0), .val (.int p1), .val (.int p2), .val (.int p3), .val (.int md), .val (.int le), .val (.int mo), .val (.int va), .val (.int vb), .val (.int vd), .val (.ref cc), .val (.ref dd), .val (.ref ee), .val (.int (1 : Int32)), .unset, .unset]) rfl ?_
        show Steps p.tables e below (T55.setTop (mkF m 205 #[.val (.int p0), .val (.int p1), .val (.int p2), .val (.int p3), .val (.int md), .val (.int le), .val (.int mo), .val (.int va), .val (.int vb), .val (.int vd), .val (.ref cc), .val (.ref dd), .val (.ref ee), .val (.int (1 : Int32)), .unset, .unset] [])) _
        exact κ)
      exact ⟨(), pre60⟩
  have pre61 := fun τ (κ : Steps p.tables e below (T55.setTop (mkF m 207 #[.val (.int p0), .val (.int p1), .val (.int p2), .val (.int p3), .val (.int md), .val (.int le), .val (.int mo), .val (.int va), .val (.int vb), .val (.int vd), .val (.ref cc), .val (.ref dd), .val (.ref ee), .val (.int (1 : Int32)), .unset, .unset] [(.int vb)])) τ) => pre58 τ (by
    refine XS.iload X55.here hx rfl (hb hby at_205) rfl ?_
    show Steps p.tables e below (T55.setTop (mkF m 207 #[.val (.int p0), .val (.int p1), .val (.int p2), .val (.int p3), .val (.int md), .val (.int le), .val (.int mo), .val (.int va), .val (.int vb), .val (.int vd), .val (.ref cc), .val (.ref dd), .val (.ref ee), .val (.int (1 : Int32)), .unset, .unset] [(.int vb)])) _
    exact κ)
  obtain ⟨T62, h62, lo62, sb, X62, e62, N62, Z62, E_cc_62, F_oldest_cc_62, F_newest_cc_62, F_first_cc_62, F_runs_cc_62, F_clock_cc_62, F_starting_cc_62, F_least_cc_62, F_most_cc_62, V_o_cc_62, V_w_cc_62, E_dd_62, F_oldest_dd_62, F_newest_dd_62, F_first_dd_62, F_runs_dd_62, F_clock_dd_62, F_starting_dd_62, F_least_dd_62, F_most_dd_62, V_o_dd_62, V_w_dd_62, E_ee_62, F_oldest_ee_62, F_newest_ee_62, F_first_ee_62, F_runs_ee_62, F_clock_ee_62, F_starting_ee_62, F_least_ee_62, F_most_ee_62, V_o_ee_62, V_w_ee_62, hsb, pre62⟩ : ∃ (T62 : State) (h62 : Heap) (lo62 : List Loc) (sb : Int32), Stand p l e room_1 s m #[(.int p0), (.int p1), (.int p2), (.int p3)] below meth c T62 lo62 (9) (48) ∧ T62.heap = h62 ∧ Fr n0 lo62 ∧ n0 ≤ h62.size ∧ (Exa Z h62 cc "com/example/fettle/fettle/regex/Counts") ∧ (Fld Z h62 cc "com/example/fettle/fettle/regex/Counts" "oldest" "[I" (.ref occ)) ∧ (Fld Z h62 cc "com/example/fettle/fettle/regex/Counts" "newest" "[I" (.ref xcc)) ∧ (Fld Z h62 cc "com/example/fettle/fettle/regex/Counts" "first" "I" (.int 0)) ∧ (Fld Z h62 cc "com/example/fettle/fettle/regex/Counts" "runs" "I" (.int 0)) ∧ (Fld Z h62 cc "com/example/fettle/fettle/regex/Counts" "clock" "I" (.int 0)) ∧ (Fld Z h62 cc "com/example/fettle/fettle/regex/Counts" "starting" "Z" (.int sb)) ∧ (Fld Z h62 cc "com/example/fettle/fettle/regex/Counts" "least" "I" (.int le)) ∧ (Fld Z h62 cc "com/example/fettle/fettle/regex/Counts" "most" "I" (.int mo)) ∧ (Arv Z h62 occ kocc .int (4 : Int32) [(.int (0 : Int32)), (.int (0 : Int32)), (.int (0 : Int32)), (.int (0 : Int32))] (.int (0 : Int32))) ∧ (Arv Z h62 xcc kxcc .int (4 : Int32) [(.int (0 : Int32)), (.int (0 : Int32)), (.int (0 : Int32)), (.int (0 : Int32))] (.int (0 : Int32))) ∧ (Exa Z h62 dd "com/example/fettle/fettle/regex/Counts") ∧ (Fld Z h62 dd "com/example/fettle/fettle/regex/Counts" "oldest" "[I" (.ref odd)) ∧ (Fld Z h62 dd "com/example/fettle/fettle/regex/Counts" "newest" "[I" (.ref xdd)) ∧ (Fld Z h62 dd "com/example/fettle/fettle/regex/Counts" "first" "I" (.int 0)) ∧ (Fld Z h62 dd "com/example/fettle/fettle/regex/Counts" "runs" "I" (.int 0)) ∧ (Fld Z h62 dd "com/example/fettle/fettle/regex/Counts" "clock" "I" (.int 0)) ∧ (Fld Z h62 dd "com/example/fettle/fettle/regex/Counts" "starting" "Z" (.int 0)) ∧ (Fld Z h62 dd "com/example/fettle/fettle/regex/Counts" "least" "I" (.int le)) ∧ (Fld Z h62 dd "com/example/fettle/fettle/regex/Counts" "most" "I" (.int mo)) ∧ (Arv Z h62 odd kodd .int (4 : Int32) [(.int (0 : Int32)), (.int (0 : Int32)), (.int (0 : Int32)), (.int (0 : Int32))] (.int (0 : Int32))) ∧ (Arv Z h62 xdd kxdd .int (4 : Int32) [(.int (0 : Int32)), (.int (0 : Int32)), (.int (0 : Int32)), (.int (0 : Int32))] (.int (0 : Int32))) ∧ (Exa Z h62 ee "com/example/fettle/fettle/regex/Counts") ∧ (Fld Z h62 ee "com/example/fettle/fettle/regex/Counts" "oldest" "[I" (.ref oee)) ∧ (Fld Z h62 ee "com/example/fettle/fettle/regex/Counts" "newest" "[I" (.ref xee)) ∧ (Fld Z h62 ee "com/example/fettle/fettle/regex/Counts" "first" "I" (.int 0)) ∧ (Fld Z h62 ee "com/example/fettle/fettle/regex/Counts" "runs" "I" (.int 0)) ∧ (Fld Z h62 ee "com/example/fettle/fettle/regex/Counts" "clock" "I" (.int 0)) ∧ (Fld Z h62 ee "com/example/fettle/fettle/regex/Counts" "starting" "Z" (.int 0)) ∧ (Fld Z h62 ee "com/example/fettle/fettle/regex/Counts" "least" "I" (.int le)) ∧ (Fld Z h62 ee "com/example/fettle/fettle/regex/Counts" "most" "I" (.int mo)) ∧ (Arv Z h62 oee koee .int (4 : Int32) [(.int (0 : Int32)), (.int (0 : Int32)), (.int (0 : Int32)), (.int (0 : Int32))] (.int (0 : Int32))) ∧ (Arv Z h62 xee kxee .int (4 : Int32) [(.int (0 : Int32)), (.int (0 : Int32)), (.int (0 : Int32)), (.int (0 : Int32))] (.int (0 : Int32))) ∧ ((vb = 0 ∧ sb = sa) ∨ (¬ vb = 0 ∧ sb = 0)) ∧ ∀ τ, Steps p.tables e below (T62.setTop (mkF m 215 #[.val (.int p0), .val (.int p1), .val (.int p2), .val (.int p3), .val (.int md), .val (.int le), .val (.int mo), .val (.int va), .val (.int vb), .val (.int vd), .val (.ref cc), .val (.ref dd), .val (.ref ee), .val (.int (1 : Int32)), .unset, .unset] [])) τ → Steps p.tables e below (s₁.setTop (entryFrame m #[(.int p0), (.int p1), (.int p2), (.int p3)] maxLocals)) τ := by
    by_cases qq : vb = (0 : Int32)
    · have pre63 := fun τ (κ : Steps p.tables e below (T55.setTop (mkF m 215 #[.val (.int p0), .val (.int p1), .val (.int p2), .val (.int p3), .val (.int md), .val (.int le), .val (.int mo), .val (.int va), .val (.int vb), .val (.int vd), .val (.ref cc), .val (.ref dd), .val (.ref ee), .val (.int (1 : Int32)), .unset, .unset] [])) τ) => pre61 τ (by
        refine XS.ifYes X55.here hx rfl (pc0 := 207) (pc' := 215) rfl (hb hby at_207) rfl ((if0 _ _).trans (teq qq).1) (by decide) (by decide) ?_
        show Steps p.tables e below (T55.setTop (mkF m 215 #[.val (.int p0), .val (.int p1), .val (.int p2), .val (.int p3), .val (.int md), .val (.int le), .val (.int mo), .val (.int va), .val (.int vb), .val (.int vd), .val (.ref cc), .val (.ref dd), .val (.ref ee), .val (.int (1 : Int32)), .unset, .unset] [])) _
        exact κ)
      exact ⟨T55, T55.heap, _, _, X55, rfl, N55, Z55, E_cc_55, F_oldest_cc_55, F_newest_cc_55, F_first_cc_55, F_runs_cc_55, F_clock_cc_55, F_starting_cc_55, F_least_cc_55, F_most_cc_55, V_o_cc_55, V_w_cc_55, E_dd_55, F_oldest_dd_55, F_newest_dd_55, F_first_dd_55, F_runs_dd_55, F_clock_dd_55, F_starting_dd_55, F_least_dd_55, F_most_dd_55, V_o_dd_55, V_w_dd_55, E_ee_55, F_oldest_ee_55, F_newest_ee_55, F_first_ee_55, F_runs_ee_55, F_clock_ee_55, F_starting_ee_55, F_least_ee_55, F_most_ee_55, V_o_ee_55, V_w_ee_55, Or.inl ⟨qq, rfl⟩, pre63⟩
    · have pre64 := fun τ (κ : Steps p.tables e below (T55.setTop (mkF m 212 #[.val (.int p0), .val (.int p1), .val (.int p2), .val (.int p3), .val (.int md), .val (.int le), .val (.int mo), .val (.int va), .val (.int vb), .val (.int vd), .val (.ref cc), .val (.ref dd), .val (.ref ee), .val (.int (1 : Int32)), .unset, .unset] [(.ref cc)])) τ) => pre61 τ (by
        refine XS.ifNo X55.here hx rfl (hb hby at_207) rfl ((if0 _ _).trans (feq qq).1) ?_
        show Steps p.tables e below (T55.setTop (mkF m 210 #[.val (.int p0), .val (.int p1), .val (.int p2), .val (.int p3), .val (.int md), .val (.int le), .val (.int mo), .val (.int va), .val (.int vb), .val (.int vd), .val (.ref cc), .val (.ref dd), .val (.ref ee), .val (.int (1 : Int32)), .unset, .unset] [])) _
        refine XS.aload X55.here hx rfl (hb hby at_210) rfl rfl ?_
        show Steps p.tables e below (T55.setTop (mkF m 212 #[.val (.int p0), .val (.int p1), .val (.int p2), .val (.int p3), .val (.int md), .val (.int le), .val (.int mo), .val (.int va), .val (.int vb), .val (.int vd), .val (.ref cc), .val (.ref dd), .val (.ref ee), .val (.int (1 : Int32)), .unset, .unset] [(.ref cc)])) _
        exact κ)
      obtain ⟨cq65, kq65, q65a, q65b, q65c⟩ := isOf hZ rfl E_cc_55
      obtain ⟨_, _, ⟨T65, L65, k65, n65⟩, -, X65, ⟨Lc65, hQ65, l65, y65, z65⟩, st65⟩ := X55.virtualBack hx (y := (⟨"com/example/fettle/fettle/regex/Counts", "clear", "()V"⟩ : MethodName)) (z := (⟨"com/example/fettle/fettle/regex/Counts", "clear", "()V"⟩ : MethodName)) hown (mvT hZ (hw _ (List.mem_of_getElem? (i := 78) rfl))) (mvT hZ (hw _ (List.mem_of_getElem? (i := 79) rfl))) (notFace_of_selects (args := #[]) (mvT hZ (hw _ (List.mem_of_getElem? (i := 81) rfl)))) (mvT hZ (hw _ (List.mem_of_getElem? (i := 81) rfl))) (mvT hZ (hw _ (List.mem_of_getElem? (i := 80) rfl))) (by decide) (backOf (W := 0) (rm15 l Z a0 hw [] cc occ xcc kocc kxcc 0 0 0 sa le mo [(.int (0 : Int32)), (.int (0 : Int32)), (.int (0 : Int32)), (.int (0 : Int32))] [(.int (0 : Int32)), (.int (0 : Int32)), (.int (0 : Int32)), (.int (0 : Int32))] T55.heap n0 Z55 ⟨E_cc_55, F_oldest_cc_55, F_newest_cc_55, F_first_cc_55, F_runs_cc_55, F_clock_cc_55, F_starting_cc_55, F_least_cc_55, F_most_cc_55, V_o_cc_55, V_w_cc_55⟩ ne_cc_occ ne_cc_xcc nox31 g_cc) hZ (hw _ (List.mem_of_getElem? (i := 82) rfl)) (hw _ (List.mem_of_getElem? (i := 7) rfl)) (by decide) (by decide)) q65a q65c (g := (mkF m 212 #[.val (.int p0), .val (.int p1), .val (.int p2), .val (.int p3), .val (.int md), .val (.int le), .val (.int mo), .val (.int va), .val (.int vb), .val (.int vd), .val (.ref cc), .val (.ref dd), .val (.ref ee), .val (.int (1 : Int32)), .unset, .unset] [(.ref cc)])) rfl (by rw [hml]; rfl) (Steps.refl _) (argsL := []) (rest := []) (lenOf pd_4 rfl) rfl (by show 2 * 0 + _ ≤ _; exact Nat.le_of_eq rfl) (hb hby at_212) (fun _ _ => ⟨rfl, rfl, (by decide : 9 + 0 ≤ _), (by decide : 48 + 0 ≤ _)⟩)
      dsimp only [Pt.U, Pt.locs, Pt.cells, Pt.slots] at X65 l65 y65 z65 st65 hQ65
      subst l65 y65 z65
      obtain ⟨rfl, Nq65, K65, P65⟩ := hQ65
      have E_cc_65 : Exa Z T65.heap cc "com/example/fettle/fettle/regex/Counts" := E_cc_55.keep K65
      have V_o_cc_65 : Arv Z T65.heap occ kocc .int (4 : Int32) [(.int (0 : Int32)), (.int (0 : Int32)), (.int (0 : Int32)), (.int (0 : Int32))] (.int (0 : Int32)) := V_o_cc_55.keep K65 (ninS (Ne.symm ne_cc_occ) nin0)
      have V_w_cc_65 : Arv Z T65.heap xcc kxcc .int (4 : Int32) [(.int (0 : Int32)), (.int (0 : Int32)), (.int (0 : Int32)), (.int (0 : Int32))] (.int (0 : Int32)) := V_w_cc_55.keep K65 (ninS (Ne.symm ne_cc_xcc) nin0)
      have E_dd_65 : Exa Z T65.heap dd "com/example/fettle/fettle/regex/Counts" := E_dd_55.keep K65
      have F_oldest_dd_65 : Fld Z T65.heap dd "com/example/fettle/fettle/regex/Counts" "oldest" "[I" (.ref odd) := F_oldest_dd_55.keep K65 (ninS (Ne.symm ne_cc_dd) nin0)
      have F_newest_dd_65 : Fld Z T65.heap dd "com/example/fettle/fettle/regex/Counts" "newest" "[I" (.ref xdd) := F_newest_dd_55.keep K65 (ninS (Ne.symm ne_cc_dd) nin0)
      have F_first_dd_65 : Fld Z T65.heap dd "com/example/fettle/fettle/regex/Counts" "first" "I" (.int 0) := F_first_dd_55.keep K65 (ninS (Ne.symm ne_cc_dd) nin0)
      have F_runs_dd_65 : Fld Z T65.heap dd "com/example/fettle/fettle/regex/Counts" "runs" "I" (.int 0) := F_runs_dd_55.keep K65 (ninS (Ne.symm ne_cc_dd) nin0)
      have F_clock_dd_65 : Fld Z T65.heap dd "com/example/fettle/fettle/regex/Counts" "clock" "I" (.int 0) := F_clock_dd_55.keep K65 (ninS (Ne.symm ne_cc_dd) nin0)
      have F_starting_dd_65 : Fld Z T65.heap dd "com/example/fettle/fettle/regex/Counts" "starting" "Z" (.int 0) := F_starting_dd_55.keep K65 (ninS (Ne.symm ne_cc_dd) nin0)
      have F_least_dd_65 : Fld Z T65.heap dd "com/example/fettle/fettle/regex/Counts" "least" "I" (.int le) := F_least_dd_55.keep K65 (ninS (Ne.symm ne_cc_dd) nin0)
      have F_most_dd_65 : Fld Z T65.heap dd "com/example/fettle/fettle/regex/Counts" "most" "I" (.int mo) := F_most_dd_55.keep K65 (ninS (Ne.symm ne_cc_dd) nin0)
      have V_o_dd_65 : Arv Z T65.heap odd kodd .int (4 : Int32) [(.int (0 : Int32)), (.int (0 : Int32)), (.int (0 : Int32)), (.int (0 : Int32))] (.int (0 : Int32)) := V_o_dd_55.keep K65 (ninS (Ne.symm ne_cc_odd) nin0)
      have V_w_dd_65 : Arv Z T65.heap xdd kxdd .int (4 : Int32) [(.int (0 : Int32)), (.int (0 : Int32)), (.int (0 : Int32)), (.int (0 : Int32))] (.int (0 : Int32)) := V_w_dd_55.keep K65 (ninS (Ne.symm ne_cc_xdd) nin0)
      have E_ee_65 : Exa Z T65.heap ee "com/example/fettle/fettle/regex/Counts" := E_ee_55.keep K65
      have F_oldest_ee_65 : Fld Z T65.heap ee "com/example/fettle/fettle/regex/Counts" "oldest" "[I" (.ref oee) := F_oldest_ee_55.keep K65 (ninS (Ne.symm ne_cc_ee) nin0)
      have F_newest_ee_65 : Fld Z T65.heap ee "com/example/fettle/fettle/regex/Counts" "newest" "[I" (.ref xee) := F_newest_ee_55.keep K65 (ninS (Ne.symm ne_cc_ee) nin0)
      have F_first_ee_65 : Fld Z T65.heap ee "com/example/fettle/fettle/regex/Counts" "first" "I" (.int 0) := F_first_ee_55.keep K65 (ninS (Ne.symm ne_cc_ee) nin0)
      have F_runs_ee_65 : Fld Z T65.heap ee "com/example/fettle/fettle/regex/Counts" "runs" "I" (.int 0) := F_runs_ee_55.keep K65 (ninS (Ne.symm ne_cc_ee) nin0)
      have F_clock_ee_65 : Fld Z T65.heap ee "com/example/fettle/fettle/regex/Counts" "clock" "I" (.int 0) := F_clock_ee_55.keep K65 (ninS (Ne.symm ne_cc_ee) nin0)
      have F_starting_ee_65 : Fld Z T65.heap ee "com/example/fettle/fettle/regex/Counts" "starting" "Z" (.int 0) := F_starting_ee_55.keep K65 (ninS (Ne.symm ne_cc_ee) nin0)
      have F_least_ee_65 : Fld Z T65.heap ee "com/example/fettle/fettle/regex/Counts" "least" "I" (.int le) := F_least_ee_55.keep K65 (ninS (Ne.symm ne_cc_ee) nin0)
      have F_most_ee_65 : Fld Z T65.heap ee "com/example/fettle/fettle/regex/Counts" "most" "I" (.int mo) := F_most_ee_55.keep K65 (ninS (Ne.symm ne_cc_ee) nin0)
      have V_o_ee_65 : Arv Z T65.heap oee koee .int (4 : Int32) [(.int (0 : Int32)), (.int (0 : Int32)), (.int (0 : Int32)), (.int (0 : Int32))] (.int (0 : Int32)) := V_o_ee_55.keep K65 (ninS (Ne.symm ne_cc_oee) nin0)
      have V_w_ee_65 : Arv Z T65.heap xee kxee .int (4 : Int32) [(.int (0 : Int32)), (.int (0 : Int32)), (.int (0 : Int32)), (.int (0 : Int32))] (.int (0 : Int32)) := V_w_ee_55.keep K65 (ninS (Ne.symm ne_cc_xee) nin0)
      have Z65 : n0 ≤ T65.heap.size := Nat.le_trans Z55 K65.1
      have N65 := Fr.app N55 Nq65
      have pre66 := fun τ (κ : Steps p.tables e below (T65.setTop (mkF m 215 #[.val (.int p0), .val (.int p1), .val (.int p2), .val (.int p3), .val (.int md), .val (.int le), .val (.int mo), .val (.int va), .val (.int vb), .val (.int vd), .val (.ref cc), .val (.ref dd), .val (.ref ee), .val (.int (1 : Int32)), .unset, .unset] [])) τ) => pre64 τ (st65.trans κ)
      obtain ⟨E_cc_65, F_oldest_cc_65, F_newest_cc_65, F_first_cc_65, F_runs_cc_65, F_clock_cc_65, F_starting_cc_65, F_least_cc_65, F_most_cc_65, V_o_cc_65, V_w_cc_65⟩ := P65
      exact ⟨T65, T65.heap, _, _, X65, rfl, N65, Z65, E_cc_65, F_oldest_cc_65, F_newest_cc_65, F_first_cc_65, F_runs_cc_65, F_clock_cc_65, F_starting_cc_65, F_least_cc_65, F_most_cc_65, V_o_cc_65, V_w_cc_65, E_dd_65, F_oldest_dd_65, F_newest_dd_65, F_first_dd_65, F_runs_dd_65, F_clock_dd_65, F_starting_dd_65, F_least_dd_65, F_most_dd_65, V_o_dd_65, V_w_dd_65, E_ee_65, F_oldest_ee_65, F_newest_ee_65, F_first_ee_65, F_runs_ee_65, F_clock_ee_65, F_starting_ee_65, F_least_ee_65, F_most_ee_65, V_o_ee_65, V_w_ee_65, Or.inr ⟨qq, rfl⟩, pre66⟩
  have pre67 := fun τ (κ : Steps p.tables e below (T62.setTop (mkF m 222 #[.val (.int p0), .val (.int p1), .val (.int p2), .val (.int p3), .val (.int md), .val (.int le), .val (.int mo), .val (.int va), .val (.int vb), .val (.int vd), .val (.ref cc), .val (.ref dd), .val (.ref ee), .val (.int (1 : Int32)), .unset, .unset] [(.ref cc)])) τ) => pre62 τ (by
    refine XS.iload X62.here hx rfl (hb hby at_215) rfl ?_
    show Steps p.tables e below (T62.setTop (mkF m 217 #[.val (.int p0), .val (.int p1), .val (.int p2), .val (.int p3), .val (.int md), .val (.int le), .val (.int mo), .val (.int va), .val (.int vb), .val (.int vd), .val (.ref cc), .val (.ref dd), .val (.ref ee), .val (.int (1 : Int32)), .unset, .unset] [(.int (1 : Int32))])) _
    refine XS.ifNo X62.here hx rfl (hb hby at_217) rfl ((if0 _ _).trans (feq (by decide)).1) ?_
    show Steps p.tables e below (T62.setTop (mkF m 220 #[.val (.int p0), .val (.int p1), .val (.int p2), .val (.int p3), .val (.int md), .val (.int le), .val (.int mo), .val (.int va), .val (.int vb), .val (.int vd), .val (.ref cc), .val (.ref dd), .val (.ref ee), .val (.int (1 : Int32)), .unset, .unset] [])) _
    refine XS.aload X62.here hx rfl (hb hby at_220) rfl rfl ?_
    show Steps p.tables e below (T62.setTop (mkF m 222 #[.val (.int p0), .val (.int p1), .val (.int p2), .val (.int p3), .val (.int md), .val (.int le), .val (.int mo), .val (.int va), .val (.int vb), .val (.int vd), .val (.ref cc), .val (.ref dd), .val (.ref ee), .val (.int (1 : Int32)), .unset, .unset] [(.ref cc)])) _
    exact κ)
  obtain ⟨cq68, kq68, q68a, q68b, q68c⟩ := isOf hZ e62 E_cc_62
  obtain ⟨_, _, ⟨T68, L68, k68, n68⟩, -, X68, ⟨Lc68, hQ68, l68, y68, z68⟩, st68⟩ := X62.virtualBack hx (y := (⟨"com/example/fettle/fettle/regex/Counts", "isEmpty", "()Z"⟩ : MethodName)) (z := (⟨"com/example/fettle/fettle/regex/Counts", "isEmpty", "()Z"⟩ : MethodName)) hown (mvT hZ (hw _ (List.mem_of_getElem? (i := 23) rfl))) (mvT hZ (hw _ (List.mem_of_getElem? (i := 24) rfl))) (notFace_of_selects (args := #[]) (mvT hZ (hw _ (List.mem_of_getElem? (i := 26) rfl)))) (mvT hZ (hw _ (List.mem_of_getElem? (i := 26) rfl))) (mvT hZ (hw _ (List.mem_of_getElem? (i := 25) rfl))) (by decide) (backOf (W := 0) (rm4 l Z a0 hw [] cc 0 sb h62 n0 Z62 F_runs_cc_62 F_starting_cc_62) hZ (hw _ (List.mem_of_getElem? (i := 27) rfl)) (hw _ (List.mem_of_getElem? (i := 7) rfl)) (by decide) (by decide)) q68a q68c (g := (mkF m 222 #[.val (.int p0), .val (.int p1), .val (.int p2), .val (.int p3), .val (.int md), .val (.int le), .val (.int mo), .val (.int va), .val (.int vb), .val (.int vd), .val (.ref cc), .val (.ref dd), .val (.ref ee), .val (.int (1 : Int32)), .unset, .unset] [(.ref cc)])) rfl (by rw [hml]; rfl) (Steps.refl _) (argsL := []) (rest := []) (lenOf pd_6 rfl) rfl (by show 2 * 0 + _ ≤ _; exact Nat.le_of_eq rfl) (hb hby at_222) (fun _ _ => ⟨rfl, e62, (by decide : 9 + 0 ≤ _), (by decide : 48 + 0 ≤ _)⟩)
  dsimp only [Pt.U, Pt.locs, Pt.cells, Pt.slots] at X68 l68 y68 z68 st68 hQ68
  subst l68 y68 z68
  obtain ⟨rfl, Nq68, hh68⟩ := hQ68
  have E_cc_68 : Exa Z T68.heap cc "com/example/fettle/fettle/regex/Counts" := by rw [hh68]; exact E_cc_62
  have F_oldest_cc_68 : Fld Z T68.heap cc "com/example/fettle/fettle/regex/Counts" "oldest" "[I" (.ref occ) := by rw [hh68]; exact F_oldest_cc_62
  have F_newest_cc_68 : Fld Z T68.heap cc "com/example/fettle/fettle/regex/Counts" "newest" "[I" (.ref xcc) := by rw [hh68]; exact F_newest_cc_62
  have F_first_cc_68 : Fld Z T68.heap cc "com/example/fettle/fettle/regex/Counts" "first" "I" (.int 0) := by rw [hh68]; exact F_first_cc_62
  have F_runs_cc_68 : Fld Z T68.heap cc "com/example/fettle/fettle/regex/Counts" "runs" "I" (.int 0) := by rw [hh68]; exact F_runs_cc_62
  have F_clock_cc_68 : Fld Z T68.heap cc "com/example/fettle/fettle/regex/Counts" "clock" "I" (.int 0) := by rw [hh68]; exact F_clock_cc_62
  have F_starting_cc_68 : Fld Z T68.heap cc "com/example/fettle/fettle/regex/Counts" "starting" "Z" (.int sb) := by rw [hh68]; exact F_starting_cc_62
  have F_least_cc_68 : Fld Z T68.heap cc "com/example/fettle/fettle/regex/Counts" "least" "I" (.int le) := by rw [hh68]; exact F_least_cc_62
  have F_most_cc_68 : Fld Z T68.heap cc "com/example/fettle/fettle/regex/Counts" "most" "I" (.int mo) := by rw [hh68]; exact F_most_cc_62
  have V_o_cc_68 : Arv Z T68.heap occ kocc .int (4 : Int32) [(.int (0 : Int32)), (.int (0 : Int32)), (.int (0 : Int32)), (.int (0 : Int32))] (.int (0 : Int32)) := by rw [hh68]; exact V_o_cc_62
  have V_w_cc_68 : Arv Z T68.heap xcc kxcc .int (4 : Int32) [(.int (0 : Int32)), (.int (0 : Int32)), (.int (0 : Int32)), (.int (0 : Int32))] (.int (0 : Int32)) := by rw [hh68]; exact V_w_cc_62
  have E_dd_68 : Exa Z T68.heap dd "com/example/fettle/fettle/regex/Counts" := by rw [hh68]; exact E_dd_62
  have F_oldest_dd_68 : Fld Z T68.heap dd "com/example/fettle/fettle/regex/Counts" "oldest" "[I" (.ref odd) := by rw [hh68]; exact F_oldest_dd_62
  have F_newest_dd_68 : Fld Z T68.heap dd "com/example/fettle/fettle/regex/Counts" "newest" "[I" (.ref xdd) := by rw [hh68]; exact F_newest_dd_62
  have F_first_dd_68 : Fld Z T68.heap dd "com/example/fettle/fettle/regex/Counts" "first" "I" (.int 0) := by rw [hh68]; exact F_first_dd_62
  have F_runs_dd_68 : Fld Z T68.heap dd "com/example/fettle/fettle/regex/Counts" "runs" "I" (.int 0) := by rw [hh68]; exact F_runs_dd_62
  have F_clock_dd_68 : Fld Z T68.heap dd "com/example/fettle/fettle/regex/Counts" "clock" "I" (.int 0) := by rw [hh68]; exact F_clock_dd_62
  have F_starting_dd_68 : Fld Z T68.heap dd "com/example/fettle/fettle/regex/Counts" "starting" "Z" (.int 0) := by rw [hh68]; exact F_starting_dd_62
  have F_least_dd_68 : Fld Z T68.heap dd "com/example/fettle/fettle/regex/Counts" "least" "I" (.int le) := by rw [hh68]; exact F_least_dd_62
  have F_most_dd_68 : Fld Z T68.heap dd "com/example/fettle/fettle/regex/Counts" "most" "I" (.int mo) := by rw [hh68]; exact F_most_dd_62
  have V_o_dd_68 : Arv Z T68.heap odd kodd .int (4 : Int32) [(.int (0 : Int32)), (.int (0 : Int32)), (.int (0 : Int32)), (.int (0 : Int32))] (.int (0 : Int32)) := by rw [hh68]; exact V_o_dd_62
  have V_w_dd_68 : Arv Z T68.heap xdd kxdd .int (4 : Int32) [(.int (0 : Int32)), (.int (0 : Int32)), (.int (0 : Int32)), (.int (0 : Int32))] (.int (0 : Int32)) := by rw [hh68]; exact V_w_dd_62
  have E_ee_68 : Exa Z T68.heap ee "com/example/fettle/fettle/regex/Counts" := by rw [hh68]; exact E_ee_62
  have F_oldest_ee_68 : Fld Z T68.heap ee "com/example/fettle/fettle/regex/Counts" "oldest" "[I" (.ref oee) := by rw [hh68]; exact F_oldest_ee_62
  have F_newest_ee_68 : Fld Z T68.heap ee "com/example/fettle/fettle/regex/Counts" "newest" "[I" (.ref xee) := by rw [hh68]; exact F_newest_ee_62
  have F_first_ee_68 : Fld Z T68.heap ee "com/example/fettle/fettle/regex/Counts" "first" "I" (.int 0) := by rw [hh68]; exact F_first_ee_62
  have F_runs_ee_68 : Fld Z T68.heap ee "com/example/fettle/fettle/regex/Counts" "runs" "I" (.int 0) := by rw [hh68]; exact F_runs_ee_62
  have F_clock_ee_68 : Fld Z T68.heap ee "com/example/fettle/fettle/regex/Counts" "clock" "I" (.int 0) := by rw [hh68]; exact F_clock_ee_62
  have F_starting_ee_68 : Fld Z T68.heap ee "com/example/fettle/fettle/regex/Counts" "starting" "Z" (.int 0) := by rw [hh68]; exact F_starting_ee_62
  have F_least_ee_68 : Fld Z T68.heap ee "com/example/fettle/fettle/regex/Counts" "least" "I" (.int le) := by rw [hh68]; exact F_least_ee_62
  have F_most_ee_68 : Fld Z T68.heap ee "com/example/fettle/fettle/regex/Counts" "most" "I" (.int mo) := by rw [hh68]; exact F_most_ee_62
  have V_o_ee_68 : Arv Z T68.heap oee koee .int (4 : Int32) [(.int (0 : Int32)), (.int (0 : Int32)), (.int (0 : Int32)), (.int (0 : Int32))] (.int (0 : Int32)) := by rw [hh68]; exact V_o_ee_62
  have V_w_ee_68 : Arv Z T68.heap xee kxee .int (4 : Int32) [(.int (0 : Int32)), (.int (0 : Int32)), (.int (0 : Int32)), (.int (0 : Int32))] (.int (0 : Int32)) := by rw [hh68]; exact V_w_ee_62
  have Z68 : n0 ≤ T68.heap.size := by rw [hh68]; exact Z62
  have N68 := Fr.app N62 Nq68
  have pre69 := fun τ (κ : Steps p.tables e below (T68.setTop (mkF m 225 #[.val (.int p0), .val (.int p1), .val (.int p2), .val (.int p3), .val (.int md), .val (.int le), .val (.int mo), .val (.int va), .val (.int vb), .val (.int vd), .val (.ref cc), .val (.ref dd), .val (.ref ee), .val (.int (1 : Int32)), .unset, .unset] [(.int (own_emp 0 sb))])) τ) => pre67 τ (st68.trans κ)
  have pre70 := fun τ (κ : Steps p.tables e below (T68.setTop (mkF m 227 #[.val (.int p0), .val (.int p1), .val (.int p2), .val (.int p3), .val (.int md), .val (.int le), .val (.int mo), .val (.int va), .val (.int vb), .val (.int vd), .val (.ref cc), .val (.ref dd), .val (.ref ee), .val (.int (1 : Int32)), .unset, .unset] [(.int va), (.int (own_emp 0 sb))])) τ) => pre69 τ (by
    refine XS.iload X68.here hx rfl (hb hby at_225) rfl ?_
    show Steps p.tables e below (T68.setTop (mkF m 227 #[.val (.int p0), .val (.int p1), .val (.int p2), .val (.int p3), .val (.int md), .val (.int le), .val (.int mo), .val (.int va), .val (.int vb), .val (.int vd), .val (.ref cc), .val (.ref dd), .val (.ref ee), .val (.int (1 : Int32)), .unset, .unset] [(.int va), (.int (own_emp 0 sb))])) _
    exact κ)
  obtain ⟨-, pre71⟩ : ∃ _u : Unit, ∀ τ, Steps p.tables e below (T68.setTop (mkF m 250 #[.val (.int p0), .val (.int p1), .val (.int p2), .val (.int p3), .val (.int md), .val (.int le), .val (.int mo), .val (.int va), .val (.int vb), .val (.int vd), .val (.ref cc), .val (.ref dd), .val (.ref ee), .val (.int (1 : Int32)), .unset, .unset] [])) τ → Steps p.tables e below (s₁.setTop (entryFrame m #[(.int p0), (.int p1), (.int p2), (.int p3)] maxLocals)) τ := by
    by_cases qq : va = (0 : Int32)
    · have hs1 := (hsa.resolve_right fun z => z.1 qq).2
      have pre72 := fun τ (κ : Steps p.tables e below (T68.setTop (mkF m 240 #[.val (.int p0), .val (.int p1), .val (.int p2), .val (.int p3), .val (.int md), .val (.int le), .val (.int mo), .val (.int va), .val (.int vb), .val (.int vd), .val (.ref cc), .val (.ref dd), .val (.ref ee), .val (.int (1 : Int32)), .unset, .unset] [(.int (1 : Int32)), (.int (own_emp 0 sb))])) τ) => pre70 τ (by
        refine XS.ifYes X68.here hx rfl (pc0 := 227) (pc' := 235) rfl (hb hby at_227) rfl ((if0 _ _).trans (teq qq).1) (by decide) (by decide) ?_
        show Steps p.tables e below (T68.setTop (mkF m 235 #[.val (.int p0), .val (.int p1), .val (.int p2), .val (.int p3), .val (.int md), .val (.int le), .val (.int mo), .val (.int va), .val (.int vb), .val (.int vd), .val (.ref cc), .val (.ref dd), .val (.ref ee), .val (.int (1 : Int32)), .unset, .unset] [(.int (own_emp 0 sb))])) _
        refine XS.iconst X68.here hx rfl (hb hby at_235) ?_
        show Steps p.tables e below (T68.setTop (mkF m 236 #[.val (.int p0), .val (.int p1), .val (.int p2), .val (.int p3), .val (.int md), .val (.int le), .val (.int mo), .val (.int va), .val (.int vb), .val (.int vd), .val (.ref cc), .val (.ref dd), .val (.ref ee), .val (.int (1 : Int32)), .unset, .unset] [(.int (1 : Int32)), (.int (own_emp 0 sb))])) _
        refine XS.goto X68.here hx rfl (pc0 := 236) (pc' := 240) rfl (hb hby at_236) (by decide) (by decide) ?_
        show Steps p.tables e below (T68.setTop (mkF m 240 #[.val (.int p0), .val (.int p1), .val (.int p2), .val (.int p3), .val (.int md), .val (.int le), .val (.int mo), .val (.int va), .val (.int vb), .val (.int vd), .val (.ref cc), .val (.ref dd), .val (.ref ee), .val (.int (1 : Int32)), .unset, .unset] [(.int (1 : Int32)), (.int (own_emp 0 sb))])) _
        exact κ)
      have hs2 : own_emp 0 sb = 1 := by
        rcases hsb with ⟨-, z⟩ | ⟨-, z⟩
        · rw [z, hs1]; rfl
        · rw [z]; rfl
      have pre73 := fun τ (κ : Steps p.tables e below (T68.setTop (mkF m 250 #[.val (.int p0), .val (.int p1), .val (.int p2), .val (.int p3), .val (.int md), .val (.int le), .val (.int mo), .val (.int va), .val (.int vb), .val (.int vd), .val (.ref cc), .val (.ref dd), .val (.ref ee), .val (.int (1 : Int32)), .unset, .unset] [])) τ) => pre72 τ (by
        refine XS.icmpNo X68.here hx rfl (hb hby at_240) rfl (teq hs2).2 ?_
        show Steps p.tables e below (T68.setTop (mkF m 243 #[.val (.int p0), .val (.int p1), .val (.int p2), .val (.int p3), .val (.int md), .val (.int le), .val (.int mo), .val (.int va), .val (.int vb), .val (.int vd), .val (.ref cc), .val (.ref dd), .val (.ref ee), .val (.int (1 : Int32)), .unset, .unset] [])) _
        refine XS.iconst X68.here hx rfl (hb hby at_243) ?_
        show Steps p.tables e below (T68.setTop (mkF m 244 #[.val (.int p0), .val (.int p1), .val (.int p2), .val (.int p3), .val (.int md), .val (.int le), .val (.int mo), .val (.int va), .val (.int vb), .val (.int vd), .val (.ref cc), .val (.ref dd), .val (.ref ee), .val (.int (1 : Int32)), .unset, .unset] [(.int (1 : Int32))])) _
        refine XS.goto X68.here hx rfl (pc0 := 244) (pc' := 248) rfl (hb hby at_244) (by decide) (by decide) ?_
        show Steps p.tables e below (T68.setTop (mkF m 248 #[.val (.int p0), .val (.int p1), .val (.int p2), .val (.int p3), .val (.int md), .val (.int le), .val (.int mo), .val (.int va), .val (.int vb), .val (.int vd), .val (.ref cc), .val (.ref dd), .val (.ref ee), .val (.int (1 : Int32)), .unset, .unset] [(.int (1 : Int32))])) _
        refine XS.istore X68.here hx rfl (hb hby at_248) rfl (l' := #[.val (.int p0), .val (.int p1), .val (.int p2), .val (.int p3), .val (.int md), .val (.int le), .val (.int mo), .val (.int va), .val (.int vb), .val (.int vd), .val (.ref cc), .val (.ref dd), .val (.ref ee), .val (.int (1 : Int32)), .unset, .unset]) rfl ?_
        show Steps p.tables e below (T68.setTop (mkF m 250 #[.val (.int p0), .val (.int p1), .val (.int p2), .val (.int p3), .val (.int md), .val (.int le), .val (.int mo), .val (.int va), .val (.int vb), .val (.int vd), .val (.ref cc), .val (.ref dd), .val (.ref ee), .val (.int (1 : Int32)), .unset, .unset] [])) _
        exact κ)
      exact ⟨(), pre73⟩
    · have hs1 := (hsa.resolve_left fun z => qq z.1).2
      have pre74 := fun τ (κ : Steps p.tables e below (T68.setTop (mkF m 232 #[.val (.int p0), .val (.int p1), .val (.int p2), .val (.int p3), .val (.int md), .val (.int le), .val (.int mo), .val (.int va), .val (.int vb), .val (.int vd), .val (.ref cc), .val (.ref dd), .val (.ref ee), .val (.int (1 : Int32)), .unset, .unset] [(.int vb), (.int (own_emp 0 sb))])) τ) => pre70 τ (by
        refine XS.ifNo X68.here hx rfl (hb hby at_227) rfl ((if0 _ _).trans (feq qq).1) ?_
        show Steps p.tables e below (T68.setTop (mkF m 230 #[.val (.int p0), .val (.int p1), .val (.int p2), .val (.int p3), .val (.int md), .val (.int le), .val (.int mo), .val (.int va), .val (.int vb), .val (.int vd), .val (.ref cc), .val (.ref dd), .val (.ref ee), .val (.int (1 : Int32)), .unset, .unset] [(.int (own_emp 0 sb))])) _
        refine XS.iload X68.here hx rfl (hb hby at_230) rfl ?_
        show Steps p.tables e below (T68.setTop (mkF m 232 #[.val (.int p0), .val (.int p1), .val (.int p2), .val (.int p3), .val (.int md), .val (.int le), .val (.int mo), .val (.int va), .val (.int vb), .val (.int vd), .val (.ref cc), .val (.ref dd), .val (.ref ee), .val (.int (1 : Int32)), .unset, .unset] [(.int vb), (.int (own_emp 0 sb))])) _
        exact κ)
      by_cases q2 : vb = (0 : Int32)
      · have pre75 := fun τ (κ : Steps p.tables e below (T68.setTop (mkF m 250 #[.val (.int p0), .val (.int p1), .val (.int p2), .val (.int p3), .val (.int md), .val (.int le), .val (.int mo), .val (.int va), .val (.int vb), .val (.int vd), .val (.ref cc), .val (.ref dd), .val (.ref ee), .val (.int (1 : Int32)), .unset, .unset] [])) τ) => pre74 τ (by
          refine XS.ifYes X68.here hx rfl (pc0 := 232) (pc' := 239) rfl (hb hby at_232) rfl ((if0 _ _).trans (teq q2).1) (by decide) (by decide) ?_
          show Steps p.tables e below (T68.setTop (mkF m 239 #[.val (.int p0), .val (.int p1), .val (.int p2), .val (.int p3), .val (.int md), .val (.int le), .val (.int mo), .val (.int va), .val (.int vb), .val (.int vd), .val (.ref cc), .val (.ref dd), .val (.ref ee), .val (.int (1 : Int32)), .unset, .unset] [(.int (own_emp 0 sb))])) _
          refine XS.iconst X68.here hx rfl (hb hby at_239) ?_
          show Steps p.tables e below (T68.setTop (mkF m 240 #[.val (.int p0), .val (.int p1), .val (.int p2), .val (.int p3), .val (.int md), .val (.int le), .val (.int mo), .val (.int va), .val (.int vb), .val (.int vd), .val (.ref cc), .val (.ref dd), .val (.ref ee), .val (.int (1 : Int32)), .unset, .unset] [(.int (0 : Int32)), (.int (own_emp 0 sb))])) _
          refine XS.icmpNo X68.here hx rfl (hb hby at_240) rfl (teq (by rw [(hsb.resolve_right fun z => z.1 q2).2, hs1]; exact own_empS)).2 ?_
          show Steps p.tables e below (T68.setTop (mkF m 243 #[.val (.int p0), .val (.int p1), .val (.int p2), .val (.int p3), .val (.int md), .val (.int le), .val (.int mo), .val (.int va), .val (.int vb), .val (.int vd), .val (.ref cc), .val (.ref dd), .val (.ref ee), .val (.int (1 : Int32)), .unset, .unset] [])) _
          refine XS.iconst X68.here hx rfl (hb hby at_243) ?_
          show Steps p.tables e below (T68.setTop (mkF m 244 #[.val (.int p0), .val (.int p1), .val (.int p2), .val (.int p3), .val (.int md), .val (.int le), .val (.int mo), .val (.int va), .val (.int vb), .val (.int vd), .val (.ref cc), .val (.ref dd), .val (.ref ee), .val (.int (1 : Int32)), .unset, .unset] [(.int (1 : Int32))])) _
          refine XS.goto X68.here hx rfl (pc0 := 244) (pc' := 248) rfl (hb hby at_244) (by decide) (by decide) ?_
          show Steps p.tables e below (T68.setTop (mkF m 248 #[.val (.int p0), .val (.int p1), .val (.int p2), .val (.int p3), .val (.int md), .val (.int le), .val (.int mo), .val (.int va), .val (.int vb), .val (.int vd), .val (.ref cc), .val (.ref dd), .val (.ref ee), .val (.int (1 : Int32)), .unset, .unset] [(.int (1 : Int32))])) _
          refine XS.istore X68.here hx rfl (hb hby at_248) rfl (l' := #[.val (.int p0), .val (.int p1), .val (.int p2), .val (.int p3), .val (.int md), .val (.int le), .val (.int mo), .val (.int va), .val (.int vb), .val (.int vd), .val (.ref cc), .val (.ref dd), .val (.ref ee), .val (.int (1 : Int32)), .unset, .unset]) rfl ?_
          show Steps p.tables e below (T68.setTop (mkF m 250 #[.val (.int p0), .val (.int p1), .val (.int p2), .val (.int p3), .val (.int md), .val (.int le), .val (.int mo), .val (.int va), .val (.int vb), .val (.int vd), .val (.ref cc), .val (.ref dd), .val (.ref ee), .val (.int (1 : Int32)), .unset, .unset] [])) _
          exact κ)
        exact ⟨(), pre75⟩
      · have pre76 := fun τ (κ : Steps p.tables e below (T68.setTop (mkF m 250 #[.val (.int p0), .val (.int p1), .val (.int p2), .val (.int p3), .val (.int md), .val (.int le), .val (.int mo), .val (.int va), .val (.int vb), .val (.int vd), .val (.ref cc), .val (.ref dd), .val (.ref ee), .val (.int (1 : Int32)), .unset, .unset] [])) τ) => pre74 τ (by
          refine XS.ifNo X68.here hx rfl (hb hby at_232) rfl ((if0 _ _).trans (feq q2).1) ?_
          show Steps p.tables e below (T68.setTop (mkF m 235 #[.val (.int p0), .val (.int p1), .val (.int p2), .val (.int p3), .val (.int md), .val (.int le), .val (.int mo), .val (.int va), .val (.int vb), .val (.int vd), .val (.ref cc), .val (.ref dd), .val (.ref ee), .val (.int (1 : Int32)), .unset, .unset] [(.int (own_emp 0 sb))])) _
          refine XS.iconst X68.here hx rfl (hb hby at_235) ?_
          show Steps p.tables e below (T68.setTop (mkF m 236 #[.val (.int p0), .val (.int p1), .val (.int p2), .val (.int p3), .val (.int md), .val (.int le), .val (.int mo), .val (.int va), .val (.int vb), .val (.int vd), .val (.ref cc), .val (.ref dd), .val (.ref ee), .val (.int (1 : Int32)), .unset, .unset] [(.int (1 : Int32)), (.int (own_emp 0 sb))])) _
          refine XS.goto X68.here hx rfl (pc0 := 236) (pc' := 240) rfl (hb hby at_236) (by decide) (by decide) ?_
          show Steps p.tables e below (T68.setTop (mkF m 240 #[.val (.int p0), .val (.int p1), .val (.int p2), .val (.int p3), .val (.int md), .val (.int le), .val (.int mo), .val (.int va), .val (.int vb), .val (.int vd), .val (.ref cc), .val (.ref dd), .val (.ref ee), .val (.int (1 : Int32)), .unset, .unset] [(.int (1 : Int32)), (.int (own_emp 0 sb))])) _
          refine XS.icmpNo X68.here hx rfl (hb hby at_240) rfl (teq (by rw [(hsb.resolve_left fun z => q2 z.1).2]; rfl)).2 ?_
          show Steps p.tables e below (T68.setTop (mkF m 243 #[.val (.int p0), .val (.int p1), .val (.int p2), .val (.int p3), .val (.int md), .val (.int le), .val (.int mo), .val (.int va), .val (.int vb), .val (.int vd), .val (.ref cc), .val (.ref dd), .val (.ref ee), .val (.int (1 : Int32)), .unset, .unset] [])) _
          refine XS.iconst X68.here hx rfl (hb hby at_243) ?_
          show Steps p.tables e below (T68.setTop (mkF m 244 #[.val (.int p0), .val (.int p1), .val (.int p2), .val (.int p3), .val (.int md), .val (.int le), .val (.int mo), .val (.int va), .val (.int vb), .val (.int vd), .val (.ref cc), .val (.ref dd), .val (.ref ee), .val (.int (1 : Int32)), .unset, .unset] [(.int (1 : Int32))])) _
          refine XS.goto X68.here hx rfl (pc0 := 244) (pc' := 248) rfl (hb hby at_244) (by decide) (by decide) ?_
          show Steps p.tables e below (T68.setTop (mkF m 248 #[.val (.int p0), .val (.int p1), .val (.int p2), .val (.int p3), .val (.int md), .val (.int le), .val (.int mo), .val (.int va), .val (.int vb), .val (.int vd), .val (.ref cc), .val (.ref dd), .val (.ref ee), .val (.int (1 : Int32)), .unset, .unset] [(.int (1 : Int32))])) _
          refine XS.istore X68.here hx rfl (hb hby at_248) rfl (l' := #[.val (.int p0), .val (.int p1), .val (.int p2), .val (.int p3), .val (.int md), .val (.int le), .val (.int mo), .val (.int va), .val (.int vb), .val (.int vd), .val (.ref cc), .val (.ref dd), .val (.ref ee), .val (.int (1 : Int32)), .unset, .unset]) rfl ?_
          show Steps p.tables e below (T68.setTop (mkF m 250 #[.val (.int p0), .val (.int p1), .val (.int p2), .val (.int p3), .val (.int md), .val (.int le), .val (.int mo), .val (.int va), .val (.int vb), .val (.int vd), .val (.ref cc), .val (.ref dd), .val (.ref ee), .val (.int (1 : Int32)), .unset, .unset] [])) _
          exact κ)
        exact ⟨(), pre76⟩
  have pre77 := fun τ (κ : Steps p.tables e below (T68.setTop (mkF m 252 #[.val (.int p0), .val (.int p1), .val (.int p2), .val (.int p3), .val (.int md), .val (.int le), .val (.int mo), .val (.int va), .val (.int vb), .val (.int vd), .val (.ref cc), .val (.ref dd), .val (.ref ee), .val (.int (1 : Int32)), .unset, .unset] [(.ref cc)])) τ) => pre71 τ (by
    refine XS.aload X68.here hx rfl (hb hby at_250) rfl rfl ?_
    show Steps p.tables e below (T68.setTop (mkF m 252 #[.val (.int p0), .val (.int p1), .val (.int p2), .val (.int p3), .val (.int md), .val (.int le), .val (.int mo), .val (.int va), .val (.int vb), .val (.int vd), .val (.ref cc), .val (.ref dd), .val (.ref ee), .val (.int (1 : Int32)), .unset, .unset] [(.ref cc)])) _
    exact κ)
  obtain ⟨cq78, kq78, q78a, q78b, q78c⟩ := isOf hZ rfl E_cc_68
  obtain ⟨_, _, ⟨T78, L78, k78, n78⟩, -, X78, ⟨Lc78, hQ78, l78, y78, z78⟩, st78⟩ := X68.virtualBack hx (y := (⟨"com/example/fettle/fettle/regex/Counts", "start", "()V"⟩ : MethodName)) (z := (⟨"com/example/fettle/fettle/regex/Counts", "start", "()V"⟩ : MethodName)) hown (mvT hZ (hw _ (List.mem_of_getElem? (i := 32) rfl))) (mvT hZ (hw _ (List.mem_of_getElem? (i := 33) rfl))) (notFace_of_selects (args := #[]) (mvT hZ (hw _ (List.mem_of_getElem? (i := 35) rfl)))) (mvT hZ (hw _ (List.mem_of_getElem? (i := 35) rfl))) (mvT hZ (hw _ (List.mem_of_getElem? (i := 34) rfl))) (by decide) (backOf (W := 0) (rm5 l Z a0 hw [] cc occ xcc kocc kxcc 0 0 0 sb le mo [(.int (0 : Int32)), (.int (0 : Int32)), (.int (0 : Int32)), (.int (0 : Int32))] [(.int (0 : Int32)), (.int (0 : Int32)), (.int (0 : Int32)), (.int (0 : Int32))] T68.heap n0 Z68 ⟨E_cc_68, F_oldest_cc_68, F_newest_cc_68, F_first_cc_68, F_runs_cc_68, F_clock_cc_68, F_starting_cc_68, F_least_cc_68, F_most_cc_68, V_o_cc_68, V_w_cc_68⟩ ne_cc_occ ne_cc_xcc nox31 g_cc) hZ (hw _ (List.mem_of_getElem? (i := 36) rfl)) (hw _ (List.mem_of_getElem? (i := 7) rfl)) (by decide) (by decide)) q78a q78c (g := (mkF m 252 #[.val (.int p0), .val (.int p1), .val (.int p2), .val (.int p3), .val (.int md), .val (.int le), .val (.int mo), .val (.int va), .val (.int vb), .val (.int vd), .val (.ref cc), .val (.ref dd), .val (.ref ee), .val (.int (1 : Int32)), .unset, .unset] [(.ref cc)])) rfl (by rw [hml]; rfl) (Steps.refl _) (argsL := []) (rest := []) (lenOf pd_4 rfl) rfl (by show 2 * 0 + _ ≤ _; exact Nat.le_of_eq rfl) (hb hby at_252) (fun _ _ => ⟨rfl, rfl, (by decide : 9 + 0 ≤ _), (by decide : 48 + 0 ≤ _)⟩)
  dsimp only [Pt.U, Pt.locs, Pt.cells, Pt.slots] at X78 l78 y78 z78 st78 hQ78
  subst l78 y78 z78
  obtain ⟨rfl, Nq78, K78, P78⟩ := hQ78
  have E_cc_78 : Exa Z T78.heap cc "com/example/fettle/fettle/regex/Counts" := E_cc_68.keep K78
  have V_o_cc_78 : Arv Z T78.heap occ kocc .int (4 : Int32) [(.int (0 : Int32)), (.int (0 : Int32)), (.int (0 : Int32)), (.int (0 : Int32))] (.int (0 : Int32)) := V_o_cc_68.keep K78 (ninS (Ne.symm ne_cc_occ) nin0)
  have V_w_cc_78 : Arv Z T78.heap xcc kxcc .int (4 : Int32) [(.int (0 : Int32)), (.int (0 : Int32)), (.int (0 : Int32)), (.int (0 : Int32))] (.int (0 : Int32)) := V_w_cc_68.keep K78 (ninS (Ne.symm ne_cc_xcc) nin0)
  have E_dd_78 : Exa Z T78.heap dd "com/example/fettle/fettle/regex/Counts" := E_dd_68.keep K78
  have F_oldest_dd_78 : Fld Z T78.heap dd "com/example/fettle/fettle/regex/Counts" "oldest" "[I" (.ref odd) := F_oldest_dd_68.keep K78 (ninS (Ne.symm ne_cc_dd) nin0)
  have F_newest_dd_78 : Fld Z T78.heap dd "com/example/fettle/fettle/regex/Counts" "newest" "[I" (.ref xdd) := F_newest_dd_68.keep K78 (ninS (Ne.symm ne_cc_dd) nin0)
  have F_first_dd_78 : Fld Z T78.heap dd "com/example/fettle/fettle/regex/Counts" "first" "I" (.int 0) := F_first_dd_68.keep K78 (ninS (Ne.symm ne_cc_dd) nin0)
  have F_runs_dd_78 : Fld Z T78.heap dd "com/example/fettle/fettle/regex/Counts" "runs" "I" (.int 0) := F_runs_dd_68.keep K78 (ninS (Ne.symm ne_cc_dd) nin0)
  have F_clock_dd_78 : Fld Z T78.heap dd "com/example/fettle/fettle/regex/Counts" "clock" "I" (.int 0) := F_clock_dd_68.keep K78 (ninS (Ne.symm ne_cc_dd) nin0)
  have F_starting_dd_78 : Fld Z T78.heap dd "com/example/fettle/fettle/regex/Counts" "starting" "Z" (.int 0) := F_starting_dd_68.keep K78 (ninS (Ne.symm ne_cc_dd) nin0)
  have F_least_dd_78 : Fld Z T78.heap dd "com/example/fettle/fettle/regex/Counts" "least" "I" (.int le) := F_least_dd_68.keep K78 (ninS (Ne.symm ne_cc_dd) nin0)
  have F_most_dd_78 : Fld Z T78.heap dd "com/example/fettle/fettle/regex/Counts" "most" "I" (.int mo) := F_most_dd_68.keep K78 (ninS (Ne.symm ne_cc_dd) nin0)
  have V_o_dd_78 : Arv Z T78.heap odd kodd .int (4 : Int32) [(.int (0 : Int32)), (.int (0 : Int32)), (.int (0 : Int32)), (.int (0 : Int32))] (.int (0 : Int32)) := V_o_dd_68.keep K78 (ninS (Ne.symm ne_cc_odd) nin0)
  have V_w_dd_78 : Arv Z T78.heap xdd kxdd .int (4 : Int32) [(.int (0 : Int32)), (.int (0 : Int32)), (.int (0 : Int32)), (.int (0 : Int32))] (.int (0 : Int32)) := V_w_dd_68.keep K78 (ninS (Ne.symm ne_cc_xdd) nin0)
  have E_ee_78 : Exa Z T78.heap ee "com/example/fettle/fettle/regex/Counts" := E_ee_68.keep K78
  have F_oldest_ee_78 : Fld Z T78.heap ee "com/example/fettle/fettle/regex/Counts" "oldest" "[I" (.ref oee) := F_oldest_ee_68.keep K78 (ninS (Ne.symm ne_cc_ee) nin0)
  have F_newest_ee_78 : Fld Z T78.heap ee "com/example/fettle/fettle/regex/Counts" "newest" "[I" (.ref xee) := F_newest_ee_68.keep K78 (ninS (Ne.symm ne_cc_ee) nin0)
  have F_first_ee_78 : Fld Z T78.heap ee "com/example/fettle/fettle/regex/Counts" "first" "I" (.int 0) := F_first_ee_68.keep K78 (ninS (Ne.symm ne_cc_ee) nin0)
  have F_runs_ee_78 : Fld Z T78.heap ee "com/example/fettle/fettle/regex/Counts" "runs" "I" (.int 0) := F_runs_ee_68.keep K78 (ninS (Ne.symm ne_cc_ee) nin0)
  have F_clock_ee_78 : Fld Z T78.heap ee "com/example/fettle/fettle/regex/Counts" "clock" "I" (.int 0) := F_clock_ee_68.keep K78 (ninS (Ne.symm ne_cc_ee) nin0)
  have F_starting_ee_78 : Fld Z T78.heap ee "com/example/fettle/fettle/regex/Counts" "starting" "Z" (.int 0) := F_starting_ee_68.keep K78 (ninS (Ne.symm ne_cc_ee) nin0)
  have F_least_ee_78 : Fld Z T78.heap ee "com/example/fettle/fettle/regex/Counts" "least" "I" (.int le) := F_least_ee_68.keep K78 (ninS (Ne.symm ne_cc_ee) nin0)
  have F_most_ee_78 : Fld Z T78.heap ee "com/example/fettle/fettle/regex/Counts" "most" "I" (.int mo) := F_most_ee_68.keep K78 (ninS (Ne.symm ne_cc_ee) nin0)
  have V_o_ee_78 : Arv Z T78.heap oee koee .int (4 : Int32) [(.int (0 : Int32)), (.int (0 : Int32)), (.int (0 : Int32)), (.int (0 : Int32))] (.int (0 : Int32)) := V_o_ee_68.keep K78 (ninS (Ne.symm ne_cc_oee) nin0)
  have V_w_ee_78 : Arv Z T78.heap xee kxee .int (4 : Int32) [(.int (0 : Int32)), (.int (0 : Int32)), (.int (0 : Int32)), (.int (0 : Int32))] (.int (0 : Int32)) := V_w_ee_68.keep K78 (ninS (Ne.symm ne_cc_xee) nin0)
  have Z78 : n0 ≤ T78.heap.size := Nat.le_trans Z68 K78.1
  have N78 := Fr.app N68 Nq78
  have pre79 := fun τ (κ : Steps p.tables e below (T78.setTop (mkF m 255 #[.val (.int p0), .val (.int p1), .val (.int p2), .val (.int p3), .val (.int md), .val (.int le), .val (.int mo), .val (.int va), .val (.int vb), .val (.int vd), .val (.ref cc), .val (.ref dd), .val (.ref ee), .val (.int (1 : Int32)), .unset, .unset] [])) τ) => pre77 τ (st78.trans κ)
  obtain ⟨E_cc_78, F_oldest_cc_78, F_newest_cc_78, F_first_cc_78, F_runs_cc_78, F_clock_cc_78, F_starting_cc_78, F_least_cc_78, F_most_cc_78, V_o_cc_78, V_w_cc_78⟩ := P78
  have pre80 := fun τ (κ : Steps p.tables e below (T78.setTop (mkF m 262 #[.val (.int p0), .val (.int p1), .val (.int p2), .val (.int p3), .val (.int md), .val (.int le), .val (.int mo), .val (.int va), .val (.int vb), .val (.int vd), .val (.ref cc), .val (.ref dd), .val (.ref ee), .val (.int (1 : Int32)), .unset, .unset] [(.ref cc)])) τ) => pre79 τ (by
    refine XS.iload X78.here hx rfl (hb hby at_255) rfl ?_
    show Steps p.tables e below (T78.setTop (mkF m 257 #[.val (.int p0), .val (.int p1), .val (.int p2), .val (.int p3), .val (.int md), .val (.int le), .val (.int mo), .val (.int va), .val (.int vb), .val (.int vd), .val (.ref cc), .val (.ref dd), .val (.ref ee), .val (.int (1 : Int32)), .unset, .unset] [(.int (1 : Int32))])) _
    refine XS.ifNo X78.here hx rfl (hb hby at_257) rfl ((if0 _ _).trans (feq (by decide)).1) ?_
    show Steps p.tables e below (T78.setTop (mkF m 260 #[.val (.int p0), .val (.int p1), .val (.int p2), .val (.int p3), .val (.int md), .val (.int le), .val (.int mo), .val (.int va), .val (.int vb), .val (.int vd), .val (.ref cc), .val (.ref dd), .val (.ref ee), .val (.int (1 : Int32)), .unset, .unset] [])) _
    refine XS.aload X78.here hx rfl (hb hby at_260) rfl rfl ?_
    show Steps p.tables e below (T78.setTop (mkF m 262 #[.val (.int p0), .val (.int p1), .val (.int p2), .val (.int p3), .val (.int md), .val (.int le), .val (.int mo), .val (.int va), .val (.int vb), .val (.int vd), .val (.ref cc), .val (.ref dd), .val (.ref ee), .val (.int (1 : Int32)), .unset, .unset] [(.ref cc)])) _
    exact κ)
  obtain ⟨cq81, kq81, q81a, q81b, q81c⟩ := isOf hZ rfl E_cc_78
  obtain ⟨_, _, ⟨T81, L81, k81, n81⟩, -, X81, ⟨Lc81, hQ81, l81, y81, z81⟩, st81⟩ := X78.virtualBack hx (y := (⟨"com/example/fettle/fettle/regex/Counts", "isEmpty", "()Z"⟩ : MethodName)) (z := (⟨"com/example/fettle/fettle/regex/Counts", "isEmpty", "()Z"⟩ : MethodName)) hown (mvT hZ (hw _ (List.mem_of_getElem? (i := 23) rfl))) (mvT hZ (hw _ (List.mem_of_getElem? (i := 24) rfl))) (notFace_of_selects (args := #[]) (mvT hZ (hw _ (List.mem_of_getElem? (i := 26) rfl)))) (mvT hZ (hw _ (List.mem_of_getElem? (i := 26) rfl))) (mvT hZ (hw _ (List.mem_of_getElem? (i := 25) rfl))) (by decide) (backOf (W := 0) (rm4 l Z a0 hw [] cc 0 1 T78.heap n0 Z78 F_runs_cc_78 F_starting_cc_78) hZ (hw _ (List.mem_of_getElem? (i := 27) rfl)) (hw _ (List.mem_of_getElem? (i := 7) rfl)) (by decide) (by decide)) q81a q81c (g := (mkF m 262 #[.val (.int p0), .val (.int p1), .val (.int p2), .val (.int p3), .val (.int md), .val (.int le), .val (.int mo), .val (.int va), .val (.int vb), .val (.int vd), .val (.ref cc), .val (.ref dd), .val (.ref ee), .val (.int (1 : Int32)), .unset, .unset] [(.ref cc)])) rfl (by rw [hml]; rfl) (Steps.refl _) (argsL := []) (rest := []) (lenOf pd_6 rfl) rfl (by show 2 * 0 + _ ≤ _; exact Nat.le_of_eq rfl) (hb hby at_262) (fun _ _ => ⟨rfl, rfl, (by decide : 9 + 0 ≤ _), (by decide : 48 + 0 ≤ _)⟩)
  dsimp only [Pt.U, Pt.locs, Pt.cells, Pt.slots] at X81 l81 y81 z81 st81 hQ81
  subst l81 y81 z81
  obtain ⟨rfl, Nq81, hh81⟩ := hQ81
  have E_dd_81 : Exa Z T81.heap dd "com/example/fettle/fettle/regex/Counts" := by rw [hh81]; exact E_dd_78
  have F_oldest_dd_81 : Fld Z T81.heap dd "com/example/fettle/fettle/regex/Counts" "oldest" "[I" (.ref odd) := by rw [hh81]; exact F_oldest_dd_78
  have F_newest_dd_81 : Fld Z T81.heap dd "com/example/fettle/fettle/regex/Counts" "newest" "[I" (.ref xdd) := by rw [hh81]; exact F_newest_dd_78
  have F_first_dd_81 : Fld Z T81.heap dd "com/example/fettle/fettle/regex/Counts" "first" "I" (.int 0) := by rw [hh81]; exact F_first_dd_78
  have F_runs_dd_81 : Fld Z T81.heap dd "com/example/fettle/fettle/regex/Counts" "runs" "I" (.int 0) := by rw [hh81]; exact F_runs_dd_78
  have F_clock_dd_81 : Fld Z T81.heap dd "com/example/fettle/fettle/regex/Counts" "clock" "I" (.int 0) := by rw [hh81]; exact F_clock_dd_78
  have F_starting_dd_81 : Fld Z T81.heap dd "com/example/fettle/fettle/regex/Counts" "starting" "Z" (.int 0) := by rw [hh81]; exact F_starting_dd_78
  have F_least_dd_81 : Fld Z T81.heap dd "com/example/fettle/fettle/regex/Counts" "least" "I" (.int le) := by rw [hh81]; exact F_least_dd_78
  have F_most_dd_81 : Fld Z T81.heap dd "com/example/fettle/fettle/regex/Counts" "most" "I" (.int mo) := by rw [hh81]; exact F_most_dd_78
  have V_o_dd_81 : Arv Z T81.heap odd kodd .int (4 : Int32) [(.int (0 : Int32)), (.int (0 : Int32)), (.int (0 : Int32)), (.int (0 : Int32))] (.int (0 : Int32)) := by rw [hh81]; exact V_o_dd_78
  have V_w_dd_81 : Arv Z T81.heap xdd kxdd .int (4 : Int32) [(.int (0 : Int32)), (.int (0 : Int32)), (.int (0 : Int32)), (.int (0 : Int32))] (.int (0 : Int32)) := by rw [hh81]; exact V_w_dd_78
  have E_ee_81 : Exa Z T81.heap ee "com/example/fettle/fettle/regex/Counts" := by rw [hh81]; exact E_ee_78
  have F_oldest_ee_81 : Fld Z T81.heap ee "com/example/fettle/fettle/regex/Counts" "oldest" "[I" (.ref oee) := by rw [hh81]; exact F_oldest_ee_78
  have F_newest_ee_81 : Fld Z T81.heap ee "com/example/fettle/fettle/regex/Counts" "newest" "[I" (.ref xee) := by rw [hh81]; exact F_newest_ee_78
  have F_first_ee_81 : Fld Z T81.heap ee "com/example/fettle/fettle/regex/Counts" "first" "I" (.int 0) := by rw [hh81]; exact F_first_ee_78
  have F_runs_ee_81 : Fld Z T81.heap ee "com/example/fettle/fettle/regex/Counts" "runs" "I" (.int 0) := by rw [hh81]; exact F_runs_ee_78
  have F_clock_ee_81 : Fld Z T81.heap ee "com/example/fettle/fettle/regex/Counts" "clock" "I" (.int 0) := by rw [hh81]; exact F_clock_ee_78
  have F_starting_ee_81 : Fld Z T81.heap ee "com/example/fettle/fettle/regex/Counts" "starting" "Z" (.int 0) := by rw [hh81]; exact F_starting_ee_78
  have F_least_ee_81 : Fld Z T81.heap ee "com/example/fettle/fettle/regex/Counts" "least" "I" (.int le) := by rw [hh81]; exact F_least_ee_78
  have F_most_ee_81 : Fld Z T81.heap ee "com/example/fettle/fettle/regex/Counts" "most" "I" (.int mo) := by rw [hh81]; exact F_most_ee_78
  have V_o_ee_81 : Arv Z T81.heap oee koee .int (4 : Int32) [(.int (0 : Int32)), (.int (0 : Int32)), (.int (0 : Int32)), (.int (0 : Int32))] (.int (0 : Int32)) := by rw [hh81]; exact V_o_ee_78
  have V_w_ee_81 : Arv Z T81.heap xee kxee .int (4 : Int32) [(.int (0 : Int32)), (.int (0 : Int32)), (.int (0 : Int32)), (.int (0 : Int32))] (.int (0 : Int32)) := by rw [hh81]; exact V_w_ee_78
  have E_cc_81 : Exa Z T81.heap cc "com/example/fettle/fettle/regex/Counts" := by rw [hh81]; exact E_cc_78
  have F_oldest_cc_81 : Fld Z T81.heap cc "com/example/fettle/fettle/regex/Counts" "oldest" "[I" (.ref occ) := by rw [hh81]; exact F_oldest_cc_78
  have F_newest_cc_81 : Fld Z T81.heap cc "com/example/fettle/fettle/regex/Counts" "newest" "[I" (.ref xcc) := by rw [hh81]; exact F_newest_cc_78
  have F_first_cc_81 : Fld Z T81.heap cc "com/example/fettle/fettle/regex/Counts" "first" "I" (.int 0) := by rw [hh81]; exact F_first_cc_78
  have F_runs_cc_81 : Fld Z T81.heap cc "com/example/fettle/fettle/regex/Counts" "runs" "I" (.int 0) := by rw [hh81]; exact F_runs_cc_78
  have F_clock_cc_81 : Fld Z T81.heap cc "com/example/fettle/fettle/regex/Counts" "clock" "I" (.int 0) := by rw [hh81]; exact F_clock_cc_78
  have F_starting_cc_81 : Fld Z T81.heap cc "com/example/fettle/fettle/regex/Counts" "starting" "Z" (.int 1) := by rw [hh81]; exact F_starting_cc_78
  have F_least_cc_81 : Fld Z T81.heap cc "com/example/fettle/fettle/regex/Counts" "least" "I" (.int le) := by rw [hh81]; exact F_least_cc_78
  have F_most_cc_81 : Fld Z T81.heap cc "com/example/fettle/fettle/regex/Counts" "most" "I" (.int mo) := by rw [hh81]; exact F_most_cc_78
  have V_o_cc_81 : Arv Z T81.heap occ kocc .int (4 : Int32) [(.int (0 : Int32)), (.int (0 : Int32)), (.int (0 : Int32)), (.int (0 : Int32))] (.int (0 : Int32)) := by rw [hh81]; exact V_o_cc_78
  have V_w_cc_81 : Arv Z T81.heap xcc kxcc .int (4 : Int32) [(.int (0 : Int32)), (.int (0 : Int32)), (.int (0 : Int32)), (.int (0 : Int32))] (.int (0 : Int32)) := by rw [hh81]; exact V_w_cc_78
  have Z81 : n0 ≤ T81.heap.size := by rw [hh81]; exact Z78
  have N81 := Fr.app N78 Nq81
  have pre82 := fun τ (κ : Steps p.tables e below (T81.setTop (mkF m 265 #[.val (.int p0), .val (.int p1), .val (.int p2), .val (.int p3), .val (.int md), .val (.int le), .val (.int mo), .val (.int va), .val (.int vb), .val (.int vd), .val (.ref cc), .val (.ref dd), .val (.ref ee), .val (.int (1 : Int32)), .unset, .unset] [(.int (own_emp 0 1))])) τ) => pre80 τ (st81.trans κ)
  have pre83 := fun τ (κ : Steps p.tables e below (T81.setTop (mkF m 277 #[.val (.int p0), .val (.int p1), .val (.int p2), .val (.int p3), .val (.int md), .val (.int le), .val (.int mo), .val (.int va), .val (.int vb), .val (.int vd), .val (.ref cc), .val (.ref dd), .val (.ref ee), .val (.int (1 : Int32)), .unset, .unset] [(.int vd)])) τ) => pre82 τ (by
    refine XS.ifNo X81.here hx rfl (hb hby at_265) rfl ((if0 _ _).trans (teq own_empS).2) ?_
    show Steps p.tables e below (T81.setTop (mkF m 268 #[.val (.int p0), .val (.int p1), .val (.int p2), .val (.int p3), .val (.int md), .val (.int le), .val (.int mo), .val (.int va), .val (.int vb), .val (.int vd), .val (.ref cc), .val (.ref dd), .val (.ref ee), .val (.int (1 : Int32)), .unset, .unset] [])) _
    refine XS.iconst X81.here hx rfl (hb hby at_268) ?_
    show Steps p.tables e below (T81.setTop (mkF m 269 #[.val (.int p0), .val (.int p1), .val (.int p2), .val (.int p3), .val (.int md), .val (.int le), .val (.int mo), .val (.int va), .val (.int vb), .val (.int vd), .val (.ref cc), .val (.ref dd), .val (.ref ee), .val (.int (1 : Int32)), .unset, .unset] [(.int (1 : Int32))])) _
    refine XS.goto X81.here hx rfl (pc0 := 269) (pc' := 273) rfl (hb hby at_269) (by decide) (by decide) ?_
    show Steps p.tables e below (T81.setTop (mkF m 273 #[.val (.int p0), .val (.int p1), .val (.int p2), .val (.int p3), .val (.int md), .val (.int le), .val (.int mo), .val (.int va), .val (.int vb), .val (.int vd), .val (.ref cc), .val (.ref dd), .val (.ref ee), .val (.int (1 : Int32)), .unset, .unset] [(.int (1 : Int32))])) _
    refine XS.istore X81.here hx rfl (hb hby at_273) rfl (l' := #[.val (.int p0), .val (.int p1), .val (.int p2), .val (.int p3), .val (.int md), .val (.int le), .val (.int mo), .val (.int va), .val (.int vb), .val (.int vd), .val (.ref cc), .val (.ref dd), .val (.ref ee), .val (.int (1 : Int32)), .unset, .unset]) rfl ?_
    show Steps p.tables e below (T81.setTop (mkF m 275 #[.val (.int p0), .val (.int p1), .val (.int p2), .val (.int p3), .val (.int md), .val (.int le), .val (.int mo), .val (.int va), .val (.int vb), .val (.int vd), .val (.ref cc), .val (.ref dd), .val (.ref ee), .val (.int (1 : Int32)), .unset, .unset] [])) _
    refine XS.iload X81.here hx rfl (hb hby at_275) rfl ?_
    show Steps p.tables e below (T81.setTop (mkF m 277 #[.val (.int p0), .val (.int p1), .val (.int p2), .val (.int p3), .val (.int md), .val (.int le), .val (.int mo), .val (.int va), .val (.int vb), .val (.int vd), .val (.ref cc), .val (.ref dd), .val (.ref ee), .val (.int (1 : Int32)), .unset, .unset] [(.int vd)])) _
    exact κ)
  obtain ⟨T84, h84, lo84, sd, X84, e84, N84, Z84, E_dd_84, F_oldest_dd_84, F_newest_dd_84, F_first_dd_84, F_runs_dd_84, F_clock_dd_84, F_starting_dd_84, F_least_dd_84, F_most_dd_84, V_o_dd_84, V_w_dd_84, E_ee_84, F_oldest_ee_84, F_newest_ee_84, F_first_ee_84, F_runs_ee_84, F_clock_ee_84, F_starting_ee_84, F_least_ee_84, F_most_ee_84, V_o_ee_84, V_w_ee_84, E_cc_84, F_oldest_cc_84, F_newest_cc_84, F_first_cc_84, F_runs_cc_84, F_clock_cc_84, F_starting_cc_84, F_least_cc_84, F_most_cc_84, V_o_cc_84, V_w_cc_84, hsd, pre84⟩ : ∃ (T84 : State) (h84 : Heap) (lo84 : List Loc) (sd : Int32), Stand p l e room_1 s m #[(.int p0), (.int p1), (.int p2), (.int p3)] below meth c T84 lo84 (9) (48) ∧ T84.heap = h84 ∧ Fr n0 lo84 ∧ n0 ≤ h84.size ∧ (Exa Z h84 dd "com/example/fettle/fettle/regex/Counts") ∧ (Fld Z h84 dd "com/example/fettle/fettle/regex/Counts" "oldest" "[I" (.ref odd)) ∧ (Fld Z h84 dd "com/example/fettle/fettle/regex/Counts" "newest" "[I" (.ref xdd)) ∧ (Fld Z h84 dd "com/example/fettle/fettle/regex/Counts" "first" "I" (.int 0)) ∧ (Fld Z h84 dd "com/example/fettle/fettle/regex/Counts" "runs" "I" (.int 0)) ∧ (Fld Z h84 dd "com/example/fettle/fettle/regex/Counts" "clock" "I" (.int 0)) ∧ (Fld Z h84 dd "com/example/fettle/fettle/regex/Counts" "starting" "Z" (.int sd)) ∧ (Fld Z h84 dd "com/example/fettle/fettle/regex/Counts" "least" "I" (.int le)) ∧ (Fld Z h84 dd "com/example/fettle/fettle/regex/Counts" "most" "I" (.int mo)) ∧ (Arv Z h84 odd kodd .int (4 : Int32) [(.int (0 : Int32)), (.int (0 : Int32)), (.int (0 : Int32)), (.int (0 : Int32))] (.int (0 : Int32))) ∧ (Arv Z h84 xdd kxdd .int (4 : Int32) [(.int (0 : Int32)), (.int (0 : Int32)), (.int (0 : Int32)), (.int (0 : Int32))] (.int (0 : Int32))) ∧ (Exa Z h84 ee "com/example/fettle/fettle/regex/Counts") ∧ (Fld Z h84 ee "com/example/fettle/fettle/regex/Counts" "oldest" "[I" (.ref oee)) ∧ (Fld Z h84 ee "com/example/fettle/fettle/regex/Counts" "newest" "[I" (.ref xee)) ∧ (Fld Z h84 ee "com/example/fettle/fettle/regex/Counts" "first" "I" (.int 0)) ∧ (Fld Z h84 ee "com/example/fettle/fettle/regex/Counts" "runs" "I" (.int 0)) ∧ (Fld Z h84 ee "com/example/fettle/fettle/regex/Counts" "clock" "I" (.int 0)) ∧ (Fld Z h84 ee "com/example/fettle/fettle/regex/Counts" "starting" "Z" (.int 0)) ∧ (Fld Z h84 ee "com/example/fettle/fettle/regex/Counts" "least" "I" (.int le)) ∧ (Fld Z h84 ee "com/example/fettle/fettle/regex/Counts" "most" "I" (.int mo)) ∧ (Arv Z h84 oee koee .int (4 : Int32) [(.int (0 : Int32)), (.int (0 : Int32)), (.int (0 : Int32)), (.int (0 : Int32))] (.int (0 : Int32))) ∧ (Arv Z h84 xee kxee .int (4 : Int32) [(.int (0 : Int32)), (.int (0 : Int32)), (.int (0 : Int32)), (.int (0 : Int32))] (.int (0 : Int32))) ∧ (Exa Z h84 cc "com/example/fettle/fettle/regex/Counts") ∧ (Fld Z h84 cc "com/example/fettle/fettle/regex/Counts" "oldest" "[I" (.ref occ)) ∧ (Fld Z h84 cc "com/example/fettle/fettle/regex/Counts" "newest" "[I" (.ref xcc)) ∧ (Fld Z h84 cc "com/example/fettle/fettle/regex/Counts" "first" "I" (.int 0)) ∧ (Fld Z h84 cc "com/example/fettle/fettle/regex/Counts" "runs" "I" (.int 0)) ∧ (Fld Z h84 cc "com/example/fettle/fettle/regex/Counts" "clock" "I" (.int 0)) ∧ (Fld Z h84 cc "com/example/fettle/fettle/regex/Counts" "starting" "Z" (.int 1)) ∧ (Fld Z h84 cc "com/example/fettle/fettle/regex/Counts" "least" "I" (.int le)) ∧ (Fld Z h84 cc "com/example/fettle/fettle/regex/Counts" "most" "I" (.int mo)) ∧ (Arv Z h84 occ kocc .int (4 : Int32) [(.int (0 : Int32)), (.int (0 : Int32)), (.int (0 : Int32)), (.int (0 : Int32))] (.int (0 : Int32))) ∧ (Arv Z h84 xcc kxcc .int (4 : Int32) [(.int (0 : Int32)), (.int (0 : Int32)), (.int (0 : Int32)), (.int (0 : Int32))] (.int (0 : Int32))) ∧ ((vd = 0 ∧ sd = 0) ∨ (¬ vd = 0 ∧ sd = 1)) ∧ ∀ τ, Steps p.tables e below (T84.setTop (mkF m 285 #[.val (.int p0), .val (.int p1), .val (.int p2), .val (.int p3), .val (.int md), .val (.int le), .val (.int mo), .val (.int va), .val (.int vb), .val (.int vd), .val (.ref cc), .val (.ref dd), .val (.ref ee), .val (.int (1 : Int32)), .unset, .unset] [])) τ → Steps p.tables e below (s₁.setTop (entryFrame m #[(.int p0), (.int p1), (.int p2), (.int p3)] maxLocals)) τ := by
    by_cases qq : vd = (0 : Int32)
    · have pre85 := fun τ (κ : Steps p.tables e below (T81.setTop (mkF m 285 #[.val (.int p0), .val (.int p1), .val (.int p2), .val (.int p3), .val (.int md), .val (.int le), .val (.int mo), .val (.int va), .val (.int vb), .val (.int vd), .val (.ref cc), .val (.ref dd), .val (.ref ee), .val (.int (1 : Int32)), .unset, .unset] [])) τ) => pre83 τ (by
        refine XS.ifYes X81.here hx rfl (pc0 := 277) (pc' := 285) rfl (hb hby at_277) rfl ((if0 _ _).trans (teq qq).1) (by decide) (by decide) ?_
        show Steps p.tables e below (T81.setTop (mkF m 285 #[.val (.int p0), .val (.int p1), .val (.int p2), .val (.int p3), .val (.int md), .val (.int le), .val (.int mo), .val (.int va), .val (.int vb), .val (.int vd), .val (.ref cc), .val (.ref dd), .val (.ref ee), .val (.int (1 : Int32)), .unset, .unset] [])) _
        exact κ)
      exact ⟨T81, T81.heap, _, _, X81, rfl, N81, Z81, E_dd_81, F_oldest_dd_81, F_newest_dd_81, F_first_dd_81, F_runs_dd_81, F_clock_dd_81, F_starting_dd_81, F_least_dd_81, F_most_dd_81, V_o_dd_81, V_w_dd_81, E_ee_81, F_oldest_ee_81, F_newest_ee_81, F_first_ee_81, F_runs_ee_81, F_clock_ee_81, F_starting_ee_81, F_least_ee_81, F_most_ee_81, V_o_ee_81, V_w_ee_81, E_cc_81, F_oldest_cc_81, F_newest_cc_81, F_first_cc_81, F_runs_cc_81, F_clock_cc_81, F_starting_cc_81, F_least_cc_81, F_most_cc_81, V_o_cc_81, V_w_cc_81, Or.inl ⟨qq, rfl⟩, pre85⟩
    · have pre86 := fun τ (κ : Steps p.tables e below (T81.setTop (mkF m 282 #[.val (.int p0), .val (.int p1), .val (.int p2), .val (.int p3), .val (.int md), .val (.int le), .val (.int mo), .val (.int va), .val (.int vb), .val (.int vd), .val (.ref cc), .val (.ref dd), .val (.ref ee), .val (.int (1 : Int32)), .unset, .unset] [(.ref dd)])) τ) => pre83 τ (by
        refine XS.ifNo X81.here hx rfl (hb hby at_277) rfl ((if0 _ _).trans (feq qq).1) ?_
        show Steps p.tables e below (T81.setTop (mkF m 280 #[.val (.int p0), .val (.int p1), .val (.int p2), .val (.int p3), .val (.int md), .val (.int le), .val (.int mo), .val (.int va), .val (.int vb), .val (.int vd), .val (.ref cc), .val (.ref dd), .val (.ref ee), .val (.int (1 : Int32)), .unset, .unset] [])) _
        refine XS.aload X81.here hx rfl (hb hby at_280) rfl rfl ?_
        show Steps p.tables e below (T81.setTop (mkF m 282 #[.val (.int p0), .val (.int p1), .val (.int p2), .val (.int p3), .val (.int md), .val (.int le), .val (.int mo), .val (.int va), .val (.int vb), .val (.int vd), .val (.ref cc), .val (.ref dd), .val (.ref ee), .val (.int (1 : Int32)), .unset, .unset] [(.ref dd)])) _
        exact κ)
      obtain ⟨cq87, kq87, q87a, q87b, q87c⟩ := isOf hZ rfl E_dd_81
      obtain ⟨_, _, ⟨T87, L87, k87, n87⟩, -, X87, ⟨Lc87, hQ87, l87, y87, z87⟩, st87⟩ := X81.virtualBack hx (y := (⟨"com/example/fettle/fettle/regex/Counts", "start", "()V"⟩ : MethodName)) (z := (⟨"com/example/fettle/fettle/regex/Counts", "start", "()V"⟩ : MethodName)) hown (mvT hZ (hw _ (List.mem_of_getElem? (i := 32) rfl))) (mvT hZ (hw _ (List.mem_of_getElem? (i := 33) rfl))) (notFace_of_selects (args := #[]) (mvT hZ (hw _ (List.mem_of_getElem? (i := 35) rfl)))) (mvT hZ (hw _ (List.mem_of_getElem? (i := 35) rfl))) (mvT hZ (hw _ (List.mem_of_getElem? (i := 34) rfl))) (by decide) (backOf (W := 0) (rm5 l Z a0 hw [] dd odd xdd kodd kxdd 0 0 0 0 le mo [(.int (0 : Int32)), (.int (0 : Int32)), (.int (0 : Int32)), (.int (0 : Int32))] [(.int (0 : Int32)), (.int (0 : Int32)), (.int (0 : Int32)), (.int (0 : Int32))] T81.heap n0 Z81 ⟨E_dd_81, F_oldest_dd_81, F_newest_dd_81, F_first_dd_81, F_runs_dd_81, F_clock_dd_81, F_starting_dd_81, F_least_dd_81, F_most_dd_81, V_o_dd_81, V_w_dd_81⟩ ne_dd_odd ne_dd_xdd nox37 g_dd) hZ (hw _ (List.mem_of_getElem? (i := 36) rfl)) (hw _ (List.mem_of_getElem? (i := 7) rfl)) (by decide) (by decide)) q87a q87c (g := (mkF m 282 #[.val (.int p0), .val (.int p1), .val (.int p2), .val (.int p3), .val (.int md), .val (.int le), .val (.int mo), .val (.int va), .val (.int vb), .val (.int vd), .val (.ref cc), .val (.ref dd), .val (.ref ee), .val (.int (1 : Int32)), .unset, .unset] [(.ref dd)])) rfl (by rw [hml]; rfl) (Steps.refl _) (argsL := []) (rest := []) (lenOf pd_4 rfl) rfl (by show 2 * 0 + _ ≤ _; exact Nat.le_of_eq rfl) (hb hby at_282) (fun _ _ => ⟨rfl, rfl, (by decide : 9 + 0 ≤ _), (by decide : 48 + 0 ≤ _)⟩)
      dsimp only [Pt.U, Pt.locs, Pt.cells, Pt.slots] at X87 l87 y87 z87 st87 hQ87
      subst l87 y87 z87
      obtain ⟨rfl, Nq87, K87, P87⟩ := hQ87
      have E_dd_87 : Exa Z T87.heap dd "com/example/fettle/fettle/regex/Counts" := E_dd_81.keep K87
      have V_o_dd_87 : Arv Z T87.heap odd kodd .int (4 : Int32) [(.int (0 : Int32)), (.int (0 : Int32)), (.int (0 : Int32)), (.int (0 : Int32))] (.int (0 : Int32)) := V_o_dd_81.keep K87 (ninS (Ne.symm ne_dd_odd) nin0)
      have V_w_dd_87 : Arv Z T87.heap xdd kxdd .int (4 : Int32) [(.int (0 : Int32)), (.int (0 : Int32)), (.int (0 : Int32)), (.int (0 : Int32))] (.int (0 : Int32)) := V_w_dd_81.keep K87 (ninS (Ne.symm ne_dd_xdd) nin0)
      have E_ee_87 : Exa Z T87.heap ee "com/example/fettle/fettle/regex/Counts" := E_ee_81.keep K87
      have F_oldest_ee_87 : Fld Z T87.heap ee "com/example/fettle/fettle/regex/Counts" "oldest" "[I" (.ref oee) := F_oldest_ee_81.keep K87 (ninS (Ne.symm ne_dd_ee) nin0)
      have F_newest_ee_87 : Fld Z T87.heap ee "com/example/fettle/fettle/regex/Counts" "newest" "[I" (.ref xee) := F_newest_ee_81.keep K87 (ninS (Ne.symm ne_dd_ee) nin0)
      have F_first_ee_87 : Fld Z T87.heap ee "com/example/fettle/fettle/regex/Counts" "first" "I" (.int 0) := F_first_ee_81.keep K87 (ninS (Ne.symm ne_dd_ee) nin0)
      have F_runs_ee_87 : Fld Z T87.heap ee "com/example/fettle/fettle/regex/Counts" "runs" "I" (.int 0) := F_runs_ee_81.keep K87 (ninS (Ne.symm ne_dd_ee) nin0)
      have F_clock_ee_87 : Fld Z T87.heap ee "com/example/fettle/fettle/regex/Counts" "clock" "I" (.int 0) := F_clock_ee_81.keep K87 (ninS (Ne.symm ne_dd_ee) nin0)
      have F_starting_ee_87 : Fld Z T87.heap ee "com/example/fettle/fettle/regex/Counts" "starting" "Z" (.int 0) := F_starting_ee_81.keep K87 (ninS (Ne.symm ne_dd_ee) nin0)
      have F_least_ee_87 : Fld Z T87.heap ee "com/example/fettle/fettle/regex/Counts" "least" "I" (.int le) := F_least_ee_81.keep K87 (ninS (Ne.symm ne_dd_ee) nin0)
      have F_most_ee_87 : Fld Z T87.heap ee "com/example/fettle/fettle/regex/Counts" "most" "I" (.int mo) := F_most_ee_81.keep K87 (ninS (Ne.symm ne_dd_ee) nin0)
      have V_o_ee_87 : Arv Z T87.heap oee koee .int (4 : Int32) [(.int (0 : Int32)), (.int (0 : Int32)), (.int (0 : Int32)), (.int (0 : Int32))] (.int (0 : Int32)) := V_o_ee_81.keep K87 (ninS (Ne.symm ne_dd_oee) nin0)
      have V_w_ee_87 : Arv Z T87.heap xee kxee .int (4 : Int32) [(.int (0 : Int32)), (.int (0 : Int32)), (.int (0 : Int32)), (.int (0 : Int32))] (.int (0 : Int32)) := V_w_ee_81.keep K87 (ninS (Ne.symm ne_dd_xee) nin0)
      have E_cc_87 : Exa Z T87.heap cc "com/example/fettle/fettle/regex/Counts" := E_cc_81.keep K87
      have F_oldest_cc_87 : Fld Z T87.heap cc "com/example/fettle/fettle/regex/Counts" "oldest" "[I" (.ref occ) := F_oldest_cc_81.keep K87 (ninS ne_cc_dd nin0)
      have F_newest_cc_87 : Fld Z T87.heap cc "com/example/fettle/fettle/regex/Counts" "newest" "[I" (.ref xcc) := F_newest_cc_81.keep K87 (ninS ne_cc_dd nin0)
      have F_first_cc_87 : Fld Z T87.heap cc "com/example/fettle/fettle/regex/Counts" "first" "I" (.int 0) := F_first_cc_81.keep K87 (ninS ne_cc_dd nin0)
      have F_runs_cc_87 : Fld Z T87.heap cc "com/example/fettle/fettle/regex/Counts" "runs" "I" (.int 0) := F_runs_cc_81.keep K87 (ninS ne_cc_dd nin0)
      have F_clock_cc_87 : Fld Z T87.heap cc "com/example/fettle/fettle/regex/Counts" "clock" "I" (.int 0) := F_clock_cc_81.keep K87 (ninS ne_cc_dd nin0)
      have F_starting_cc_87 : Fld Z T87.heap cc "com/example/fettle/fettle/regex/Counts" "starting" "Z" (.int 1) := F_starting_cc_81.keep K87 (ninS ne_cc_dd nin0)
      have F_least_cc_87 : Fld Z T87.heap cc "com/example/fettle/fettle/regex/Counts" "least" "I" (.int le) := F_least_cc_81.keep K87 (ninS ne_cc_dd nin0)
      have F_most_cc_87 : Fld Z T87.heap cc "com/example/fettle/fettle/regex/Counts" "most" "I" (.int mo) := F_most_cc_81.keep K87 (ninS ne_cc_dd nin0)
      have V_o_cc_87 : Arv Z T87.heap occ kocc .int (4 : Int32) [(.int (0 : Int32)), (.int (0 : Int32)), (.int (0 : Int32)), (.int (0 : Int32))] (.int (0 : Int32)) := V_o_cc_81.keep K87 (ninS ne_occ_dd nin0)
      have V_w_cc_87 : Arv Z T87.heap xcc kxcc .int (4 : Int32) [(.int (0 : Int32)), (.int (0 : Int32)), (.int (0 : Int32)), (.int (0 : Int32))] (.int (0 : Int32)) := V_w_cc_81.keep K87 (ninS ne_xcc_dd nin0)
      have Z87 : n0 ≤ T87.heap.size := Nat.le_trans Z81 K87.1
      have N87 := Fr.app N81 Nq87
      have pre88 := fun τ (κ : Steps p.tables e below (T87.setTop (mkF m 285 #[.val (.int p0), .val (.int p1), .val (.int p2), .val (.int p3), .val (.int md), .val (.int le), .val (.int mo), .val (.int va), .val (.int vb), .val (.int vd), .val (.ref cc), .val (.ref dd), .val (.ref ee), .val (.int (1 : Int32)), .unset, .unset] [])) τ) => pre86 τ (st87.trans κ)
      obtain ⟨E_dd_87, F_oldest_dd_87, F_newest_dd_87, F_first_dd_87, F_runs_dd_87, F_clock_dd_87, F_starting_dd_87, F_least_dd_87, F_most_dd_87, V_o_dd_87, V_w_dd_87⟩ := P87
      exact ⟨T87, T87.heap, _, _, X87, rfl, N87, Z87, E_dd_87, F_oldest_dd_87, F_newest_dd_87, F_first_dd_87, F_runs_dd_87, F_clock_dd_87, F_starting_dd_87, F_least_dd_87, F_most_dd_87, V_o_dd_87, V_w_dd_87, E_ee_87, F_oldest_ee_87, F_newest_ee_87, F_first_ee_87, F_runs_ee_87, F_clock_ee_87, F_starting_ee_87, F_least_ee_87, F_most_ee_87, V_o_ee_87, V_w_ee_87, E_cc_87, F_oldest_cc_87, F_newest_cc_87, F_first_cc_87, F_runs_cc_87, F_clock_cc_87, F_starting_cc_87, F_least_cc_87, F_most_cc_87, V_o_cc_87, V_w_cc_87, Or.inr ⟨qq, rfl⟩, pre88⟩
  have pre89 := fun τ (κ : Steps p.tables e below (T84.setTop (mkF m 289 #[.val (.int p0), .val (.int p1), .val (.int p2), .val (.int p3), .val (.int md), .val (.int le), .val (.int mo), .val (.int va), .val (.int vb), .val (.int vd), .val (.ref cc), .val (.ref dd), .val (.ref ee), .val (.int (1 : Int32)), .unset, .unset] [(.ref dd), (.ref cc)])) τ) => pre84 τ (by
    refine XS.aload X84.here hx rfl (hb hby at_285) rfl rfl ?_
    show Steps p.tables e below (T84.setTop (mkF m 287 #[.val (.int p0), .val (.int p1), .val (.int p2), .val (.int p3), .val (.int md), .val (.int le), .val (.int mo), .val (.int va), .val (.int vb), .val (.int vd), .val (.ref cc), .val (.ref dd), .val (.ref ee), .val (.int (1 : Int32)), .unset, .unset] [(.ref cc)])) _
    refine XS.aload X84.here hx rfl (hb hby at_287) rfl rfl ?_
    show Steps p.tables e below (T84.setTop (mkF m 289 #[.val (.int p0), .val (.int p1), .val (.int p2), .val (.int p3), .val (.int md), .val (.int le), .val (.int mo), .val (.int va), .val (.int vb), .val (.int vd), .val (.ref cc), .val (.ref dd), .val (.ref ee), .val (.int (1 : Int32)), .unset, .unset] [(.ref dd), (.ref cc)])) _
    exact κ)
  obtain ⟨cq90, kq90, q90a, q90b, q90c⟩ := isOf hZ e84 E_cc_84
  obtain ⟨_, _, ⟨T90, L90, k90, n90⟩, -, X90, ⟨Lc90, hQ90, l90, y90, z90⟩, st90⟩ := X84.virtualBack hx (y := (⟨"com/example/fettle/fettle/regex/Counts", "takeInto", "(Lcom/example/fettle/fettle/regex/Counts;)Z"⟩ : MethodName)) (z := (⟨"com/example/fettle/fettle/regex/Counts", "takeInto", "(Lcom/example/fettle/fettle/regex/Counts;)Z"⟩ : MethodName)) hown (mvT hZ (hw _ (List.mem_of_getElem? (i := 37) rfl))) (mvT hZ (hw _ (List.mem_of_getElem? (i := 38) rfl))) (notFace_of_selects (args := #[]) (mvT hZ (hw _ (List.mem_of_getElem? (i := 40) rfl)))) (mvT hZ (hw _ (List.mem_of_getElem? (i := 40) rfl))) (mvT hZ (hw _ (List.mem_of_getElem? (i := 39) rfl))) (by decide) (backOf (W := 0) (rm6a l Z a0 hw [] cc dd occ xcc kocc kxcc 0 0 0 1 le mo [(.int (0 : Int32)), (.int (0 : Int32)), (.int (0 : Int32)), (.int (0 : Int32))] [(.int (0 : Int32)), (.int (0 : Int32)), (.int (0 : Int32)), (.int (0 : Int32))] odd xdd kodd kxdd 0 0 0 sd le mo [(.int (0 : Int32)), (.int (0 : Int32)), (.int (0 : Int32)), (.int (0 : Int32))] [(.int (0 : Int32)), (.int (0 : Int32)), (.int (0 : Int32)), (.int (0 : Int32))] h84 n0 Z84 ⟨E_cc_84, F_oldest_cc_84, F_newest_cc_84, F_first_cc_84, F_runs_cc_84, F_clock_cc_84, F_starting_cc_84, F_least_cc_84, F_most_cc_84, V_o_cc_84, V_w_cc_84⟩ ⟨E_dd_84, F_oldest_dd_84, F_newest_dd_84, F_first_dd_84, F_runs_dd_84, F_clock_dd_84, F_starting_dd_84, F_least_dd_84, F_most_dd_84, V_o_dd_84, V_w_dd_84⟩ rfl (Or.inl rfl) rfl rfl hle0 ne_cc_occ ne_cc_xcc nox31 ne_cc_dd ne_cc_odd ne_cc_xdd (Ne.symm ne_occ_dd) (Ne.symm ne_xcc_dd) ne_dd_odd ne_dd_xdd nox37 ne_occ_odd ne_occ_xdd ne_xcc_odd ne_xcc_xdd g_cc g_occ g_xcc g_dd rfl (Or.inr rfl)) hZ (hw _ (List.mem_of_getElem? (i := 41) rfl)) (hw _ (List.mem_of_getElem? (i := 7) rfl)) (by decide) (by decide)) q90a q90c (g := (mkF m 289 #[.val (.int p0), .val (.int p1), .val (.int p2), .val (.int p3), .val (.int md), .val (.int le), .val (.int mo), .val (.int va), .val (.int vb), .val (.int vd), .val (.ref cc), .val (.ref dd), .val (.ref ee), .val (.int (1 : Int32)), .unset, .unset] [(.ref dd), (.ref cc)])) rfl (by rw [hml]; rfl) (Steps.refl _) (argsL := [(.ref dd)]) (rest := []) (lenOf pd_7 rfl) rfl (by show 2 * 0 + _ ≤ _; exact Nat.le_of_eq rfl) (hb hby at_289) (fun _ _ => ⟨rfl, e84, (by decide : 9 + 0 ≤ _), (by decide : 48 + 0 ≤ _)⟩)
  dsimp only [Pt.U, Pt.locs, Pt.cells, Pt.slots] at X90 l90 y90 z90 st90 hQ90
  subst l90 y90 z90
  obtain ⟨mx88, rfl, Nq90, K90, R90⟩ := hQ90
  have E_dd_90 : Exa Z T90.heap dd "com/example/fettle/fettle/regex/Counts" := E_dd_84.keep K90
  have V_o_dd_90 : Arv Z T90.heap odd kodd .int (4 : Int32) [(.int (0 : Int32)), (.int (0 : Int32)), (.int (0 : Int32)), (.int (0 : Int32))] (.int (0 : Int32)) := V_o_dd_84.keep K90 (ninS (Ne.symm ne_cc_odd) (ninS (Ne.symm ne_occ_odd) (ninS (Ne.symm ne_xcc_odd) (ninS (Ne.symm ne_dd_odd) nin0))))
  have V_w_dd_90 : Arv Z T90.heap xdd kxdd .int (4 : Int32) [(.int (0 : Int32)), (.int (0 : Int32)), (.int (0 : Int32)), (.int (0 : Int32))] (.int (0 : Int32)) := V_w_dd_84.keep K90 (ninS (Ne.symm ne_cc_xdd) (ninS (Ne.symm ne_occ_xdd) (ninS (Ne.symm ne_xcc_xdd) (ninS (Ne.symm ne_dd_xdd) nin0))))
  have E_ee_90 : Exa Z T90.heap ee "com/example/fettle/fettle/regex/Counts" := E_ee_84.keep K90
  have F_oldest_ee_90 : Fld Z T90.heap ee "com/example/fettle/fettle/regex/Counts" "oldest" "[I" (.ref oee) := F_oldest_ee_84.keep K90 (ninS (Ne.symm ne_cc_ee) (ninS (Ne.symm ne_occ_ee) (ninS (Ne.symm ne_xcc_ee) (ninS (Ne.symm ne_dd_ee) nin0))))
  have F_newest_ee_90 : Fld Z T90.heap ee "com/example/fettle/fettle/regex/Counts" "newest" "[I" (.ref xee) := F_newest_ee_84.keep K90 (ninS (Ne.symm ne_cc_ee) (ninS (Ne.symm ne_occ_ee) (ninS (Ne.symm ne_xcc_ee) (ninS (Ne.symm ne_dd_ee) nin0))))
  have F_first_ee_90 : Fld Z T90.heap ee "com/example/fettle/fettle/regex/Counts" "first" "I" (.int 0) := F_first_ee_84.keep K90 (ninS (Ne.symm ne_cc_ee) (ninS (Ne.symm ne_occ_ee) (ninS (Ne.symm ne_xcc_ee) (ninS (Ne.symm ne_dd_ee) nin0))))
  have F_runs_ee_90 : Fld Z T90.heap ee "com/example/fettle/fettle/regex/Counts" "runs" "I" (.int 0) := F_runs_ee_84.keep K90 (ninS (Ne.symm ne_cc_ee) (ninS (Ne.symm ne_occ_ee) (ninS (Ne.symm ne_xcc_ee) (ninS (Ne.symm ne_dd_ee) nin0))))
  have F_clock_ee_90 : Fld Z T90.heap ee "com/example/fettle/fettle/regex/Counts" "clock" "I" (.int 0) := F_clock_ee_84.keep K90 (ninS (Ne.symm ne_cc_ee) (ninS (Ne.symm ne_occ_ee) (ninS (Ne.symm ne_xcc_ee) (ninS (Ne.symm ne_dd_ee) nin0))))
  have F_starting_ee_90 : Fld Z T90.heap ee "com/example/fettle/fettle/regex/Counts" "starting" "Z" (.int 0) := F_starting_ee_84.keep K90 (ninS (Ne.symm ne_cc_ee) (ninS (Ne.symm ne_occ_ee) (ninS (Ne.symm ne_xcc_ee) (ninS (Ne.symm ne_dd_ee) nin0))))
  have F_least_ee_90 : Fld Z T90.heap ee "com/example/fettle/fettle/regex/Counts" "least" "I" (.int le) := F_least_ee_84.keep K90 (ninS (Ne.symm ne_cc_ee) (ninS (Ne.symm ne_occ_ee) (ninS (Ne.symm ne_xcc_ee) (ninS (Ne.symm ne_dd_ee) nin0))))
  have F_most_ee_90 : Fld Z T90.heap ee "com/example/fettle/fettle/regex/Counts" "most" "I" (.int mo) := F_most_ee_84.keep K90 (ninS (Ne.symm ne_cc_ee) (ninS (Ne.symm ne_occ_ee) (ninS (Ne.symm ne_xcc_ee) (ninS (Ne.symm ne_dd_ee) nin0))))
  have V_o_ee_90 : Arv Z T90.heap oee koee .int (4 : Int32) [(.int (0 : Int32)), (.int (0 : Int32)), (.int (0 : Int32)), (.int (0 : Int32))] (.int (0 : Int32)) := V_o_ee_84.keep K90 (ninS (Ne.symm ne_cc_oee) (ninS (Ne.symm ne_occ_oee) (ninS (Ne.symm ne_xcc_oee) (ninS (Ne.symm ne_dd_oee) nin0))))
  have V_w_ee_90 : Arv Z T90.heap xee kxee .int (4 : Int32) [(.int (0 : Int32)), (.int (0 : Int32)), (.int (0 : Int32)), (.int (0 : Int32))] (.int (0 : Int32)) := V_w_ee_84.keep K90 (ninS (Ne.symm ne_cc_xee) (ninS (Ne.symm ne_occ_xee) (ninS (Ne.symm ne_xcc_xee) (ninS (Ne.symm ne_dd_xee) nin0))))
  have E_cc_90 : Exa Z T90.heap cc "com/example/fettle/fettle/regex/Counts" := E_cc_84.keep K90
  have Z90 : n0 ≤ T90.heap.size := Nat.le_trans Z84 K90.1
  have N90 := Fr.app N84 Nq90
  have pre91 := fun τ (κ : Steps p.tables e below (T90.setTop (mkF m 292 #[.val (.int p0), .val (.int p1), .val (.int p2), .val (.int p3), .val (.int md), .val (.int le), .val (.int mo), .val (.int va), .val (.int vb), .val (.int vd), .val (.ref cc), .val (.ref dd), .val (.ref ee), .val (.int (1 : Int32)), .unset, .unset] [(.int mx88)])) τ) => pre89 τ (st90.trans κ)
  obtain ⟨D90, S90⟩ := R90
  have pre92 := fun τ (κ : Steps p.tables e below (T90.setTop (mkF m 295 #[.val (.int p0), .val (.int p1), .val (.int p2), .val (.int p3), .val (.int md), .val (.int le), .val (.int mo), .val (.int va), .val (.int vb), .val (.int vd), .val (.ref cc), .val (.ref dd), .val (.ref ee), .val (.int (1 : Int32)), .unset, .unset] [(.int (1 : Int32))])) τ) => pre91 τ (by
    refine XS.pop X90.here hx rfl (hb hby at_292) rfl rfl ?_
    show Steps p.tables e below (T90.setTop (mkF m 293 #[.val (.int p0), .val (.int p1), .val (.int p2), .val (.int p3), .val (.int md), .val (.int le), .val (.int mo), .val (.int va), .val (.int vb), .val (.int vd), .val (.ref cc), .val (.ref dd), .val (.ref ee), .val (.int (1 : Int32)), .unset, .unset] [])) _
    refine XS.iload X90.here hx rfl (hb hby at_293) rfl ?_
    show Steps p.tables e below (T90.setTop (mkF m 295 #[.val (.int p0), .val (.int p1), .val (.int p2), .val (.int p3), .val (.int md), .val (.int le), .val (.int mo), .val (.int va), .val (.int vb), .val (.int vd), .val (.ref cc), .val (.ref dd), .val (.ref ee), .val (.int (1 : Int32)), .unset, .unset] [(.int (1 : Int32))])) _
    exact κ)
  rcases D90 with ⟨hmo, D90⟩ | ⟨hmo, D90⟩
  · have De : own_C Z T90.heap dd occ xcc kocc kxcc ((0 + 1) &&& ((4 : Int32) - (1 : Int32))) (1 - 1) (0 + 1) sd le mo ([(.int (0 : Int32)), (.int (0 : Int32)), (.int (0 : Int32)), (.int (0 : Int32))].set (0 : Int32).toNatClampNeg (.int 0)) ([(.int (0 : Int32)), (.int (0 : Int32)), (.int (0 : Int32)), (.int (0 : Int32))].set (0 : Int32).toNatClampNeg (.int 0)) := D90
    have Se : own_C Z T90.heap cc odd xdd kodd kxdd 0 0 0 0 le mo [(.int (0 : Int32)), (.int (0 : Int32)), (.int (0 : Int32)), (.int (0 : Int32))] [(.int (0 : Int32)), (.int (0 : Int32)), (.int (0 : Int32)), (.int (0 : Int32))] := S90
    obtain ⟨E_dd_9, F_oldest_dd_9, F_newest_dd_9, F_first_dd_9, F_runs_dd_9, F_clock_dd_9, F_starting_dd_9, F_least_dd_9, F_most_dd_9, V_o_dd_9, V_w_dd_9⟩ := De
    obtain ⟨E_cc_9, F_oldest_cc_9, F_newest_cc_9, F_first_cc_9, F_runs_cc_9, F_clock_cc_9, F_starting_cc_9, F_least_cc_9, F_most_cc_9, V_o_cc_9, V_w_cc_9⟩ := Se
    have pre93 := fun τ (κ : Steps p.tables e below (T90.setTop (mkF m 300 #[.val (.int p0), .val (.int p1), .val (.int p2), .val (.int p3), .val (.int md), .val (.int le), .val (.int mo), .val (.int va), .val (.int vb), .val (.int vd), .val (.ref cc), .val (.ref dd), .val (.ref ee), .val (.int (1 : Int32)), .unset, .unset] [(.ref cc)])) τ) => pre92 τ (by
      refine XS.ifNo X90.here hx rfl (hb hby at_295) rfl ((if0 _ _).trans (feq (by decide)).1) ?_
      show Steps p.tables e below (T90.setTop (mkF m 298 #[.val (.int p0), .val (.int p1), .val (.int p2), .val (.int p3), .val (.int md), .val (.int le), .val (.int mo), .val (.int va), .val (.int vb), .val (.int vd), .val (.ref cc), .val (.ref dd), .val (.ref ee), .val (.int (1 : Int32)), .unset, .unset] [])) _
      refine XS.aload X90.here hx rfl (hb hby at_298) rfl rfl ?_
      show Steps p.tables e below (T90.setTop (mkF m 300 #[.val (.int p0), .val (.int p1), .val (.int p2), .val (.int p3), .val (.int md), .val (.int le), .val (.int mo), .val (.int va), .val (.int vb), .val (.int vd), .val (.ref cc), .val (.ref dd), .val (.ref ee), .val (.int (1 : Int32)), .unset, .unset] [(.ref cc)])) _
      exact κ)
    obtain ⟨cq94, kq94, q94a, q94b, q94c⟩ := isOf hZ rfl E_cc_9
    obtain ⟨_, _, ⟨T94, L94, k94, n94⟩, -, X94, ⟨Lc94, hQ94, l94, y94, z94⟩, st94⟩ := X90.virtualBack hx (y := (⟨"com/example/fettle/fettle/regex/Counts", "isEmpty", "()Z"⟩ : MethodName)) (z := (⟨"com/example/fettle/fettle/regex/Counts", "isEmpty", "()Z"⟩ : MethodName)) hown (mvT hZ (hw _ (List.mem_of_getElem? (i := 23) rfl))) (mvT hZ (hw _ (List.mem_of_getElem? (i := 24) rfl))) (notFace_of_selects (args := #[]) (mvT hZ (hw _ (List.mem_of_getElem? (i := 26) rfl)))) (mvT hZ (hw _ (List.mem_of_getElem? (i := 26) rfl))) (mvT hZ (hw _ (List.mem_of_getElem? (i := 25) rfl))) (by decide) (backOf (W := 0) (rm4 l Z a0 hw [] cc 0 0 T90.heap n0 Z90 F_runs_cc_9 F_starting_cc_9) hZ (hw _ (List.mem_of_getElem? (i := 27) rfl)) (hw _ (List.mem_of_getElem? (i := 7) rfl)) (by decide) (by decide)) q94a q94c (g := (mkF m 300 #[.val (.int p0), .val (.int p1), .val (.int p2), .val (.int p3), .val (.int md), .val (.int le), .val (.int mo), .val (.int va), .val (.int vb), .val (.int vd), .val (.ref cc), .val (.ref dd), .val (.ref ee), .val (.int (1 : Int32)), .unset, .unset] [(.ref cc)])) rfl (by rw [hml]; rfl) (Steps.refl _) (argsL := []) (rest := []) (lenOf pd_6 rfl) rfl (by show 2 * 0 + _ ≤ _; exact Nat.le_of_eq rfl) (hb hby at_300) (fun _ _ => ⟨rfl, rfl, (by decide : 9 + 0 ≤ _), (by decide : 48 + 0 ≤ _)⟩)
    dsimp only [Pt.U, Pt.locs, Pt.cells, Pt.slots] at X94 l94 y94 z94 st94 hQ94
    subst l94 y94 z94
    obtain ⟨rfl, Nq94, hh94⟩ := hQ94
    have E_ee_94 : Exa Z T94.heap ee "com/example/fettle/fettle/regex/Counts" := by rw [hh94]; exact E_ee_90
    have F_oldest_ee_94 : Fld Z T94.heap ee "com/example/fettle/fettle/regex/Counts" "oldest" "[I" (.ref oee) := by rw [hh94]; exact F_oldest_ee_90
    have F_newest_ee_94 : Fld Z T94.heap ee "com/example/fettle/fettle/regex/Counts" "newest" "[I" (.ref xee) := by rw [hh94]; exact F_newest_ee_90
    have F_first_ee_94 : Fld Z T94.heap ee "com/example/fettle/fettle/regex/Counts" "first" "I" (.int 0) := by rw [hh94]; exact F_first_ee_90
    have F_runs_ee_94 : Fld Z T94.heap ee "com/example/fettle/fettle/regex/Counts" "runs" "I" (.int 0) := by rw [hh94]; exact F_runs_ee_90
    have F_clock_ee_94 : Fld Z T94.heap ee "com/example/fettle/fettle/regex/Counts" "clock" "I" (.int 0) := by rw [hh94]; exact F_clock_ee_90
    have F_starting_ee_94 : Fld Z T94.heap ee "com/example/fettle/fettle/regex/Counts" "starting" "Z" (.int 0) := by rw [hh94]; exact F_starting_ee_90
    have F_least_ee_94 : Fld Z T94.heap ee "com/example/fettle/fettle/regex/Counts" "least" "I" (.int le) := by rw [hh94]; exact F_least_ee_90
    have F_most_ee_94 : Fld Z T94.heap ee "com/example/fettle/fettle/regex/Counts" "most" "I" (.int mo) := by rw [hh94]; exact F_most_ee_90
    have V_o_ee_94 : Arv Z T94.heap oee koee .int (4 : Int32) [(.int (0 : Int32)), (.int (0 : Int32)), (.int (0 : Int32)), (.int (0 : Int32))] (.int (0 : Int32)) := by rw [hh94]; exact V_o_ee_90
    have V_w_ee_94 : Arv Z T94.heap xee kxee .int (4 : Int32) [(.int (0 : Int32)), (.int (0 : Int32)), (.int (0 : Int32)), (.int (0 : Int32))] (.int (0 : Int32)) := by rw [hh94]; exact V_w_ee_90
    have E_dd_94 : Exa Z T94.heap dd "com/example/fettle/fettle/regex/Counts" := by rw [hh94]; exact E_dd_9
    have F_oldest_dd_94 : Fld Z T94.heap dd "com/example/fettle/fettle/regex/Counts" "oldest" "[I" (.ref occ) := by rw [hh94]; exact F_oldest_dd_9
    have F_newest_dd_94 : Fld Z T94.heap dd "com/example/fettle/fettle/regex/Counts" "newest" "[I" (.ref xcc) := by rw [hh94]; exact F_newest_dd_9
    have F_first_dd_94 : Fld Z T94.heap dd "com/example/fettle/fettle/regex/Counts" "first" "I" (.int ((0 + 1) &&& ((4 : Int32) - (1 : Int32)))) := by rw [hh94]; exact F_first_dd_9
    have F_runs_dd_94 : Fld Z T94.heap dd "com/example/fettle/fettle/regex/Counts" "runs" "I" (.int (1 - 1)) := by rw [hh94]; exact F_runs_dd_9
    have F_clock_dd_94 : Fld Z T94.heap dd "com/example/fettle/fettle/regex/Counts" "clock" "I" (.int (0 + 1)) := by rw [hh94]; exact F_clock_dd_9
    have F_starting_dd_94 : Fld Z T94.heap dd "com/example/fettle/fettle/regex/Counts" "starting" "Z" (.int sd) := by rw [hh94]; exact F_starting_dd_9
    have F_least_dd_94 : Fld Z T94.heap dd "com/example/fettle/fettle/regex/Counts" "least" "I" (.int le) := by rw [hh94]; exact F_least_dd_9
    have F_most_dd_94 : Fld Z T94.heap dd "com/example/fettle/fettle/regex/Counts" "most" "I" (.int mo) := by rw [hh94]; exact F_most_dd_9
    have V_o_dd_94 : Arv Z T94.heap occ kocc .int (4 : Int32) ([(.int (0 : Int32)), (.int (0 : Int32)), (.int (0 : Int32)), (.int (0 : Int32))].set (0 : Int32).toNatClampNeg (.int 0)) (.int (0 : Int32)) := by rw [hh94]; exact V_o_dd_9
    have V_w_dd_94 : Arv Z T94.heap xcc kxcc .int (4 : Int32) ([(.int (0 : Int32)), (.int (0 : Int32)), (.int (0 : Int32)), (.int (0 : Int32))].set (0 : Int32).toNatClampNeg (.int 0)) (.int (0 : Int32)) := by rw [hh94]; exact V_w_dd_9
    have E_cc_94 : Exa Z T94.heap cc "com/example/fettle/fettle/regex/Counts" := by rw [hh94]; exact E_cc_9
    have F_oldest_cc_94 : Fld Z T94.heap cc "com/example/fettle/fettle/regex/Counts" "oldest" "[I" (.ref odd) := by rw [hh94]; exact F_oldest_cc_9
    have F_newest_cc_94 : Fld Z T94.heap cc "com/example/fettle/fettle/regex/Counts" "newest" "[I" (.ref xdd) := by rw [hh94]; exact F_newest_cc_9
    have F_first_cc_94 : Fld Z T94.heap cc "com/example/fettle/fettle/regex/Counts" "first" "I" (.int 0) := by rw [hh94]; exact F_first_cc_9
    have F_runs_cc_94 : Fld Z T94.heap cc "com/example/fettle/fettle/regex/Counts" "runs" "I" (.int 0) := by rw [hh94]; exact F_runs_cc_9
    have F_clock_cc_94 : Fld Z T94.heap cc "com/example/fettle/fettle/regex/Counts" "clock" "I" (.int 0) := by rw [hh94]; exact F_clock_cc_9
    have F_starting_cc_94 : Fld Z T94.heap cc "com/example/fettle/fettle/regex/Counts" "starting" "Z" (.int 0) := by rw [hh94]; exact F_starting_cc_9
    have F_least_cc_94 : Fld Z T94.heap cc "com/example/fettle/fettle/regex/Counts" "least" "I" (.int le) := by rw [hh94]; exact F_least_cc_9
    have F_most_cc_94 : Fld Z T94.heap cc "com/example/fettle/fettle/regex/Counts" "most" "I" (.int mo) := by rw [hh94]; exact F_most_cc_9
    have V_o_cc_94 : Arv Z T94.heap odd kodd .int (4 : Int32) [(.int (0 : Int32)), (.int (0 : Int32)), (.int (0 : Int32)), (.int (0 : Int32))] (.int (0 : Int32)) := by rw [hh94]; exact V_o_cc_9
    have V_w_cc_94 : Arv Z T94.heap xdd kxdd .int (4 : Int32) [(.int (0 : Int32)), (.int (0 : Int32)), (.int (0 : Int32)), (.int (0 : Int32))] (.int (0 : Int32)) := by rw [hh94]; exact V_w_cc_9
    have Z94 : n0 ≤ T94.heap.size := by rw [hh94]; exact Z90
    have N94 := Fr.app N90 Nq94
    have pre95 := fun τ (κ : Steps p.tables e below (T94.setTop (mkF m 303 #[.val (.int p0), .val (.int p1), .val (.int p2), .val (.int p3), .val (.int md), .val (.int le), .val (.int mo), .val (.int va), .val (.int vb), .val (.int vd), .val (.ref cc), .val (.ref dd), .val (.ref ee), .val (.int (1 : Int32)), .unset, .unset] [(.int (own_emp 0 0))])) τ) => pre93 τ (st94.trans κ)
    have pre96 := fun τ (κ : Steps p.tables e below (T94.setTop (mkF m 315 #[.val (.int p0), .val (.int p1), .val (.int p2), .val (.int p3), .val (.int md), .val (.int le), .val (.int mo), .val (.int va), .val (.int vb), .val (.int vd), .val (.ref cc), .val (.ref dd), .val (.ref ee), .val (.int (1 : Int32)), .unset, .unset] [(.int vd)])) τ) => pre95 τ (by
      refine XS.ifNo X94.here hx rfl (hb hby at_303) rfl ((if0 _ _).trans (feq (by decide)).1) ?_
      show Steps p.tables e below (T94.setTop (mkF m 306 #[.val (.int p0), .val (.int p1), .val (.int p2), .val (.int p3), .val (.int md), .val (.int le), .val (.int mo), .val (.int va), .val (.int vb), .val (.int vd), .val (.ref cc), .val (.ref dd), .val (.ref ee), .val (.int (1 : Int32)), .unset, .unset] [])) _
      refine XS.iconst X94.here hx rfl (hb hby at_306) ?_
      show Steps p.tables e below (T94.setTop (mkF m 307 #[.val (.int p0), .val (.int p1), .val (.int p2), .val (.int p3), .val (.int md), .val (.int le), .val (.int mo), .val (.int va), .val (.int vb), .val (.int vd), .val (.ref cc), .val (.ref dd), .val (.ref ee), .val (.int (1 : Int32)), .unset, .unset] [(.int (1 : Int32))])) _
      refine XS.goto X94.here hx rfl (pc0 := 307) (pc' := 311) rfl (hb hby at_307) (by decide) (by decide) ?_
      show Steps p.tables e below (T94.setTop (mkF m 311 #[.val (.int p0), .val (.int p1), .val (.int p2), .val (.int p3), .val (.int md), .val (.int le), .val (.int mo), .val (.int va), .val (.int vb), .val (.int vd), .val (.ref cc), .val (.ref dd), .val (.ref ee), .val (.int (1 : Int32)), .unset, .unset] [(.int (1 : Int32))])) _
      refine XS.istore X94.here hx rfl (hb hby at_311) rfl (l' := #[.val (.int p0), .val (.int p1), .val (.int p2), .val (.int p3), .val (.int md), .val (.int le), .val (.int mo), .val (.int va), .val (.int vb), .val (.int vd), .val (.ref cc), .val (.ref dd), .val (.ref ee), .val (.int (1 : Int32)), .unset, .unset]) rfl ?_
      show Steps p.tables e below (T94.setTop (mkF m 313 #[.val (.int p0), .val (.int p1), .val (.int p2), .val (.int p3), .val (.int md), .val (.int le), .val (.int mo), .val (.int va), .val (.int vb), .val (.int vd), .val (.ref cc), .val (.ref dd), .val (.ref ee), .val (.int (1 : Int32)), .unset, .unset] [])) _
      refine XS.iload X94.here hx rfl (hb hby at_313) rfl ?_
      show Steps p.tables e below (T94.setTop (mkF m 315 #[.val (.int p0), .val (.int p1), .val (.int p2), .val (.int p3), .val (.int md), .val (.int le), .val (.int mo), .val (.int va), .val (.int vb), .val (.int vd), .val (.ref cc), .val (.ref dd), .val (.ref ee), .val (.int (1 : Int32)), .unset, .unset] [(.int vd)])) _
      exact κ)
    by_cases qv : vd = (0 : Int32)
    · have hs0 := (hsd.resolve_right fun z => z.1 qv).2
      have Fx_starting_dd : Fld Z T94.heap dd "com/example/fettle/fettle/regex/Counts" "starting" "Z" (.int 0) := by have q := F_starting_dd_94; rw [hs0] at q; exact q
      have pre97 := fun τ (κ : Steps p.tables e below (T94.setTop (mkF m 338 #[.val (.int p0), .val (.int p1), .val (.int p2), .val (.int p3), .val (.int md), .val (.int le), .val (.int mo), .val (.int va), .val (.int vb), .val (.int vd), .val (.ref cc), .val (.ref dd), .val (.ref ee), .val (.int (1 : Int32)), .val (.int (1 : Int32)), .unset] [(.ref dd)])) τ) => pre96 τ (by
        refine XS.ifNo X94.here hx rfl (hb hby at_315) rfl ((if0 _ _).trans (teq qv).2) ?_
        show Steps p.tables e below (T94.setTop (mkF m 318 #[.val (.int p0), .val (.int p1), .val (.int p2), .val (.int p3), .val (.int md), .val (.int le), .val (.int mo), .val (.int va), .val (.int vb), .val (.int vd), .val (.ref cc), .val (.ref dd), .val (.ref ee), .val (.int (1 : Int32)), .unset, .unset] [])) _
        refine XS.iload X94.here hx rfl (hb hby at_318) rfl ?_
        show Steps p.tables e below (T94.setTop (mkF m 320 #[.val (.int p0), .val (.int p1), .val (.int p2), .val (.int p3), .val (.int md), .val (.int le), .val (.int mo), .val (.int va), .val (.int vb), .val (.int vd), .val (.ref cc), .val (.ref dd), .val (.ref ee), .val (.int (1 : Int32)), .unset, .unset] [(.int mo)])) _
        refine XS.iconst X94.here hx rfl (hb hby at_320) ?_
        show Steps p.tables e below (T94.setTop (mkF m 321 #[.val (.int p0), .val (.int p1), .val (.int p2), .val (.int p3), .val (.int md), .val (.int le), .val (.int mo), .val (.int va), .val (.int vb), .val (.int vd), .val (.ref cc), .val (.ref dd), .val (.ref ee), .val (.int (1 : Int32)), .unset, .unset] [(.int (1 : Int32)), (.int mo)])) _
        refine XS.icmpNo X94.here hx rfl (hb hby at_321) rfl (teq hmo).2 ?_
        show Steps p.tables e below (T94.setTop (mkF m 324 #[.val (.int p0), .val (.int p1), .val (.int p2), .val (.int p3), .val (.int md), .val (.int le), .val (.int mo), .val (.int va), .val (.int vb), .val (.int vd), .val (.ref cc), .val (.ref dd), .val (.ref ee), .val (.int (1 : Int32)), .unset, .unset] [])) _
        refine XS.iconst X94.here hx rfl (hb hby at_324) ?_
        show Steps p.tables e below (T94.setTop (mkF m 325 #[.val (.int p0), .val (.int p1), .val (.int p2), .val (.int p3), .val (.int md), .val (.int le), .val (.int mo), .val (.int va), .val (.int vb), .val (.int vd), .val (.ref cc), .val (.ref dd), .val (.ref ee), .val (.int (1 : Int32)), .unset, .unset] [(.int (1 : Int32))])) _
        refine XS.goto X94.here hx rfl (pc0 := 325) (pc' := 329) rfl (hb hby at_325) (by decide) (by decide) ?_
        show Steps p.tables e below (T94.setTop (mkF m 329 #[.val (.int p0), .val (.int p1), .val (.int p2), .val (.int p3), .val (.int md), .val (.int le), .val (.int mo), .val (.int va), .val (.int vb), .val (.int vd), .val (.ref cc), .val (.ref dd), .val (.ref ee), .val (.int (1 : Int32)), .unset, .unset] [(.int (1 : Int32))])) _
        refine XS.istore X94.here hx rfl (hb hby at_329) rfl (l' := #[.val (.int p0), .val (.int p1), .val (.int p2), .val (.int p3), .val (.int md), .val (.int le), .val (.int mo), .val (.int va), .val (.int vb), .val (.int vd), .val (.ref cc), .val (.ref dd), .val (.ref ee), .val (.int (1 : Int32)), .val (.int (1 : Int32)), .unset]) rfl ?_
        show Steps p.tables e below (T94.setTop (mkF m 331 #[.val (.int p0), .val (.int p1), .val (.int p2), .val (.int p3), .val (.int md), .val (.int le), .val (.int mo), .val (.int va), .val (.int vb), .val (.int vd), .val (.ref cc), .val (.ref dd), .val (.ref ee), .val (.int (1 : Int32)), .val (.int (1 : Int32)), .unset] [])) _
        refine XS.iload X94.here hx rfl (hb hby at_331) rfl ?_
        show Steps p.tables e below (T94.setTop (mkF m 333 #[.val (.int p0), .val (.int p1), .val (.int p2), .val (.int p3), .val (.int md), .val (.int le), .val (.int mo), .val (.int va), .val (.int vb), .val (.int vd), .val (.ref cc), .val (.ref dd), .val (.ref ee), .val (.int (1 : Int32)), .val (.int (1 : Int32)), .unset] [(.int (1 : Int32))])) _
        refine XS.ifNo X94.here hx rfl (hb hby at_333) rfl ((if0 _ _).trans (feq (by decide)).1) ?_
        show Steps p.tables e below (T94.setTop (mkF m 336 #[.val (.int p0), .val (.int p1), .val (.int p2), .val (.int p3), .val (.int md), .val (.int le), .val (.int mo), .val (.int va), .val (.int vb), .val (.int vd), .val (.ref cc), .val (.ref dd), .val (.ref ee), .val (.int (1 : Int32)), .val (.int (1 : Int32)), .unset] [])) _
        refine XS.aload X94.here hx rfl (hb hby at_336) rfl rfl ?_
        show Steps p.tables e below (T94.setTop (mkF m 338 #[.val (.int p0), .val (.int p1), .val (.int p2), .val (.int p3), .val (.int md), .val (.int le), .val (.int mo), .val (.int va), .val (.int vb), .val (.int vd), .val (.ref cc), .val (.ref dd), .val (.ref ee), .val (.int (1 : Int32)), .val (.int (1 : Int32)), .unset] [(.ref dd)])) _
        exact κ)
      obtain ⟨cq98, kq98, q98a, q98b, q98c⟩ := isOf hZ rfl E_dd_94
      obtain ⟨_, _, ⟨T98, L98, k98, n98⟩, -, X98, ⟨Lc98, hQ98, l98, y98, z98⟩, st98⟩ := X94.virtualBack hx (y := (⟨"com/example/fettle/fettle/regex/Counts", "isEmpty", "()Z"⟩ : MethodName)) (z := (⟨"com/example/fettle/fettle/regex/Counts", "isEmpty", "()Z"⟩ : MethodName)) hown (mvT hZ (hw _ (List.mem_of_getElem? (i := 23) rfl))) (mvT hZ (hw _ (List.mem_of_getElem? (i := 24) rfl))) (notFace_of_selects (args := #[]) (mvT hZ (hw _ (List.mem_of_getElem? (i := 26) rfl)))) (mvT hZ (hw _ (List.mem_of_getElem? (i := 26) rfl))) (mvT hZ (hw _ (List.mem_of_getElem? (i := 25) rfl))) (by decide) (backOf (W := 0) (rm4 l Z a0 hw [] dd (1 - 1) 0 T94.heap n0 Z94 F_runs_dd_94 Fx_starting_dd) hZ (hw _ (List.mem_of_getElem? (i := 27) rfl)) (hw _ (List.mem_of_getElem? (i := 7) rfl)) (by decide) (by decide)) q98a q98c (g := (mkF m 338 #[.val (.int p0), .val (.int p1), .val (.int p2), .val (.int p3), .val (.int md), .val (.int le), .val (.int mo), .val (.int va), .val (.int vb), .val (.int vd), .val (.ref cc), .val (.ref dd), .val (.ref ee), .val (.int (1 : Int32)), .val (.int (1 : Int32)), .unset] [(.ref dd)])) rfl (by rw [hml]; rfl) (Steps.refl _) (argsL := []) (rest := []) (lenOf pd_6 rfl) rfl (by show 2 * 0 + _ ≤ _; exact Nat.le_of_eq rfl) (hb hby at_338) (fun _ _ => ⟨rfl, rfl, (by decide : 9 + 0 ≤ _), (by decide : 48 + 0 ≤ _)⟩)
      dsimp only [Pt.U, Pt.locs, Pt.cells, Pt.slots] at X98 l98 y98 z98 st98 hQ98
      subst l98 y98 z98
      obtain ⟨rfl, Nq98, hh98⟩ := hQ98
      have E_ee_98 : Exa Z T98.heap ee "com/example/fettle/fettle/regex/Counts" := by rw [hh98]; exact E_ee_94
      have F_oldest_ee_98 : Fld Z T98.heap ee "com/example/fettle/fettle/regex/Counts" "oldest" "[I" (.ref oee) := by rw [hh98]; exact F_oldest_ee_94
      have F_newest_ee_98 : Fld Z T98.heap ee "com/example/fettle/fettle/regex/Counts" "newest" "[I" (.ref xee) := by rw [hh98]; exact F_newest_ee_94
      have F_first_ee_98 : Fld Z T98.heap ee "com/example/fettle/fettle/regex/Counts" "first" "I" (.int 0) := by rw [hh98]; exact F_first_ee_94
      have F_runs_ee_98 : Fld Z T98.heap ee "com/example/fettle/fettle/regex/Counts" "runs" "I" (.int 0) := by rw [hh98]; exact F_runs_ee_94
      have F_clock_ee_98 : Fld Z T98.heap ee "com/example/fettle/fettle/regex/Counts" "clock" "I" (.int 0) := by rw [hh98]; exact F_clock_ee_94
      have F_starting_ee_98 : Fld Z T98.heap ee "com/example/fettle/fettle/regex/Counts" "starting" "Z" (.int 0) := by rw [hh98]; exact F_starting_ee_94
      have F_least_ee_98 : Fld Z T98.heap ee "com/example/fettle/fettle/regex/Counts" "least" "I" (.int le) := by rw [hh98]; exact F_least_ee_94
      have F_most_ee_98 : Fld Z T98.heap ee "com/example/fettle/fettle/regex/Counts" "most" "I" (.int mo) := by rw [hh98]; exact F_most_ee_94
      have V_o_ee_98 : Arv Z T98.heap oee koee .int (4 : Int32) [(.int (0 : Int32)), (.int (0 : Int32)), (.int (0 : Int32)), (.int (0 : Int32))] (.int (0 : Int32)) := by rw [hh98]; exact V_o_ee_94
      have V_w_ee_98 : Arv Z T98.heap xee kxee .int (4 : Int32) [(.int (0 : Int32)), (.int (0 : Int32)), (.int (0 : Int32)), (.int (0 : Int32))] (.int (0 : Int32)) := by rw [hh98]; exact V_w_ee_94
      have E_dd_98 : Exa Z T98.heap dd "com/example/fettle/fettle/regex/Counts" := by rw [hh98]; exact E_dd_94
      have F_oldest_dd_98 : Fld Z T98.heap dd "com/example/fettle/fettle/regex/Counts" "oldest" "[I" (.ref occ) := by rw [hh98]; exact F_oldest_dd_94
      have F_newest_dd_98 : Fld Z T98.heap dd "com/example/fettle/fettle/regex/Counts" "newest" "[I" (.ref xcc) := by rw [hh98]; exact F_newest_dd_94
      have F_first_dd_98 : Fld Z T98.heap dd "com/example/fettle/fettle/regex/Counts" "first" "I" (.int ((0 + 1) &&& ((4 : Int32) - (1 : Int32)))) := by rw [hh98]; exact F_first_dd_94
      have F_runs_dd_98 : Fld Z T98.heap dd "com/example/fettle/fettle/regex/Counts" "runs" "I" (.int (1 - 1)) := by rw [hh98]; exact F_runs_dd_94
      have F_clock_dd_98 : Fld Z T98.heap dd "com/example/fettle/fettle/regex/Counts" "clock" "I" (.int (0 + 1)) := by rw [hh98]; exact F_clock_dd_94
      have Fx_starting_dd_98 : Fld Z T98.heap dd "com/example/fettle/fettle/regex/Counts" "starting" "Z" (.int 0) := by rw [hh98]; exact Fx_starting_dd
      have F_least_dd_98 : Fld Z T98.heap dd "com/example/fettle/fettle/regex/Counts" "least" "I" (.int le) := by rw [hh98]; exact F_least_dd_94
      have F_most_dd_98 : Fld Z T98.heap dd "com/example/fettle/fettle/regex/Counts" "most" "I" (.int mo) := by rw [hh98]; exact F_most_dd_94
      have V_o_dd_98 : Arv Z T98.heap occ kocc .int (4 : Int32) ([(.int (0 : Int32)), (.int (0 : Int32)), (.int (0 : Int32)), (.int (0 : Int32))].set (0 : Int32).toNatClampNeg (.int 0)) (.int (0 : Int32)) := by rw [hh98]; exact V_o_dd_94
      have V_w_dd_98 : Arv Z T98.heap xcc kxcc .int (4 : Int32) ([(.int (0 : Int32)), (.int (0 : Int32)), (.int (0 : Int32)), (.int (0 : Int32))].set (0 : Int32).toNatClampNeg (.int 0)) (.int (0 : Int32)) := by rw [hh98]; exact V_w_dd_94
      have E_cc_98 : Exa Z T98.heap cc "com/example/fettle/fettle/regex/Counts" := by rw [hh98]; exact E_cc_94
      have F_oldest_cc_98 : Fld Z T98.heap cc "com/example/fettle/fettle/regex/Counts" "oldest" "[I" (.ref odd) := by rw [hh98]; exact F_oldest_cc_94
      have F_newest_cc_98 : Fld Z T98.heap cc "com/example/fettle/fettle/regex/Counts" "newest" "[I" (.ref xdd) := by rw [hh98]; exact F_newest_cc_94
      have F_first_cc_98 : Fld Z T98.heap cc "com/example/fettle/fettle/regex/Counts" "first" "I" (.int 0) := by rw [hh98]; exact F_first_cc_94
      have F_runs_cc_98 : Fld Z T98.heap cc "com/example/fettle/fettle/regex/Counts" "runs" "I" (.int 0) := by rw [hh98]; exact F_runs_cc_94
      have F_clock_cc_98 : Fld Z T98.heap cc "com/example/fettle/fettle/regex/Counts" "clock" "I" (.int 0) := by rw [hh98]; exact F_clock_cc_94
      have F_starting_cc_98 : Fld Z T98.heap cc "com/example/fettle/fettle/regex/Counts" "starting" "Z" (.int 0) := by rw [hh98]; exact F_starting_cc_94
      have F_least_cc_98 : Fld Z T98.heap cc "com/example/fettle/fettle/regex/Counts" "least" "I" (.int le) := by rw [hh98]; exact F_least_cc_94
      have F_most_cc_98 : Fld Z T98.heap cc "com/example/fettle/fettle/regex/Counts" "most" "I" (.int mo) := by rw [hh98]; exact F_most_cc_94
      have V_o_cc_98 : Arv Z T98.heap odd kodd .int (4 : Int32) [(.int (0 : Int32)), (.int (0 : Int32)), (.int (0 : Int32)), (.int (0 : Int32))] (.int (0 : Int32)) := by rw [hh98]; exact V_o_cc_94
      have V_w_cc_98 : Arv Z T98.heap xdd kxdd .int (4 : Int32) [(.int (0 : Int32)), (.int (0 : Int32)), (.int (0 : Int32)), (.int (0 : Int32))] (.int (0 : Int32)) := by rw [hh98]; exact V_w_cc_94
      have Z98 : n0 ≤ T98.heap.size := by rw [hh98]; exact Z94
      have N98 := Fr.app N94 Nq98
      have pre99 := fun τ (κ : Steps p.tables e below (T98.setTop (mkF m 341 #[.val (.int p0), .val (.int p1), .val (.int p2), .val (.int p3), .val (.int md), .val (.int le), .val (.int mo), .val (.int va), .val (.int vb), .val (.int vd), .val (.ref cc), .val (.ref dd), .val (.ref ee), .val (.int (1 : Int32)), .val (.int (1 : Int32)), .unset] [(.int (own_emp (1 - 1) 0))])) τ) => pre97 τ (st98.trans κ)
      have pre100 := fun τ (κ : Steps p.tables e below (T98.setTop (mkF m 430 #[.val (.int p0), .val (.int p1), .val (.int p2), .val (.int p3), .val (.int md), .val (.int le), .val (.int mo), .val (.int va), .val (.int vb), .val (.int vd), .val (.ref cc), .val (.ref dd), .val (.ref ee), .val (.int (1 : Int32)), .val (.int (1 : Int32)), .unset] [(.int (1 : Int32))])) τ) => pre99 τ (by
        refine XS.iload X98.here hx rfl (hb hby at_341) rfl ?_
        show Steps p.tables e below (T98.setTop (mkF m 343 #[.val (.int p0), .val (.int p1), .val (.int p2), .val (.int p3), .val (.int md), .val (.int le), .val (.int mo), .val (.int va), .val (.int vb), .val (.int vd), .val (.ref cc), .val (.ref dd), .val (.ref ee), .val (.int (1 : Int32)), .val (.int (1 : Int32)), .unset] [(.int (1 : Int32)), (.int (own_emp (1 - 1) 0))])) _
        refine XS.icmpNo X98.here hx rfl (hb hby at_343) rfl (teq (by decide)).2 ?_
        show Steps p.tables e below (T98.setTop (mkF m 346 #[.val (.int p0), .val (.int p1), .val (.int p2), .val (.int p3), .val (.int md), .val (.int le), .val (.int mo), .val (.int va), .val (.int vb), .val (.int vd), .val (.ref cc), .val (.ref dd), .val (.ref ee), .val (.int (1 : Int32)), .val (.int (1 : Int32)), .unset] [])) _
        refine XS.iconst X98.here hx rfl (hb hby at_346) ?_
        show Steps p.tables e below (T98.setTop (mkF m 347 #[.val (.int p0), .val (.int p1), .val (.int p2), .val (.int p3), .val (.int md), .val (.int le), .val (.int mo), .val (.int va), .val (.int vb), .val (.int vd), .val (.ref cc), .val (.ref dd), .val (.ref ee), .val (.int (1 : Int32)), .val (.int (1 : Int32)), .unset] [(.int (1 : Int32))])) _
        refine XS.goto X98.here hx rfl (pc0 := 347) (pc' := 351) rfl (hb hby at_347) (by decide) (by decide) ?_
        show Steps p.tables e below (T98.setTop (mkF m 351 #[.val (.int p0), .val (.int p1), .val (.int p2), .val (.int p3), .val (.int md), .val (.int le), .val (.int mo), .val (.int va), .val (.int vb), .val (.int vd), .val (.ref cc), .val (.ref dd), .val (.ref ee), .val (.int (1 : Int32)), .val (.int (1 : Int32)), .unset] [(.int (1 : Int32))])) _
        refine XS.istore X98.here hx rfl (hb hby at_351) rfl (l' := #[.val (.int p0), .val (.int p1), .val (.int p2), .val (.int p3), .val (.int md), .val (.int le), .val (.int mo), .val (.int va), .val (.int vb), .val (.int vd), .val (.ref cc), .val (.ref dd), .val (.ref ee), .val (.int (1 : Int32)), .val (.int (1 : Int32)), .unset]) rfl ?_
        show Steps p.tables e below (T98.setTop (mkF m 353 #[.val (.int p0), .val (.int p1), .val (.int p2), .val (.int p3), .val (.int md), .val (.int le), .val (.int mo), .val (.int va), .val (.int vb), .val (.int vd), .val (.ref cc), .val (.ref dd), .val (.ref ee), .val (.int (1 : Int32)), .val (.int (1 : Int32)), .unset] [])) _
        refine XS.iload X98.here hx rfl (hb hby at_353) rfl ?_
        show Steps p.tables e below (T98.setTop (mkF m 355 #[.val (.int p0), .val (.int p1), .val (.int p2), .val (.int p3), .val (.int md), .val (.int le), .val (.int mo), .val (.int va), .val (.int vb), .val (.int vd), .val (.ref cc), .val (.ref dd), .val (.ref ee), .val (.int (1 : Int32)), .val (.int (1 : Int32)), .unset] [(.int (1 : Int32))])) _
        refine XS.ifYes X98.here hx rfl (pc0 := 355) (pc' := 428) rfl (hb hby at_355) rfl ((if0 _ _).trans (feq (by decide)).2) (by decide) (by decide) ?_
        show Steps p.tables e below (T98.setTop (mkF m 428 #[.val (.int p0), .val (.int p1), .val (.int p2), .val (.int p3), .val (.int md), .val (.int le), .val (.int mo), .val (.int va), .val (.int vb), .val (.int vd), .val (.ref cc), .val (.ref dd), .val (.ref ee), .val (.int (1 : Int32)), .val (.int (1 : Int32)), .unset] [])) _
        refine XS.iload X98.here hx rfl (hb hby at_428) rfl ?_
        show Steps p.tables e below (T98.setTop (mkF m 430 #[.val (.int p0), .val (.int p1), .val (.int p2), .val (.int p3), .val (.int md), .val (.int le), .val (.int mo), .val (.int va), .val (.int vb), .val (.int vd), .val (.ref cc), .val (.ref dd), .val (.ref ee), .val (.int (1 : Int32)), .val (.int (1 : Int32)), .unset] [(.int (1 : Int32))])) _
        exact κ)
      obtain ⟨fs, hr, hrun, hended, hW, hsame⟩ := X98.leave (v := some (.int (1 : Int32))) (fun h => by rw [Bd.returns] at h; cases h)
      refine ⟨_, _, pre100 _ ?_, hrun, hended, _, _, rfl, ?_, ⟨_, rfl⟩, hW, hsame.mono (by decide) (by decide)⟩
      · exact retN X98 hx (t := .boolean) Bd.returns (by simp) (hb hby at_430) hr
      · show Q0 Z p0 p1 p2 p3 h0 n0 _ T98.heap _
        exact ⟨rfl, N98⟩
    · have hs0 := (hsd.resolve_left fun z => qv z.1).2
      have Fx_starting_dd : Fld Z T94.heap dd "com/example/fettle/fettle/regex/Counts" "starting" "Z" (.int 1) := by have q := F_starting_dd_94; rw [hs0] at q; exact q
      have pre101 := fun τ (κ : Steps p.tables e below (T94.setTop (mkF m 338 #[.val (.int p0), .val (.int p1), .val (.int p2), .val (.int p3), .val (.int md), .val (.int le), .val (.int mo), .val (.int va), .val (.int vb), .val (.int vd), .val (.ref cc), .val (.ref dd), .val (.ref ee), .val (.int (1 : Int32)), .val (.int (0 : Int32)), .unset] [(.ref dd)])) τ) => pre96 τ (by
        refine XS.ifYes X94.here hx rfl (pc0 := 315) (pc' := 328) rfl (hb hby at_315) rfl ((if0 _ _).trans (feq qv).2) (by decide) (by decide) ?_
        show Steps p.tables e below (T94.setTop (mkF m 328 #[.val (.int p0), .val (.int p1), .val (.int p2), .val (.int p3), .val (.int md), .val (.int le), .val (.int mo), .val (.int va), .val (.int vb), .val (.int vd), .val (.ref cc), .val (.ref dd), .val (.ref ee), .val (.int (1 : Int32)), .unset, .unset] [])) _
        refine XS.iconst X94.here hx rfl (hb hby at_328) ?_
        show Steps p.tables e below (T94.setTop (mkF m 329 #[.val (.int p0), .val (.int p1), .val (.int p2), .val (.int p3), .val (.int md), .val (.int le), .val (.int mo), .val (.int va), .val (.int vb), .val (.int vd), .val (.ref cc), .val (.ref dd), .val (.ref ee), .val (.int (1 : Int32)), .unset, .unset] [(.int (0 : Int32))])) _
        refine XS.istore X94.here hx rfl (hb hby at_329) rfl (l' := #[.val (.int p0), .val (.int p1), .val (.int p2), .val (.int p3), .val (.int md), .val (.int le), .val (.int mo), .val (.int va), .val (.int vb), .val (.int vd), .val (.ref cc), .val (.ref dd), .val (.ref ee), .val (.int (1 : Int32)), .val (.int (0 : Int32)), .unset]) rfl ?_
        show Steps p.tables e below (T94.setTop (mkF m 331 #[.val (.int p0), .val (.int p1), .val (.int p2), .val (.int p3), .val (.int md), .val (.int le), .val (.int mo), .val (.int va), .val (.int vb), .val (.int vd), .val (.ref cc), .val (.ref dd), .val (.ref ee), .val (.int (1 : Int32)), .val (.int (0 : Int32)), .unset] [])) _
        refine XS.iload X94.here hx rfl (hb hby at_331) rfl ?_
        show Steps p.tables e below (T94.setTop (mkF m 333 #[.val (.int p0), .val (.int p1), .val (.int p2), .val (.int p3), .val (.int md), .val (.int le), .val (.int mo), .val (.int va), .val (.int vb), .val (.int vd), .val (.ref cc), .val (.ref dd), .val (.ref ee), .val (.int (1 : Int32)), .val (.int (0 : Int32)), .unset] [(.int (1 : Int32))])) _
        refine XS.ifNo X94.here hx rfl (hb hby at_333) rfl ((if0 _ _).trans (feq (by decide)).1) ?_
        show Steps p.tables e below (T94.setTop (mkF m 336 #[.val (.int p0), .val (.int p1), .val (.int p2), .val (.int p3), .val (.int md), .val (.int le), .val (.int mo), .val (.int va), .val (.int vb), .val (.int vd), .val (.ref cc), .val (.ref dd), .val (.ref ee), .val (.int (1 : Int32)), .val (.int (0 : Int32)), .unset] [])) _
        refine XS.aload X94.here hx rfl (hb hby at_336) rfl rfl ?_
        show Steps p.tables e below (T94.setTop (mkF m 338 #[.val (.int p0), .val (.int p1), .val (.int p2), .val (.int p3), .val (.int md), .val (.int le), .val (.int mo), .val (.int va), .val (.int vb), .val (.int vd), .val (.ref cc), .val (.ref dd), .val (.ref ee), .val (.int (1 : Int32)), .val (.int (0 : Int32)), .unset] [(.ref dd)])) _
        exact κ)
      obtain ⟨cq102, kq102, q102a, q102b, q102c⟩ := isOf hZ rfl E_dd_94
      obtain ⟨_, _, ⟨T102, L102, k102, n102⟩, -, X102, ⟨Lc102, hQ102, l102, y102, z102⟩, st102⟩ := X94.virtualBack hx (y := (⟨"com/example/fettle/fettle/regex/Counts", "isEmpty", "()Z"⟩ : MethodName)) (z := (⟨"com/example/fettle/fettle/regex/Counts", "isEmpty", "()Z"⟩ : MethodName)) hown (mvT hZ (hw _ (List.mem_of_getElem? (i := 23) rfl))) (mvT hZ (hw _ (List.mem_of_getElem? (i := 24) rfl))) (notFace_of_selects (args := #[]) (mvT hZ (hw _ (List.mem_of_getElem? (i := 26) rfl)))) (mvT hZ (hw _ (List.mem_of_getElem? (i := 26) rfl))) (mvT hZ (hw _ (List.mem_of_getElem? (i := 25) rfl))) (by decide) (backOf (W := 0) (rm4 l Z a0 hw [] dd (1 - 1) 1 T94.heap n0 Z94 F_runs_dd_94 Fx_starting_dd) hZ (hw _ (List.mem_of_getElem? (i := 27) rfl)) (hw _ (List.mem_of_getElem? (i := 7) rfl)) (by decide) (by decide)) q102a q102c (g := (mkF m 338 #[.val (.int p0), .val (.int p1), .val (.int p2), .val (.int p3), .val (.int md), .val (.int le), .val (.int mo), .val (.int va), .val (.int vb), .val (.int vd), .val (.ref cc), .val (.ref dd), .val (.ref ee), .val (.int (1 : Int32)), .val (.int (0 : Int32)), .unset] [(.ref dd)])) rfl (by rw [hml]; rfl) (Steps.refl _) (argsL := []) (rest := []) (lenOf pd_6 rfl) rfl (by show 2 * 0 + _ ≤ _; exact Nat.le_of_eq rfl) (hb hby at_338) (fun _ _ => ⟨rfl, rfl, (by decide : 9 + 0 ≤ _), (by decide : 48 + 0 ≤ _)⟩)
      dsimp only [Pt.U, Pt.locs, Pt.cells, Pt.slots] at X102 l102 y102 z102 st102 hQ102
      subst l102 y102 z102
      obtain ⟨rfl, Nq102, hh102⟩ := hQ102
      have E_ee_102 : Exa Z T102.heap ee "com/example/fettle/fettle/regex/Counts" := by rw [hh102]; exact E_ee_94
      have F_oldest_ee_102 : Fld Z T102.heap ee "com/example/fettle/fettle/regex/Counts" "oldest" "[I" (.ref oee) := by rw [hh102]; exact F_oldest_ee_94
      have F_newest_ee_102 : Fld Z T102.heap ee "com/example/fettle/fettle/regex/Counts" "newest" "[I" (.ref xee) := by rw [hh102]; exact F_newest_ee_94
      have F_first_ee_102 : Fld Z T102.heap ee "com/example/fettle/fettle/regex/Counts" "first" "I" (.int 0) := by rw [hh102]; exact F_first_ee_94
      have F_runs_ee_102 : Fld Z T102.heap ee "com/example/fettle/fettle/regex/Counts" "runs" "I" (.int 0) := by rw [hh102]; exact F_runs_ee_94
      have F_clock_ee_102 : Fld Z T102.heap ee "com/example/fettle/fettle/regex/Counts" "clock" "I" (.int 0) := by rw [hh102]; exact F_clock_ee_94
      have F_starting_ee_102 : Fld Z T102.heap ee "com/example/fettle/fettle/regex/Counts" "starting" "Z" (.int 0) := by rw [hh102]; exact F_starting_ee_94
      have F_least_ee_102 : Fld Z T102.heap ee "com/example/fettle/fettle/regex/Counts" "least" "I" (.int le) := by rw [hh102]; exact F_least_ee_94
      have F_most_ee_102 : Fld Z T102.heap ee "com/example/fettle/fettle/regex/Counts" "most" "I" (.int mo) := by rw [hh102]; exact F_most_ee_94
      have V_o_ee_102 : Arv Z T102.heap oee koee .int (4 : Int32) [(.int (0 : Int32)), (.int (0 : Int32)), (.int (0 : Int32)), (.int (0 : Int32))] (.int (0 : Int32)) := by rw [hh102]; exact V_o_ee_94
      have V_w_ee_102 : Arv Z T102.heap xee kxee .int (4 : Int32) [(.int (0 : Int32)), (.int (0 : Int32)), (.int (0 : Int32)), (.int (0 : Int32))] (.int (0 : Int32)) := by rw [hh102]; exact V_w_ee_94
      have E_dd_102 : Exa Z T102.heap dd "com/example/fettle/fettle/regex/Counts" := by rw [hh102]; exact E_dd_94
      have F_oldest_dd_102 : Fld Z T102.heap dd "com/example/fettle/fettle/regex/Counts" "oldest" "[I" (.ref occ) := by rw [hh102]; exact F_oldest_dd_94
      have F_newest_dd_102 : Fld Z T102.heap dd "com/example/fettle/fettle/regex/Counts" "newest" "[I" (.ref xcc) := by rw [hh102]; exact F_newest_dd_94
      have F_first_dd_102 : Fld Z T102.heap dd "com/example/fettle/fettle/regex/Counts" "first" "I" (.int ((0 + 1) &&& ((4 : Int32) - (1 : Int32)))) := by rw [hh102]; exact F_first_dd_94
      have F_runs_dd_102 : Fld Z T102.heap dd "com/example/fettle/fettle/regex/Counts" "runs" "I" (.int (1 - 1)) := by rw [hh102]; exact F_runs_dd_94
      have F_clock_dd_102 : Fld Z T102.heap dd "com/example/fettle/fettle/regex/Counts" "clock" "I" (.int (0 + 1)) := by rw [hh102]; exact F_clock_dd_94
      have Fx_starting_dd_102 : Fld Z T102.heap dd "com/example/fettle/fettle/regex/Counts" "starting" "Z" (.int 1) := by rw [hh102]; exact Fx_starting_dd
      have F_least_dd_102 : Fld Z T102.heap dd "com/example/fettle/fettle/regex/Counts" "least" "I" (.int le) := by rw [hh102]; exact F_least_dd_94
      have F_most_dd_102 : Fld Z T102.heap dd "com/example/fettle/fettle/regex/Counts" "most" "I" (.int mo) := by rw [hh102]; exact F_most_dd_94
      have V_o_dd_102 : Arv Z T102.heap occ kocc .int (4 : Int32) ([(.int (0 : Int32)), (.int (0 : Int32)), (.int (0 : Int32)), (.int (0 : Int32))].set (0 : Int32).toNatClampNeg (.int 0)) (.int (0 : Int32)) := by rw [hh102]; exact V_o_dd_94
      have V_w_dd_102 : Arv Z T102.heap xcc kxcc .int (4 : Int32) ([(.int (0 : Int32)), (.int (0 : Int32)), (.int (0 : Int32)), (.int (0 : Int32))].set (0 : Int32).toNatClampNeg (.int 0)) (.int (0 : Int32)) := by rw [hh102]; exact V_w_dd_94
      have E_cc_102 : Exa Z T102.heap cc "com/example/fettle/fettle/regex/Counts" := by rw [hh102]; exact E_cc_94
      have F_oldest_cc_102 : Fld Z T102.heap cc "com/example/fettle/fettle/regex/Counts" "oldest" "[I" (.ref odd) := by rw [hh102]; exact F_oldest_cc_94
      have F_newest_cc_102 : Fld Z T102.heap cc "com/example/fettle/fettle/regex/Counts" "newest" "[I" (.ref xdd) := by rw [hh102]; exact F_newest_cc_94
      have F_first_cc_102 : Fld Z T102.heap cc "com/example/fettle/fettle/regex/Counts" "first" "I" (.int 0) := by rw [hh102]; exact F_first_cc_94
      have F_runs_cc_102 : Fld Z T102.heap cc "com/example/fettle/fettle/regex/Counts" "runs" "I" (.int 0) := by rw [hh102]; exact F_runs_cc_94
      have F_clock_cc_102 : Fld Z T102.heap cc "com/example/fettle/fettle/regex/Counts" "clock" "I" (.int 0) := by rw [hh102]; exact F_clock_cc_94
      have F_starting_cc_102 : Fld Z T102.heap cc "com/example/fettle/fettle/regex/Counts" "starting" "Z" (.int 0) := by rw [hh102]; exact F_starting_cc_94
      have F_least_cc_102 : Fld Z T102.heap cc "com/example/fettle/fettle/regex/Counts" "least" "I" (.int le) := by rw [hh102]; exact F_least_cc_94
      have F_most_cc_102 : Fld Z T102.heap cc "com/example/fettle/fettle/regex/Counts" "most" "I" (.int mo) := by rw [hh102]; exact F_most_cc_94
      have V_o_cc_102 : Arv Z T102.heap odd kodd .int (4 : Int32) [(.int (0 : Int32)), (.int (0 : Int32)), (.int (0 : Int32)), (.int (0 : Int32))] (.int (0 : Int32)) := by rw [hh102]; exact V_o_cc_94
      have V_w_cc_102 : Arv Z T102.heap xdd kxdd .int (4 : Int32) [(.int (0 : Int32)), (.int (0 : Int32)), (.int (0 : Int32)), (.int (0 : Int32))] (.int (0 : Int32)) := by rw [hh102]; exact V_w_cc_94
      have Z102 : n0 ≤ T102.heap.size := by rw [hh102]; exact Z94
      have N102 := Fr.app N94 Nq102
      have pre103 := fun τ (κ : Steps p.tables e below (T102.setTop (mkF m 341 #[.val (.int p0), .val (.int p1), .val (.int p2), .val (.int p3), .val (.int md), .val (.int le), .val (.int mo), .val (.int va), .val (.int vb), .val (.int vd), .val (.ref cc), .val (.ref dd), .val (.ref ee), .val (.int (1 : Int32)), .val (.int (0 : Int32)), .unset] [(.int (own_emp (1 - 1) 1))])) τ) => pre101 τ (st102.trans κ)
      have pre104 := fun τ (κ : Steps p.tables e below (T102.setTop (mkF m 362 #[.val (.int p0), .val (.int p1), .val (.int p2), .val (.int p3), .val (.int md), .val (.int le), .val (.int mo), .val (.int va), .val (.int vb), .val (.int vd), .val (.ref cc), .val (.ref dd), .val (.ref ee), .val (.int (1 : Int32)), .val (.int (0 : Int32)), .unset] [(.ref ee), (.ref dd)])) τ) => pre103 τ (by
        refine XS.iload X102.here hx rfl (hb hby at_341) rfl ?_
        show Steps p.tables e below (T102.setTop (mkF m 343 #[.val (.int p0), .val (.int p1), .val (.int p2), .val (.int p3), .val (.int md), .val (.int le), .val (.int mo), .val (.int va), .val (.int vb), .val (.int vd), .val (.ref cc), .val (.ref dd), .val (.ref ee), .val (.int (1 : Int32)), .val (.int (0 : Int32)), .unset] [(.int (0 : Int32)), (.int (own_emp (1 - 1) 1))])) _
        refine XS.icmpNo X102.here hx rfl (hb hby at_343) rfl (teq own_empS).2 ?_
        show Steps p.tables e below (T102.setTop (mkF m 346 #[.val (.int p0), .val (.int p1), .val (.int p2), .val (.int p3), .val (.int md), .val (.int le), .val (.int mo), .val (.int va), .val (.int vb), .val (.int vd), .val (.ref cc), .val (.ref dd), .val (.ref ee), .val (.int (1 : Int32)), .val (.int (0 : Int32)), .unset] [])) _
        refine XS.iconst X102.here hx rfl (hb hby at_346) ?_
        show Steps p.tables e below (T102.setTop (mkF m 347 #[.val (.int p0), .val (.int p1), .val (.int p2), .val (.int p3), .val (.int md), .val (.int le), .val (.int mo), .val (.int va), .val (.int vb), .val (.int vd), .val (.ref cc), .val (.ref dd), .val (.ref ee), .val (.int (1 : Int32)), .val (.int (0 : Int32)), .unset] [(.int (1 : Int32))])) _
        refine XS.goto X102.here hx rfl (pc0 := 347) (pc' := 351) rfl (hb hby at_347) (by decide) (by decide) ?_
        show Steps p.tables e below (T102.setTop (mkF m 351 #[.val (.int p0), .val (.int p1), .val (.int p2), .val (.int p3), .val (.int md), .val (.int le), .val (.int mo), .val (.int va), .val (.int vb), .val (.int vd), .val (.ref cc), .val (.ref dd), .val (.ref ee), .val (.int (1 : Int32)), .val (.int (0 : Int32)), .unset] [(.int (1 : Int32))])) _
        refine XS.istore X102.here hx rfl (hb hby at_351) rfl (l' := #[.val (.int p0), .val (.int p1), .val (.int p2), .val (.int p3), .val (.int md), .val (.int le), .val (.int mo), .val (.int va), .val (.int vb), .val (.int vd), .val (.ref cc), .val (.ref dd), .val (.ref ee), .val (.int (1 : Int32)), .val (.int (0 : Int32)), .unset]) rfl ?_
        show Steps p.tables e below (T102.setTop (mkF m 353 #[.val (.int p0), .val (.int p1), .val (.int p2), .val (.int p3), .val (.int md), .val (.int le), .val (.int mo), .val (.int va), .val (.int vb), .val (.int vd), .val (.ref cc), .val (.ref dd), .val (.ref ee), .val (.int (1 : Int32)), .val (.int (0 : Int32)), .unset] [])) _
        refine XS.iload X102.here hx rfl (hb hby at_353) rfl ?_
        show Steps p.tables e below (T102.setTop (mkF m 355 #[.val (.int p0), .val (.int p1), .val (.int p2), .val (.int p3), .val (.int md), .val (.int le), .val (.int mo), .val (.int va), .val (.int vb), .val (.int vd), .val (.ref cc), .val (.ref dd), .val (.ref ee), .val (.int (1 : Int32)), .val (.int (0 : Int32)), .unset] [(.int (0 : Int32))])) _
        refine XS.ifNo X102.here hx rfl (hb hby at_355) rfl ((if0 _ _).trans (teq rfl).2) ?_
        show Steps p.tables e below (T102.setTop (mkF m 358 #[.val (.int p0), .val (.int p1), .val (.int p2), .val (.int p3), .val (.int md), .val (.int le), .val (.int mo), .val (.int va), .val (.int vb), .val (.int vd), .val (.ref cc), .val (.ref dd), .val (.ref ee), .val (.int (1 : Int32)), .val (.int (0 : Int32)), .unset] [])) _
        refine XS.aload X102.here hx rfl (hb hby at_358) rfl rfl ?_
        show Steps p.tables e below (T102.setTop (mkF m 360 #[.val (.int p0), .val (.int p1), .val (.int p2), .val (.int p3), .val (.int md), .val (.int le), .val (.int mo), .val (.int va), .val (.int vb), .val (.int vd), .val (.ref cc), .val (.ref dd), .val (.ref ee), .val (.int (1 : Int32)), .val (.int (0 : Int32)), .unset] [(.ref dd)])) _
        refine XS.aload X102.here hx rfl (hb hby at_360) rfl rfl ?_
        show Steps p.tables e below (T102.setTop (mkF m 362 #[.val (.int p0), .val (.int p1), .val (.int p2), .val (.int p3), .val (.int md), .val (.int le), .val (.int mo), .val (.int va), .val (.int vb), .val (.int vd), .val (.ref cc), .val (.ref dd), .val (.ref ee), .val (.int (1 : Int32)), .val (.int (0 : Int32)), .unset] [(.ref ee), (.ref dd)])) _
        exact κ)
      obtain ⟨cq105, kq105, q105a, q105b, q105c⟩ := isOf hZ rfl E_dd_102
      obtain ⟨_, _, ⟨T105, L105, k105, n105⟩, -, X105, ⟨Lc105, hQ105, l105, y105, z105⟩, st105⟩ := X102.virtualBack hx (y := (⟨"com/example/fettle/fettle/regex/Counts", "takeInto", "(Lcom/example/fettle/fettle/regex/Counts;)Z"⟩ : MethodName)) (z := (⟨"com/example/fettle/fettle/regex/Counts", "takeInto", "(Lcom/example/fettle/fettle/regex/Counts;)Z"⟩ : MethodName)) hown (mvT hZ (hw _ (List.mem_of_getElem? (i := 37) rfl))) (mvT hZ (hw _ (List.mem_of_getElem? (i := 38) rfl))) (notFace_of_selects (args := #[]) (mvT hZ (hw _ (List.mem_of_getElem? (i := 40) rfl)))) (mvT hZ (hw _ (List.mem_of_getElem? (i := 40) rfl))) (mvT hZ (hw _ (List.mem_of_getElem? (i := 39) rfl))) (by decide) (backOf (W := 0) (rm6a l Z a0 hw [] dd ee occ xcc kocc kxcc ((0 + 1) &&& ((4 : Int32) - (1 : Int32))) (1 - 1) (0 + 1) 1 le mo ([(.int (0 : Int32)), (.int (0 : Int32)), (.int (0 : Int32)), (.int (0 : Int32))].set (0 : Int32).toNatClampNeg (.int 0)) ([(.int (0 : Int32)), (.int (0 : Int32)), (.int (0 : Int32)), (.int (0 : Int32))].set (0 : Int32).toNatClampNeg (.int 0)) oee xee koee kxee 0 0 0 0 le mo [(.int (0 : Int32)), (.int (0 : Int32)), (.int (0 : Int32)), (.int (0 : Int32))] [(.int (0 : Int32)), (.int (0 : Int32)), (.int (0 : Int32)), (.int (0 : Int32))] T102.heap n0 Z102 ⟨E_dd_102, F_oldest_dd_102, F_newest_dd_102, F_first_dd_102, F_runs_dd_102, F_clock_dd_102, Fx_starting_dd_102, F_least_dd_102, F_most_dd_102, V_o_dd_102, V_w_dd_102⟩ ⟨E_ee_102, F_oldest_ee_102, F_newest_ee_102, F_first_ee_102, F_runs_ee_102, F_clock_ee_102, F_starting_ee_102, F_least_ee_102, F_most_ee_102, V_o_ee_102, V_w_ee_102⟩ rfl (Or.inr (by decide)) rfl rfl hle0 (Ne.symm ne_occ_dd) (Ne.symm ne_xcc_dd) nox31 ne_dd_ee ne_dd_oee ne_dd_xee (Ne.symm ne_occ_ee) (Ne.symm ne_xcc_ee) ne_ee_oee ne_ee_xee nox43 ne_occ_oee ne_occ_xee ne_xcc_oee ne_xcc_xee g_dd g_occ g_xcc g_ee rfl (Or.inr rfl)) hZ (hw _ (List.mem_of_getElem? (i := 41) rfl)) (hw _ (List.mem_of_getElem? (i := 7) rfl)) (by decide) (by decide)) q105a q105c (g := (mkF m 362 #[.val (.int p0), .val (.int p1), .val (.int p2), .val (.int p3), .val (.int md), .val (.int le), .val (.int mo), .val (.int va), .val (.int vb), .val (.int vd), .val (.ref cc), .val (.ref dd), .val (.ref ee), .val (.int (1 : Int32)), .val (.int (0 : Int32)), .unset] [(.ref ee), (.ref dd)])) rfl (by rw [hml]; rfl) (Steps.refl _) (argsL := [(.ref ee)]) (rest := []) (lenOf pd_7 rfl) rfl (by show 2 * 0 + _ ≤ _; exact Nat.le_of_eq rfl) (hb hby at_362) (fun _ _ => ⟨rfl, rfl, (by decide : 9 + 0 ≤ _), (by decide : 48 + 0 ≤ _)⟩)
      dsimp only [Pt.U, Pt.locs, Pt.cells, Pt.slots] at X105 l105 y105 z105 st105 hQ105
      subst l105 y105 z105
      obtain ⟨mx103, rfl, Nq105, K105, R105⟩ := hQ105
      have E_ee_105 : Exa Z T105.heap ee "com/example/fettle/fettle/regex/Counts" := E_ee_102.keep K105
      have V_o_ee_105 : Arv Z T105.heap oee koee .int (4 : Int32) [(.int (0 : Int32)), (.int (0 : Int32)), (.int (0 : Int32)), (.int (0 : Int32))] (.int (0 : Int32)) := V_o_ee_102.keep K105 (ninS (Ne.symm ne_dd_oee) (ninS (Ne.symm ne_occ_oee) (ninS (Ne.symm ne_xcc_oee) (ninS (Ne.symm ne_ee_oee) nin0))))
      have V_w_ee_105 : Arv Z T105.heap xee kxee .int (4 : Int32) [(.int (0 : Int32)), (.int (0 : Int32)), (.int (0 : Int32)), (.int (0 : Int32))] (.int (0 : Int32)) := V_w_ee_102.keep K105 (ninS (Ne.symm ne_dd_xee) (ninS (Ne.symm ne_occ_xee) (ninS (Ne.symm ne_xcc_xee) (ninS (Ne.symm ne_ee_xee) nin0))))
      have E_dd_105 : Exa Z T105.heap dd "com/example/fettle/fettle/regex/Counts" := E_dd_102.keep K105
      have E_cc_105 : Exa Z T105.heap cc "com/example/fettle/fettle/regex/Counts" := E_cc_102.keep K105
      have F_oldest_cc_105 : Fld Z T105.heap cc "com/example/fettle/fettle/regex/Counts" "oldest" "[I" (.ref odd) := F_oldest_cc_102.keep K105 (ninS ne_cc_dd (ninS ne_cc_occ (ninS ne_cc_xcc (ninS ne_cc_ee nin0))))
      have F_newest_cc_105 : Fld Z T105.heap cc "com/example/fettle/fettle/regex/Counts" "newest" "[I" (.ref xdd) := F_newest_cc_102.keep K105 (ninS ne_cc_dd (ninS ne_cc_occ (ninS ne_cc_xcc (ninS ne_cc_ee nin0))))
      have F_first_cc_105 : Fld Z T105.heap cc "com/example/fettle/fettle/regex/Counts" "first" "I" (.int 0) := F_first_cc_102.keep K105 (ninS ne_cc_dd (ninS ne_cc_occ (ninS ne_cc_xcc (ninS ne_cc_ee nin0))))
      have F_runs_cc_105 : Fld Z T105.heap cc "com/example/fettle/fettle/regex/Counts" "runs" "I" (.int 0) := F_runs_cc_102.keep K105 (ninS ne_cc_dd (ninS ne_cc_occ (ninS ne_cc_xcc (ninS ne_cc_ee nin0))))
      have F_clock_cc_105 : Fld Z T105.heap cc "com/example/fettle/fettle/regex/Counts" "clock" "I" (.int 0) := F_clock_cc_102.keep K105 (ninS ne_cc_dd (ninS ne_cc_occ (ninS ne_cc_xcc (ninS ne_cc_ee nin0))))
      have F_starting_cc_105 : Fld Z T105.heap cc "com/example/fettle/fettle/regex/Counts" "starting" "Z" (.int 0) := F_starting_cc_102.keep K105 (ninS ne_cc_dd (ninS ne_cc_occ (ninS ne_cc_xcc (ninS ne_cc_ee nin0))))
      have F_least_cc_105 : Fld Z T105.heap cc "com/example/fettle/fettle/regex/Counts" "least" "I" (.int le) := F_least_cc_102.keep K105 (ninS ne_cc_dd (ninS ne_cc_occ (ninS ne_cc_xcc (ninS ne_cc_ee nin0))))
      have F_most_cc_105 : Fld Z T105.heap cc "com/example/fettle/fettle/regex/Counts" "most" "I" (.int mo) := F_most_cc_102.keep K105 (ninS ne_cc_dd (ninS ne_cc_occ (ninS ne_cc_xcc (ninS ne_cc_ee nin0))))
      have V_o_cc_105 : Arv Z T105.heap odd kodd .int (4 : Int32) [(.int (0 : Int32)), (.int (0 : Int32)), (.int (0 : Int32)), (.int (0 : Int32))] (.int (0 : Int32)) := V_o_cc_102.keep K105 (ninS (Ne.symm ne_dd_odd) (ninS (Ne.symm ne_occ_odd) (ninS (Ne.symm ne_xcc_odd) (ninS ne_odd_ee nin0))))
      have V_w_cc_105 : Arv Z T105.heap xdd kxdd .int (4 : Int32) [(.int (0 : Int32)), (.int (0 : Int32)), (.int (0 : Int32)), (.int (0 : Int32))] (.int (0 : Int32)) := V_w_cc_102.keep K105 (ninS (Ne.symm ne_dd_xdd) (ninS (Ne.symm ne_occ_xdd) (ninS (Ne.symm ne_xcc_xdd) (ninS ne_xdd_ee nin0))))
      have Z105 : n0 ≤ T105.heap.size := Nat.le_trans Z102 K105.1
      have N105 := Fr.app N102 Nq105
      have pre106 := fun τ (κ : Steps p.tables e below (T105.setTop (mkF m 365 #[.val (.int p0), .val (.int p1), .val (.int p2), .val (.int p3), .val (.int md), .val (.int le), .val (.int mo), .val (.int va), .val (.int vb), .val (.int vd), .val (.ref cc), .val (.ref dd), .val (.ref ee), .val (.int (1 : Int32)), .val (.int (0 : Int32)), .unset] [(.int mx103)])) τ) => pre104 τ (st105.trans κ)
      obtain ⟨D105, S105⟩ := R105
      obtain ⟨-, De2⟩ := D105.resolve_right fun z => z.1 hmo
      obtain ⟨u3, -, -, -, u5, -, u4, -⟩ := De2
      obtain ⟨u0, -, -, -, u1, -, u2, -⟩ := S105
      have pre107 := fun τ (κ : Steps p.tables e below (T105.setTop (mkF m 405 #[.val (.int p0), .val (.int p1), .val (.int p2), .val (.int p3), .val (.int md), .val (.int le), .val (.int mo), .val (.int va), .val (.int vb), .val (.int vd), .val (.ref cc), .val (.ref dd), .val (.ref ee), .val (.int (1 : Int32)), .val (.int (0 : Int32)), .val (.int (1 : Int32))] [(.ref ee)])) τ) => pre106 τ (by
        refine XS.pop X105.here hx rfl (hb hby at_365) rfl rfl ?_
        show Steps p.tables e below (T105.setTop (mkF m 366 #[.val (.int p0), .val (.int p1), .val (.int p2), .val (.int p3), .val (.int md), .val (.int le), .val (.int mo), .val (.int va), .val (.int vb), .val (.int vd), .val (.ref cc), .val (.ref dd), .val (.ref ee), .val (.int (1 : Int32)), .val (.int (0 : Int32)), .unset] [])) _
        refine XS.iload X105.here hx rfl (hb hby at_366) rfl ?_
        show Steps p.tables e below (T105.setTop (mkF m 368 #[.val (.int p0), .val (.int p1), .val (.int p2), .val (.int p3), .val (.int md), .val (.int le), .val (.int mo), .val (.int va), .val (.int vb), .val (.int vd), .val (.ref cc), .val (.ref dd), .val (.ref ee), .val (.int (1 : Int32)), .val (.int (0 : Int32)), .unset] [(.int vd)])) _
        refine XS.ifNo X105.here hx rfl (hb hby at_368) rfl ((if0 _ _).trans (feq qv).1) ?_
        show Steps p.tables e below (T105.setTop (mkF m 371 #[.val (.int p0), .val (.int p1), .val (.int p2), .val (.int p3), .val (.int md), .val (.int le), .val (.int mo), .val (.int va), .val (.int vb), .val (.int vd), .val (.ref cc), .val (.ref dd), .val (.ref ee), .val (.int (1 : Int32)), .val (.int (0 : Int32)), .unset] [])) _
        refine XS.iload X105.here hx rfl (hb hby at_371) rfl ?_
        show Steps p.tables e below (T105.setTop (mkF m 373 #[.val (.int p0), .val (.int p1), .val (.int p2), .val (.int p3), .val (.int md), .val (.int le), .val (.int mo), .val (.int va), .val (.int vb), .val (.int vd), .val (.ref cc), .val (.ref dd), .val (.ref ee), .val (.int (1 : Int32)), .val (.int (0 : Int32)), .unset] [(.int mo)])) _
        refine XS.iconst X105.here hx rfl (hb hby at_373) ?_
        show Steps p.tables e below (T105.setTop (mkF m 374 #[.val (.int p0), .val (.int p1), .val (.int p2), .val (.int p3), .val (.int md), .val (.int le), .val (.int mo), .val (.int va), .val (.int vb), .val (.int vd), .val (.ref cc), .val (.ref dd), .val (.ref ee), .val (.int (1 : Int32)), .val (.int (0 : Int32)), .unset] [(.int (1 : Int32)), (.int mo)])) _
        refine XS.icmpNo X105.here hx rfl (hb hby at_374) rfl (teq hmo).2 ?_
        show Steps p.tables e below (T105.setTop (mkF m 377 #[.val (.int p0), .val (.int p1), .val (.int p2), .val (.int p3), .val (.int md), .val (.int le), .val (.int mo), .val (.int va), .val (.int vb), .val (.int vd), .val (.ref cc), .val (.ref dd), .val (.ref ee), .val (.int (1 : Int32)), .val (.int (0 : Int32)), .unset] [])) _
        refine XS.iconst X105.here hx rfl (hb hby at_377) ?_
        show Steps p.tables e below (T105.setTop (mkF m 378 #[.val (.int p0), .val (.int p1), .val (.int p2), .val (.int p3), .val (.int md), .val (.int le), .val (.int mo), .val (.int va), .val (.int vb), .val (.int vd), .val (.ref cc), .val (.ref dd), .val (.ref ee), .val (.int (1 : Int32)), .val (.int (0 : Int32)), .unset] [(.int (1 : Int32))])) _
        refine XS.goto X105.here hx rfl (pc0 := 378) (pc' := 396) rfl (hb hby at_378) (by decide) (by decide) ?_
        show Steps p.tables e below (T105.setTop (mkF m 396 #[.val (.int p0), .val (.int p1), .val (.int p2), .val (.int p3), .val (.int md), .val (.int le), .val (.int mo), .val (.int va), .val (.int vb), .val (.int vd), .val (.ref cc), .val (.ref dd), .val (.ref ee), .val (.int (1 : Int32)), .val (.int (0 : Int32)), .unset] [(.int (1 : Int32))])) _
        refine XS.istore X105.here hx rfl (hb hby at_396) rfl (l' := #[.val (.int p0), .val (.int p1), .val (.int p2), .val (.int p3), .val (.int md), .val (.int le), .val (.int mo), .val (.int va), .val (.int vb), .val (.int vd), .val (.ref cc), .val (.ref dd), .val (.ref ee), .val (.int (1 : Int32)), .val (.int (0 : Int32)), .val (.int (1 : Int32))]) rfl ?_
        show Steps p.tables e below (T105.setTop (mkF m 398 #[.val (.int p0), .val (.int p1), .val (.int p2), .val (.int p3), .val (.int md), .val (.int le), .val (.int mo), .val (.int va), .val (.int vb), .val (.int vd), .val (.ref cc), .val (.ref dd), .val (.ref ee), .val (.int (1 : Int32)), .val (.int (0 : Int32)), .val (.int (1 : Int32))] [])) _
        refine XS.iload X105.here hx rfl (hb hby at_398) rfl ?_
        show Steps p.tables e below (T105.setTop (mkF m 400 #[.val (.int p0), .val (.int p1), .val (.int p2), .val (.int p3), .val (.int md), .val (.int le), .val (.int mo), .val (.int va), .val (.int vb), .val (.int vd), .val (.ref cc), .val (.ref dd), .val (.ref ee), .val (.int (1 : Int32)), .val (.int (0 : Int32)), .val (.int (1 : Int32))] [(.int (1 : Int32))])) _
        refine XS.ifNo X105.here hx rfl (hb hby at_400) rfl ((if0 _ _).trans (feq (by decide)).1) ?_
        show Steps p.tables e below (T105.setTop (mkF m 403 #[.val (.int p0), .val (.int p1), .val (.int p2), .val (.int p3), .val (.int md), .val (.int le), .val (.int mo), .val (.int va), .val (.int vb), .val (.int vd), .val (.ref cc), .val (.ref dd), .val (.ref ee), .val (.int (1 : Int32)), .val (.int (0 : Int32)), .val (.int (1 : Int32))] [])) _
        refine XS.aload X105.here hx rfl (hb hby at_403) rfl rfl ?_
        show Steps p.tables e below (T105.setTop (mkF m 405 #[.val (.int p0), .val (.int p1), .val (.int p2), .val (.int p3), .val (.int md), .val (.int le), .val (.int mo), .val (.int va), .val (.int vb), .val (.int vd), .val (.ref cc), .val (.ref dd), .val (.ref ee), .val (.int (1 : Int32)), .val (.int (0 : Int32)), .val (.int (1 : Int32))] [(.ref ee)])) _
        exact κ)
      obtain ⟨cq108, kq108, q108a, q108b, q108c⟩ := isOf hZ rfl u3
      obtain ⟨_, _, ⟨T108, L108, k108, n108⟩, -, X108, ⟨Lc108, hQ108, l108, y108, z108⟩, st108⟩ := X105.virtualBack hx (y := (⟨"com/example/fettle/fettle/regex/Counts", "isEmpty", "()Z"⟩ : MethodName)) (z := (⟨"com/example/fettle/fettle/regex/Counts", "isEmpty", "()Z"⟩ : MethodName)) hown (mvT hZ (hw _ (List.mem_of_getElem? (i := 23) rfl))) (mvT hZ (hw _ (List.mem_of_getElem? (i := 24) rfl))) (notFace_of_selects (args := #[]) (mvT hZ (hw _ (List.mem_of_getElem? (i := 26) rfl)))) (mvT hZ (hw _ (List.mem_of_getElem? (i := 26) rfl))) (mvT hZ (hw _ (List.mem_of_getElem? (i := 25) rfl))) (by decide) (backOf (W := 0) (rm4 l Z a0 hw [] ee (1 - 1) 0 T105.heap n0 Z105 u5 u4) hZ (hw _ (List.mem_of_getElem? (i := 27) rfl)) (hw _ (List.mem_of_getElem? (i := 7) rfl)) (by decide) (by decide)) q108a q108c (g := (mkF m 405 #[.val (.int p0), .val (.int p1), .val (.int p2), .val (.int p3), .val (.int md), .val (.int le), .val (.int mo), .val (.int va), .val (.int vb), .val (.int vd), .val (.ref cc), .val (.ref dd), .val (.ref ee), .val (.int (1 : Int32)), .val (.int (0 : Int32)), .val (.int (1 : Int32))] [(.ref ee)])) rfl (by rw [hml]; rfl) (Steps.refl _) (argsL := []) (rest := []) (lenOf pd_6 rfl) rfl (by show 2 * 0 + _ ≤ _; exact Nat.le_of_eq rfl) (hb hby at_405) (fun _ _ => ⟨rfl, rfl, (by decide : 9 + 0 ≤ _), (by decide : 48 + 0 ≤ _)⟩)
      dsimp only [Pt.U, Pt.locs, Pt.cells, Pt.slots] at X108 l108 y108 z108 st108 hQ108
      subst l108 y108 z108
      obtain ⟨rfl, Nq108, hh108⟩ := hQ108
      have E_cc_108 : Exa Z T108.heap cc "com/example/fettle/fettle/regex/Counts" := by rw [hh108]; exact E_cc_105
      have F_oldest_cc_108 : Fld Z T108.heap cc "com/example/fettle/fettle/regex/Counts" "oldest" "[I" (.ref odd) := by rw [hh108]; exact F_oldest_cc_105
      have F_newest_cc_108 : Fld Z T108.heap cc "com/example/fettle/fettle/regex/Counts" "newest" "[I" (.ref xdd) := by rw [hh108]; exact F_newest_cc_105
      have F_first_cc_108 : Fld Z T108.heap cc "com/example/fettle/fettle/regex/Counts" "first" "I" (.int 0) := by rw [hh108]; exact F_first_cc_105
      have F_runs_cc_108 : Fld Z T108.heap cc "com/example/fettle/fettle/regex/Counts" "runs" "I" (.int 0) := by rw [hh108]; exact F_runs_cc_105
      have F_clock_cc_108 : Fld Z T108.heap cc "com/example/fettle/fettle/regex/Counts" "clock" "I" (.int 0) := by rw [hh108]; exact F_clock_cc_105
      have F_starting_cc_108 : Fld Z T108.heap cc "com/example/fettle/fettle/regex/Counts" "starting" "Z" (.int 0) := by rw [hh108]; exact F_starting_cc_105
      have F_least_cc_108 : Fld Z T108.heap cc "com/example/fettle/fettle/regex/Counts" "least" "I" (.int le) := by rw [hh108]; exact F_least_cc_105
      have F_most_cc_108 : Fld Z T108.heap cc "com/example/fettle/fettle/regex/Counts" "most" "I" (.int mo) := by rw [hh108]; exact F_most_cc_105
      have V_o_cc_108 : Arv Z T108.heap odd kodd .int (4 : Int32) [(.int (0 : Int32)), (.int (0 : Int32)), (.int (0 : Int32)), (.int (0 : Int32))] (.int (0 : Int32)) := by rw [hh108]; exact V_o_cc_105
      have V_w_cc_108 : Arv Z T108.heap xdd kxdd .int (4 : Int32) [(.int (0 : Int32)), (.int (0 : Int32)), (.int (0 : Int32)), (.int (0 : Int32))] (.int (0 : Int32)) := by rw [hh108]; exact V_w_cc_105
      have u0_108 : Exa Z T108.heap dd "com/example/fettle/fettle/regex/Counts" := by rw [hh108]; exact u0
      have u1_108 : Fld Z T108.heap dd "com/example/fettle/fettle/regex/Counts" "runs" "I" (.int 0) := by rw [hh108]; exact u1
      have u2_108 : Fld Z T108.heap dd "com/example/fettle/fettle/regex/Counts" "starting" "Z" (.int 0) := by rw [hh108]; exact u2
      have u3_108 : Exa Z T108.heap ee "com/example/fettle/fettle/regex/Counts" := by rw [hh108]; exact u3
      have u4_108 : Fld Z T108.heap ee "com/example/fettle/fettle/regex/Counts" "starting" "Z" (.int 0) := by rw [hh108]; exact u4
      have u5_108 : Fld Z T108.heap ee "com/example/fettle/fettle/regex/Counts" "runs" "I" (.int (1 - 1)) := by rw [hh108]; exact u5
      have Z108 : n0 ≤ T108.heap.size := by rw [hh108]; exact Z105
      have N108 := Fr.app N105 Nq108
      have pre109 := fun τ (κ : Steps p.tables e below (T108.setTop (mkF m 408 #[.val (.int p0), .val (.int p1), .val (.int p2), .val (.int p3), .val (.int md), .val (.int le), .val (.int mo), .val (.int va), .val (.int vb), .val (.int vd), .val (.ref cc), .val (.ref dd), .val (.ref ee), .val (.int (1 : Int32)), .val (.int (0 : Int32)), .val (.int (1 : Int32))] [(.int (own_emp (1 - 1) 0))])) τ) => pre107 τ (st108.trans κ)
      have pre110 := fun τ (κ : Steps p.tables e below (T108.setTop (mkF m 415 #[.val (.int p0), .val (.int p1), .val (.int p2), .val (.int p3), .val (.int md), .val (.int le), .val (.int mo), .val (.int va), .val (.int vb), .val (.int vd), .val (.ref cc), .val (.ref dd), .val (.ref ee), .val (.int (1 : Int32)), .val (.int (0 : Int32)), .val (.int (1 : Int32))] [(.ref dd)])) τ) => pre109 τ (by
        refine XS.iload X108.here hx rfl (hb hby at_408) rfl ?_
        show Steps p.tables e below (T108.setTop (mkF m 410 #[.val (.int p0), .val (.int p1), .val (.int p2), .val (.int p3), .val (.int md), .val (.int le), .val (.int mo), .val (.int va), .val (.int vb), .val (.int vd), .val (.ref cc), .val (.ref dd), .val (.ref ee), .val (.int (1 : Int32)), .val (.int (0 : Int32)), .val (.int (1 : Int32))] [(.int (1 : Int32)), (.int (own_emp (1 - 1) 0))])) _
        refine XS.icmpNo X108.here hx rfl (hb hby at_410) rfl (teq (by decide)).2 ?_
        show Steps p.tables e below (T108.setTop (mkF m 413 #[.val (.int p0), .val (.int p1), .val (.int p2), .val (.int p3), .val (.int md), .val (.int le), .val (.int mo), .val (.int va), .val (.int vb), .val (.int vd), .val (.ref cc), .val (.ref dd), .val (.ref ee), .val (.int (1 : Int32)), .val (.int (0 : Int32)), .val (.int (1 : Int32))] [])) _
        refine XS.aload X108.here hx rfl (hb hby at_413) rfl rfl ?_
        show Steps p.tables e below (T108.setTop (mkF m 415 #[.val (.int p0), .val (.int p1), .val (.int p2), .val (.int p3), .val (.int md), .val (.int le), .val (.int mo), .val (.int va), .val (.int vb), .val (.int vd), .val (.ref cc), .val (.ref dd), .val (.ref ee), .val (.int (1 : Int32)), .val (.int (0 : Int32)), .val (.int (1 : Int32))] [(.ref dd)])) _
        exact κ)
      obtain ⟨cq111, kq111, q111a, q111b, q111c⟩ := isOf hZ rfl u0_108
      obtain ⟨_, _, ⟨T111, L111, k111, n111⟩, -, X111, ⟨Lc111, hQ111, l111, y111, z111⟩, st111⟩ := X108.virtualBack hx (y := (⟨"com/example/fettle/fettle/regex/Counts", "isEmpty", "()Z"⟩ : MethodName)) (z := (⟨"com/example/fettle/fettle/regex/Counts", "isEmpty", "()Z"⟩ : MethodName)) hown (mvT hZ (hw _ (List.mem_of_getElem? (i := 23) rfl))) (mvT hZ (hw _ (List.mem_of_getElem? (i := 24) rfl))) (notFace_of_selects (args := #[]) (mvT hZ (hw _ (List.mem_of_getElem? (i := 26) rfl)))) (mvT hZ (hw _ (List.mem_of_getElem? (i := 26) rfl))) (mvT hZ (hw _ (List.mem_of_getElem? (i := 25) rfl))) (by decide) (backOf (W := 0) (rm4 l Z a0 hw [] dd 0 0 T108.heap n0 Z108 u1_108 u2_108) hZ (hw _ (List.mem_of_getElem? (i := 27) rfl)) (hw _ (List.mem_of_getElem? (i := 7) rfl)) (by decide) (by decide)) q111a q111c (g := (mkF m 415 #[.val (.int p0), .val (.int p1), .val (.int p2), .val (.int p3), .val (.int md), .val (.int le), .val (.int mo), .val (.int va), .val (.int vb), .val (.int vd), .val (.ref cc), .val (.ref dd), .val (.ref ee), .val (.int (1 : Int32)), .val (.int (0 : Int32)), .val (.int (1 : Int32))] [(.ref dd)])) rfl (by rw [hml]; rfl) (Steps.refl _) (argsL := []) (rest := []) (lenOf pd_6 rfl) rfl (by show 2 * 0 + _ ≤ _; exact Nat.le_of_eq rfl) (hb hby at_415) (fun _ _ => ⟨rfl, rfl, (by decide : 9 + 0 ≤ _), (by decide : 48 + 0 ≤ _)⟩)
      dsimp only [Pt.U, Pt.locs, Pt.cells, Pt.slots] at X111 l111 y111 z111 st111 hQ111
      subst l111 y111 z111
      obtain ⟨rfl, Nq111, hh111⟩ := hQ111
      have E_cc_111 : Exa Z T111.heap cc "com/example/fettle/fettle/regex/Counts" := by rw [hh111]; exact E_cc_108
      have F_oldest_cc_111 : Fld Z T111.heap cc "com/example/fettle/fettle/regex/Counts" "oldest" "[I" (.ref odd) := by rw [hh111]; exact F_oldest_cc_108
      have F_newest_cc_111 : Fld Z T111.heap cc "com/example/fettle/fettle/regex/Counts" "newest" "[I" (.ref xdd) := by rw [hh111]; exact F_newest_cc_108
      have F_first_cc_111 : Fld Z T111.heap cc "com/example/fettle/fettle/regex/Counts" "first" "I" (.int 0) := by rw [hh111]; exact F_first_cc_108
      have F_runs_cc_111 : Fld Z T111.heap cc "com/example/fettle/fettle/regex/Counts" "runs" "I" (.int 0) := by rw [hh111]; exact F_runs_cc_108
      have F_clock_cc_111 : Fld Z T111.heap cc "com/example/fettle/fettle/regex/Counts" "clock" "I" (.int 0) := by rw [hh111]; exact F_clock_cc_108
      have F_starting_cc_111 : Fld Z T111.heap cc "com/example/fettle/fettle/regex/Counts" "starting" "Z" (.int 0) := by rw [hh111]; exact F_starting_cc_108
      have F_least_cc_111 : Fld Z T111.heap cc "com/example/fettle/fettle/regex/Counts" "least" "I" (.int le) := by rw [hh111]; exact F_least_cc_108
      have F_most_cc_111 : Fld Z T111.heap cc "com/example/fettle/fettle/regex/Counts" "most" "I" (.int mo) := by rw [hh111]; exact F_most_cc_108
      have V_o_cc_111 : Arv Z T111.heap odd kodd .int (4 : Int32) [(.int (0 : Int32)), (.int (0 : Int32)), (.int (0 : Int32)), (.int (0 : Int32))] (.int (0 : Int32)) := by rw [hh111]; exact V_o_cc_108
      have V_w_cc_111 : Arv Z T111.heap xdd kxdd .int (4 : Int32) [(.int (0 : Int32)), (.int (0 : Int32)), (.int (0 : Int32)), (.int (0 : Int32))] (.int (0 : Int32)) := by rw [hh111]; exact V_w_cc_108
      have u0_111 : Exa Z T111.heap dd "com/example/fettle/fettle/regex/Counts" := by rw [hh111]; exact u0_108
      have u1_111 : Fld Z T111.heap dd "com/example/fettle/fettle/regex/Counts" "runs" "I" (.int 0) := by rw [hh111]; exact u1_108
      have u2_111 : Fld Z T111.heap dd "com/example/fettle/fettle/regex/Counts" "starting" "Z" (.int 0) := by rw [hh111]; exact u2_108
      have u3_111 : Exa Z T111.heap ee "com/example/fettle/fettle/regex/Counts" := by rw [hh111]; exact u3_108
      have u4_111 : Fld Z T111.heap ee "com/example/fettle/fettle/regex/Counts" "starting" "Z" (.int 0) := by rw [hh111]; exact u4_108
      have u5_111 : Fld Z T111.heap ee "com/example/fettle/fettle/regex/Counts" "runs" "I" (.int (1 - 1)) := by rw [hh111]; exact u5_108
      have Z111 : n0 ≤ T111.heap.size := by rw [hh111]; exact Z108
      have N111 := Fr.app N108 Nq111
      have pre112 := fun τ (κ : Steps p.tables e below (T111.setTop (mkF m 418 #[.val (.int p0), .val (.int p1), .val (.int p2), .val (.int p3), .val (.int md), .val (.int le), .val (.int mo), .val (.int va), .val (.int vb), .val (.int vd), .val (.ref cc), .val (.ref dd), .val (.ref ee), .val (.int (1 : Int32)), .val (.int (0 : Int32)), .val (.int (1 : Int32))] [(.int (own_emp 0 0))])) τ) => pre110 τ (st111.trans κ)
      have pre113 := fun τ (κ : Steps p.tables e below (T111.setTop (mkF m 430 #[.val (.int p0), .val (.int p1), .val (.int p2), .val (.int p3), .val (.int md), .val (.int le), .val (.int mo), .val (.int va), .val (.int vb), .val (.int vd), .val (.ref cc), .val (.ref dd), .val (.ref ee), .val (.int (1 : Int32)), .val (.int (0 : Int32)), .val (.int (1 : Int32))] [(.int (1 : Int32))])) τ) => pre112 τ (by
        refine XS.ifNo X111.here hx rfl (hb hby at_418) rfl ((if0 _ _).trans (feq (by decide)).1) ?_
        show Steps p.tables e below (T111.setTop (mkF m 421 #[.val (.int p0), .val (.int p1), .val (.int p2), .val (.int p3), .val (.int md), .val (.int le), .val (.int mo), .val (.int va), .val (.int vb), .val (.int vd), .val (.ref cc), .val (.ref dd), .val (.ref ee), .val (.int (1 : Int32)), .val (.int (0 : Int32)), .val (.int (1 : Int32))] [])) _
        refine XS.iconst X111.here hx rfl (hb hby at_421) ?_
        show Steps p.tables e below (T111.setTop (mkF m 422 #[.val (.int p0), .val (.int p1), .val (.int p2), .val (.int p3), .val (.int md), .val (.int le), .val (.int mo), .val (.int va), .val (.int vb), .val (.int vd), .val (.ref cc), .val (.ref dd), .val (.ref ee), .val (.int (1 : Int32)), .val (.int (0 : Int32)), .val (.int (1 : Int32))] [(.int (1 : Int32))])) _
        refine XS.goto X111.here hx rfl (pc0 := 422) (pc' := 426) rfl (hb hby at_422) (by decide) (by decide) ?_
        show Steps p.tables e below (T111.setTop (mkF m 426 #[.val (.int p0), .val (.int p1), .val (.int p2), .val (.int p3), .val (.int md), .val (.int le), .val (.int mo), .val (.int va), .val (.int vb), .val (.int vd), .val (.ref cc), .val (.ref dd), .val (.ref ee), .val (.int (1 : Int32)), .val (.int (0 : Int32)), .val (.int (1 : Int32))] [(.int (1 : Int32))])) _
        refine XS.istore X111.here hx rfl (hb hby at_426) rfl (l' := #[.val (.int p0), .val (.int p1), .val (.int p2), .val (.int p3), .val (.int md), .val (.int le), .val (.int mo), .val (.int va), .val (.int vb), .val (.int vd), .val (.ref cc), .val (.ref dd), .val (.ref ee), .val (.int (1 : Int32)), .val (.int (0 : Int32)), .val (.int (1 : Int32))]) rfl ?_
        show Steps p.tables e below (T111.setTop (mkF m 428 #[.val (.int p0), .val (.int p1), .val (.int p2), .val (.int p3), .val (.int md), .val (.int le), .val (.int mo), .val (.int va), .val (.int vb), .val (.int vd), .val (.ref cc), .val (.ref dd), .val (.ref ee), .val (.int (1 : Int32)), .val (.int (0 : Int32)), .val (.int (1 : Int32))] [])) _
        refine XS.iload X111.here hx rfl (hb hby at_428) rfl ?_
        show Steps p.tables e below (T111.setTop (mkF m 430 #[.val (.int p0), .val (.int p1), .val (.int p2), .val (.int p3), .val (.int md), .val (.int le), .val (.int mo), .val (.int va), .val (.int vb), .val (.int vd), .val (.ref cc), .val (.ref dd), .val (.ref ee), .val (.int (1 : Int32)), .val (.int (0 : Int32)), .val (.int (1 : Int32))] [(.int (1 : Int32))])) _
        exact κ)
      obtain ⟨fs, hr, hrun, hended, hW, hsame⟩ := X111.leave (v := some (.int (1 : Int32))) (fun h => by rw [Bd.returns] at h; cases h)
      refine ⟨_, _, pre113 _ ?_, hrun, hended, _, _, rfl, ?_, ⟨_, rfl⟩, hW, hsame.mono (by decide) (by decide)⟩
      · exact retN X111 hx (t := .boolean) Bd.returns (by simp) (hb hby at_430) hr
      · show Q0 Z p0 p1 p2 p3 h0 n0 _ T111.heap _
        exact ⟨rfl, N111⟩
  · have De : own_C Z T90.heap dd occ xcc kocc kxcc 0 1 (0 + 1) sd le mo ([(.int (0 : Int32)), (.int (0 : Int32)), (.int (0 : Int32)), (.int (0 : Int32))].set (0 : Int32).toNatClampNeg (.int 0)) ([(.int (0 : Int32)), (.int (0 : Int32)), (.int (0 : Int32)), (.int (0 : Int32))].set (0 : Int32).toNatClampNeg (.int 0)) := D90
    have Se : own_C Z T90.heap cc odd xdd kodd kxdd 0 0 0 0 le mo [(.int (0 : Int32)), (.int (0 : Int32)), (.int (0 : Int32)), (.int (0 : Int32))] [(.int (0 : Int32)), (.int (0 : Int32)), (.int (0 : Int32)), (.int (0 : Int32))] := S90
    obtain ⟨E_dd_9, F_oldest_dd_9, F_newest_dd_9, F_first_dd_9, F_runs_dd_9, F_clock_dd_9, F_starting_dd_9, F_least_dd_9, F_most_dd_9, V_o_dd_9, V_w_dd_9⟩ := De
    obtain ⟨E_cc_9, F_oldest_cc_9, F_newest_cc_9, F_first_cc_9, F_runs_cc_9, F_clock_cc_9, F_starting_cc_9, F_least_cc_9, F_most_cc_9, V_o_cc_9, V_w_cc_9⟩ := Se
    have pre114 := fun τ (κ : Steps p.tables e below (T90.setTop (mkF m 300 #[.val (.int p0), .val (.int p1), .val (.int p2), .val (.int p3), .val (.int md), .val (.int le), .val (.int mo), .val (.int va), .val (.int vb), .val (.int vd), .val (.ref cc), .val (.ref dd), .val (.ref ee), .val (.int (1 : Int32)), .unset, .unset] [(.ref cc)])) τ) => pre92 τ (by
      refine XS.ifNo X90.here hx rfl (hb hby at_295) rfl ((if0 _ _).trans (feq (by decide)).1) ?_
      show Steps p.tables e below (T90.setTop (mkF m 298 #[.val (.int p0), .val (.int p1), .val (.int p2), .val (.int p3), .val (.int md), .val (.int le), .val (.int mo), .val (.int va), .val (.int vb), .val (.int vd), .val (.ref cc), .val (.ref dd), .val (.ref ee), .val (.int (1 : Int32)), .unset, .unset] [])) _
      refine XS.aload X90.here hx rfl (hb hby at_298) rfl rfl ?_
      show Steps p.tables e below (T90.setTop (mkF m 300 #[.val (.int p0), .val (.int p1), .val (.int p2), .val (.int p3), .val (.int md), .val (.int le), .val (.int mo), .val (.int va), .val (.int vb), .val (.int vd), .val (.ref cc), .val (.ref dd), .val (.ref ee), .val (.int (1 : Int32)), .unset, .unset] [(.ref cc)])) _
      exact κ)
    obtain ⟨cq115, kq115, q115a, q115b, q115c⟩ := isOf hZ rfl E_cc_9
    obtain ⟨_, _, ⟨T115, L115, k115, n115⟩, -, X115, ⟨Lc115, hQ115, l115, y115, z115⟩, st115⟩ := X90.virtualBack hx (y := (⟨"com/example/fettle/fettle/regex/Counts", "isEmpty", "()Z"⟩ : MethodName)) (z := (⟨"com/example/fettle/fettle/regex/Counts", "isEmpty", "()Z"⟩ : MethodName)) hown (mvT hZ (hw _ (List.mem_of_getElem? (i := 23) rfl))) (mvT hZ (hw _ (List.mem_of_getElem? (i := 24) rfl))) (notFace_of_selects (args := #[]) (mvT hZ (hw _ (List.mem_of_getElem? (i := 26) rfl)))) (mvT hZ (hw _ (List.mem_of_getElem? (i := 26) rfl))) (mvT hZ (hw _ (List.mem_of_getElem? (i := 25) rfl))) (by decide) (backOf (W := 0) (rm4 l Z a0 hw [] cc 0 0 T90.heap n0 Z90 F_runs_cc_9 F_starting_cc_9) hZ (hw _ (List.mem_of_getElem? (i := 27) rfl)) (hw _ (List.mem_of_getElem? (i := 7) rfl)) (by decide) (by decide)) q115a q115c (g := (mkF m 300 #[.val (.int p0), .val (.int p1), .val (.int p2), .val (.int p3), .val (.int md), .val (.int le), .val (.int mo), .val (.int va), .val (.int vb), .val (.int vd), .val (.ref cc), .val (.ref dd), .val (.ref ee), .val (.int (1 : Int32)), .unset, .unset] [(.ref cc)])) rfl (by rw [hml]; rfl) (Steps.refl _) (argsL := []) (rest := []) (lenOf pd_6 rfl) rfl (by show 2 * 0 + _ ≤ _; exact Nat.le_of_eq rfl) (hb hby at_300) (fun _ _ => ⟨rfl, rfl, (by decide : 9 + 0 ≤ _), (by decide : 48 + 0 ≤ _)⟩)
    dsimp only [Pt.U, Pt.locs, Pt.cells, Pt.slots] at X115 l115 y115 z115 st115 hQ115
    subst l115 y115 z115
    obtain ⟨rfl, Nq115, hh115⟩ := hQ115
    have E_ee_115 : Exa Z T115.heap ee "com/example/fettle/fettle/regex/Counts" := by rw [hh115]; exact E_ee_90
    have F_oldest_ee_115 : Fld Z T115.heap ee "com/example/fettle/fettle/regex/Counts" "oldest" "[I" (.ref oee) := by rw [hh115]; exact F_oldest_ee_90
    have F_newest_ee_115 : Fld Z T115.heap ee "com/example/fettle/fettle/regex/Counts" "newest" "[I" (.ref xee) := by rw [hh115]; exact F_newest_ee_90
    have F_first_ee_115 : Fld Z T115.heap ee "com/example/fettle/fettle/regex/Counts" "first" "I" (.int 0) := by rw [hh115]; exact F_first_ee_90
    have F_runs_ee_115 : Fld Z T115.heap ee "com/example/fettle/fettle/regex/Counts" "runs" "I" (.int 0) := by rw [hh115]; exact F_runs_ee_90
    have F_clock_ee_115 : Fld Z T115.heap ee "com/example/fettle/fettle/regex/Counts" "clock" "I" (.int 0) := by rw [hh115]; exact F_clock_ee_90
    have F_starting_ee_115 : Fld Z T115.heap ee "com/example/fettle/fettle/regex/Counts" "starting" "Z" (.int 0) := by rw [hh115]; exact F_starting_ee_90
    have F_least_ee_115 : Fld Z T115.heap ee "com/example/fettle/fettle/regex/Counts" "least" "I" (.int le) := by rw [hh115]; exact F_least_ee_90
    have F_most_ee_115 : Fld Z T115.heap ee "com/example/fettle/fettle/regex/Counts" "most" "I" (.int mo) := by rw [hh115]; exact F_most_ee_90
    have V_o_ee_115 : Arv Z T115.heap oee koee .int (4 : Int32) [(.int (0 : Int32)), (.int (0 : Int32)), (.int (0 : Int32)), (.int (0 : Int32))] (.int (0 : Int32)) := by rw [hh115]; exact V_o_ee_90
    have V_w_ee_115 : Arv Z T115.heap xee kxee .int (4 : Int32) [(.int (0 : Int32)), (.int (0 : Int32)), (.int (0 : Int32)), (.int (0 : Int32))] (.int (0 : Int32)) := by rw [hh115]; exact V_w_ee_90
    have E_dd_115 : Exa Z T115.heap dd "com/example/fettle/fettle/regex/Counts" := by rw [hh115]; exact E_dd_9
    have F_oldest_dd_115 : Fld Z T115.heap dd "com/example/fettle/fettle/regex/Counts" "oldest" "[I" (.ref occ) := by rw [hh115]; exact F_oldest_dd_9
    have F_newest_dd_115 : Fld Z T115.heap dd "com/example/fettle/fettle/regex/Counts" "newest" "[I" (.ref xcc) := by rw [hh115]; exact F_newest_dd_9
    have F_first_dd_115 : Fld Z T115.heap dd "com/example/fettle/fettle/regex/Counts" "first" "I" (.int 0) := by rw [hh115]; exact F_first_dd_9
    have F_runs_dd_115 : Fld Z T115.heap dd "com/example/fettle/fettle/regex/Counts" "runs" "I" (.int 1) := by rw [hh115]; exact F_runs_dd_9
    have F_clock_dd_115 : Fld Z T115.heap dd "com/example/fettle/fettle/regex/Counts" "clock" "I" (.int (0 + 1)) := by rw [hh115]; exact F_clock_dd_9
    have F_starting_dd_115 : Fld Z T115.heap dd "com/example/fettle/fettle/regex/Counts" "starting" "Z" (.int sd) := by rw [hh115]; exact F_starting_dd_9
    have F_least_dd_115 : Fld Z T115.heap dd "com/example/fettle/fettle/regex/Counts" "least" "I" (.int le) := by rw [hh115]; exact F_least_dd_9
    have F_most_dd_115 : Fld Z T115.heap dd "com/example/fettle/fettle/regex/Counts" "most" "I" (.int mo) := by rw [hh115]; exact F_most_dd_9
    have V_o_dd_115 : Arv Z T115.heap occ kocc .int (4 : Int32) ([(.int (0 : Int32)), (.int (0 : Int32)), (.int (0 : Int32)), (.int (0 : Int32))].set (0 : Int32).toNatClampNeg (.int 0)) (.int (0 : Int32)) := by rw [hh115]; exact V_o_dd_9
    have V_w_dd_115 : Arv Z T115.heap xcc kxcc .int (4 : Int32) ([(.int (0 : Int32)), (.int (0 : Int32)), (.int (0 : Int32)), (.int (0 : Int32))].set (0 : Int32).toNatClampNeg (.int 0)) (.int (0 : Int32)) := by rw [hh115]; exact V_w_dd_9
    have E_cc_115 : Exa Z T115.heap cc "com/example/fettle/fettle/regex/Counts" := by rw [hh115]; exact E_cc_9
    have F_oldest_cc_115 : Fld Z T115.heap cc "com/example/fettle/fettle/regex/Counts" "oldest" "[I" (.ref odd) := by rw [hh115]; exact F_oldest_cc_9
    have F_newest_cc_115 : Fld Z T115.heap cc "com/example/fettle/fettle/regex/Counts" "newest" "[I" (.ref xdd) := by rw [hh115]; exact F_newest_cc_9
    have F_first_cc_115 : Fld Z T115.heap cc "com/example/fettle/fettle/regex/Counts" "first" "I" (.int 0) := by rw [hh115]; exact F_first_cc_9
    have F_runs_cc_115 : Fld Z T115.heap cc "com/example/fettle/fettle/regex/Counts" "runs" "I" (.int 0) := by rw [hh115]; exact F_runs_cc_9
    have F_clock_cc_115 : Fld Z T115.heap cc "com/example/fettle/fettle/regex/Counts" "clock" "I" (.int 0) := by rw [hh115]; exact F_clock_cc_9
    have F_starting_cc_115 : Fld Z T115.heap cc "com/example/fettle/fettle/regex/Counts" "starting" "Z" (.int 0) := by rw [hh115]; exact F_starting_cc_9
    have F_least_cc_115 : Fld Z T115.heap cc "com/example/fettle/fettle/regex/Counts" "least" "I" (.int le) := by rw [hh115]; exact F_least_cc_9
    have F_most_cc_115 : Fld Z T115.heap cc "com/example/fettle/fettle/regex/Counts" "most" "I" (.int mo) := by rw [hh115]; exact F_most_cc_9
    have V_o_cc_115 : Arv Z T115.heap odd kodd .int (4 : Int32) [(.int (0 : Int32)), (.int (0 : Int32)), (.int (0 : Int32)), (.int (0 : Int32))] (.int (0 : Int32)) := by rw [hh115]; exact V_o_cc_9
    have V_w_cc_115 : Arv Z T115.heap xdd kxdd .int (4 : Int32) [(.int (0 : Int32)), (.int (0 : Int32)), (.int (0 : Int32)), (.int (0 : Int32))] (.int (0 : Int32)) := by rw [hh115]; exact V_w_cc_9
    have Z115 : n0 ≤ T115.heap.size := by rw [hh115]; exact Z90
    have N115 := Fr.app N90 Nq115
    have pre116 := fun τ (κ : Steps p.tables e below (T115.setTop (mkF m 303 #[.val (.int p0), .val (.int p1), .val (.int p2), .val (.int p3), .val (.int md), .val (.int le), .val (.int mo), .val (.int va), .val (.int vb), .val (.int vd), .val (.ref cc), .val (.ref dd), .val (.ref ee), .val (.int (1 : Int32)), .unset, .unset] [(.int (own_emp 0 0))])) τ) => pre114 τ (st115.trans κ)
    have pre117 := fun τ (κ : Steps p.tables e below (T115.setTop (mkF m 315 #[.val (.int p0), .val (.int p1), .val (.int p2), .val (.int p3), .val (.int md), .val (.int le), .val (.int mo), .val (.int va), .val (.int vb), .val (.int vd), .val (.ref cc), .val (.ref dd), .val (.ref ee), .val (.int (1 : Int32)), .unset, .unset] [(.int vd)])) τ) => pre116 τ (by
      refine XS.ifNo X115.here hx rfl (hb hby at_303) rfl ((if0 _ _).trans (feq (by decide)).1) ?_
      show Steps p.tables e below (T115.setTop (mkF m 306 #[.val (.int p0), .val (.int p1), .val (.int p2), .val (.int p3), .val (.int md), .val (.int le), .val (.int mo), .val (.int va), .val (.int vb), .val (.int vd), .val (.ref cc), .val (.ref dd), .val (.ref ee), .val (.int (1 : Int32)), .unset, .unset] [])) _
      refine XS.iconst X115.here hx rfl (hb hby at_306) ?_
      show Steps p.tables e below (T115.setTop (mkF m 307 #[.val (.int p0), .val (.int p1), .val (.int p2), .val (.int p3), .val (.int md), .val (.int le), .val (.int mo), .val (.int va), .val (.int vb), .val (.int vd), .val (.ref cc), .val (.ref dd), .val (.ref ee), .val (.int (1 : Int32)), .unset, .unset] [(.int (1 : Int32))])) _
      refine XS.goto X115.here hx rfl (pc0 := 307) (pc' := 311) rfl (hb hby at_307) (by decide) (by decide) ?_
      show Steps p.tables e below (T115.setTop (mkF m 311 #[.val (.int p0), .val (.int p1), .val (.int p2), .val (.int p3), .val (.int md), .val (.int le), .val (.int mo), .val (.int va), .val (.int vb), .val (.int vd), .val (.ref cc), .val (.ref dd), .val (.ref ee), .val (.int (1 : Int32)), .unset, .unset] [(.int (1 : Int32))])) _
      refine XS.istore X115.here hx rfl (hb hby at_311) rfl (l' := #[.val (.int p0), .val (.int p1), .val (.int p2), .val (.int p3), .val (.int md), .val (.int le), .val (.int mo), .val (.int va), .val (.int vb), .val (.int vd), .val (.ref cc), .val (.ref dd), .val (.ref ee), .val (.int (1 : Int32)), .unset, .unset]) rfl ?_
      show Steps p.tables e below (T115.setTop (mkF m 313 #[.val (.int p0), .val (.int p1), .val (.int p2), .val (.int p3), .val (.int md), .val (.int le), .val (.int mo), .val (.int va), .val (.int vb), .val (.int vd), .val (.ref cc), .val (.ref dd), .val (.ref ee), .val (.int (1 : Int32)), .unset, .unset] [])) _
      refine XS.iload X115.here hx rfl (hb hby at_313) rfl ?_
      show Steps p.tables e below (T115.setTop (mkF m 315 #[.val (.int p0), .val (.int p1), .val (.int p2), .val (.int p3), .val (.int md), .val (.int le), .val (.int mo), .val (.int va), .val (.int vb), .val (.int vd), .val (.ref cc), .val (.ref dd), .val (.ref ee), .val (.int (1 : Int32)), .unset, .unset] [(.int vd)])) _
      exact κ)
    by_cases qv : vd = (0 : Int32)
    · have hs0 := (hsd.resolve_right fun z => z.1 qv).2
      have Fx_starting_dd : Fld Z T115.heap dd "com/example/fettle/fettle/regex/Counts" "starting" "Z" (.int 0) := by have q := F_starting_dd_115; rw [hs0] at q; exact q
      have pre118 := fun τ (κ : Steps p.tables e below (T115.setTop (mkF m 338 #[.val (.int p0), .val (.int p1), .val (.int p2), .val (.int p3), .val (.int md), .val (.int le), .val (.int mo), .val (.int va), .val (.int vb), .val (.int vd), .val (.ref cc), .val (.ref dd), .val (.ref ee), .val (.int (1 : Int32)), .val (.int (0 : Int32)), .unset] [(.ref dd)])) τ) => pre117 τ (by
        refine XS.ifNo X115.here hx rfl (hb hby at_315) rfl ((if0 _ _).trans (teq qv).2) ?_
        show Steps p.tables e below (T115.setTop (mkF m 318 #[.val (.int p0), .val (.int p1), .val (.int p2), .val (.int p3), .val (.int md), .val (.int le), .val (.int mo), .val (.int va), .val (.int vb), .val (.int vd), .val (.ref cc), .val (.ref dd), .val (.ref ee), .val (.int (1 : Int32)), .unset, .unset] [])) _
        refine XS.iload X115.here hx rfl (hb hby at_318) rfl ?_
        show Steps p.tables e below (T115.setTop (mkF m 320 #[.val (.int p0), .val (.int p1), .val (.int p2), .val (.int p3), .val (.int md), .val (.int le), .val (.int mo), .val (.int va), .val (.int vb), .val (.int vd), .val (.ref cc), .val (.ref dd), .val (.ref ee), .val (.int (1 : Int32)), .unset, .unset] [(.int mo)])) _
        refine XS.iconst X115.here hx rfl (hb hby at_320) ?_
        show Steps p.tables e below (T115.setTop (mkF m 321 #[.val (.int p0), .val (.int p1), .val (.int p2), .val (.int p3), .val (.int md), .val (.int le), .val (.int mo), .val (.int va), .val (.int vb), .val (.int vd), .val (.ref cc), .val (.ref dd), .val (.ref ee), .val (.int (1 : Int32)), .unset, .unset] [(.int (1 : Int32)), (.int mo)])) _
        refine XS.icmpYes X115.here hx rfl (pc0 := 321) (pc' := 328) rfl (hb hby at_321) rfl (feq hmo).2 (by decide) (by decide) ?_
        show Steps p.tables e below (T115.setTop (mkF m 328 #[.val (.int p0), .val (.int p1), .val (.int p2), .val (.int p3), .val (.int md), .val (.int le), .val (.int mo), .val (.int va), .val (.int vb), .val (.int vd), .val (.ref cc), .val (.ref dd), .val (.ref ee), .val (.int (1 : Int32)), .unset, .unset] [])) _
        refine XS.iconst X115.here hx rfl (hb hby at_328) ?_
        show Steps p.tables e below (T115.setTop (mkF m 329 #[.val (.int p0), .val (.int p1), .val (.int p2), .val (.int p3), .val (.int md), .val (.int le), .val (.int mo), .val (.int va), .val (.int vb), .val (.int vd), .val (.ref cc), .val (.ref dd), .val (.ref ee), .val (.int (1 : Int32)), .unset, .unset] [(.int (0 : Int32))])) _
        refine XS.istore X115.here hx rfl (hb hby at_329) rfl (l' := #[.val (.int p0), .val (.int p1), .val (.int p2), .val (.int p3), .val (.int md), .val (.int le), .val (.int mo), .val (.int va), .val (.int vb), .val (.int vd), .val (.ref cc), .val (.ref dd), .val (.ref ee), .val (.int (1 : Int32)), .val (.int (0 : Int32)), .unset]) rfl ?_
        show Steps p.tables e below (T115.setTop (mkF m 331 #[.val (.int p0), .val (.int p1), .val (.int p2), .val (.int p3), .val (.int md), .val (.int le), .val (.int mo), .val (.int va), .val (.int vb), .val (.int vd), .val (.ref cc), .val (.ref dd), .val (.ref ee), .val (.int (1 : Int32)), .val (.int (0 : Int32)), .unset] [])) _
        refine XS.iload X115.here hx rfl (hb hby at_331) rfl ?_
        show Steps p.tables e below (T115.setTop (mkF m 333 #[.val (.int p0), .val (.int p1), .val (.int p2), .val (.int p3), .val (.int md), .val (.int le), .val (.int mo), .val (.int va), .val (.int vb), .val (.int vd), .val (.ref cc), .val (.ref dd), .val (.ref ee), .val (.int (1 : Int32)), .val (.int (0 : Int32)), .unset] [(.int (1 : Int32))])) _
        refine XS.ifNo X115.here hx rfl (hb hby at_333) rfl ((if0 _ _).trans (feq (by decide)).1) ?_
        show Steps p.tables e below (T115.setTop (mkF m 336 #[.val (.int p0), .val (.int p1), .val (.int p2), .val (.int p3), .val (.int md), .val (.int le), .val (.int mo), .val (.int va), .val (.int vb), .val (.int vd), .val (.ref cc), .val (.ref dd), .val (.ref ee), .val (.int (1 : Int32)), .val (.int (0 : Int32)), .unset] [])) _
        refine XS.aload X115.here hx rfl (hb hby at_336) rfl rfl ?_
        show Steps p.tables e below (T115.setTop (mkF m 338 #[.val (.int p0), .val (.int p1), .val (.int p2), .val (.int p3), .val (.int md), .val (.int le), .val (.int mo), .val (.int va), .val (.int vb), .val (.int vd), .val (.ref cc), .val (.ref dd), .val (.ref ee), .val (.int (1 : Int32)), .val (.int (0 : Int32)), .unset] [(.ref dd)])) _
        exact κ)
      obtain ⟨cq119, kq119, q119a, q119b, q119c⟩ := isOf hZ rfl E_dd_115
      obtain ⟨_, _, ⟨T119, L119, k119, n119⟩, -, X119, ⟨Lc119, hQ119, l119, y119, z119⟩, st119⟩ := X115.virtualBack hx (y := (⟨"com/example/fettle/fettle/regex/Counts", "isEmpty", "()Z"⟩ : MethodName)) (z := (⟨"com/example/fettle/fettle/regex/Counts", "isEmpty", "()Z"⟩ : MethodName)) hown (mvT hZ (hw _ (List.mem_of_getElem? (i := 23) rfl))) (mvT hZ (hw _ (List.mem_of_getElem? (i := 24) rfl))) (notFace_of_selects (args := #[]) (mvT hZ (hw _ (List.mem_of_getElem? (i := 26) rfl)))) (mvT hZ (hw _ (List.mem_of_getElem? (i := 26) rfl))) (mvT hZ (hw _ (List.mem_of_getElem? (i := 25) rfl))) (by decide) (backOf (W := 0) (rm4 l Z a0 hw [] dd 1 0 T115.heap n0 Z115 F_runs_dd_115 Fx_starting_dd) hZ (hw _ (List.mem_of_getElem? (i := 27) rfl)) (hw _ (List.mem_of_getElem? (i := 7) rfl)) (by decide) (by decide)) q119a q119c (g := (mkF m 338 #[.val (.int p0), .val (.int p1), .val (.int p2), .val (.int p3), .val (.int md), .val (.int le), .val (.int mo), .val (.int va), .val (.int vb), .val (.int vd), .val (.ref cc), .val (.ref dd), .val (.ref ee), .val (.int (1 : Int32)), .val (.int (0 : Int32)), .unset] [(.ref dd)])) rfl (by rw [hml]; rfl) (Steps.refl _) (argsL := []) (rest := []) (lenOf pd_6 rfl) rfl (by show 2 * 0 + _ ≤ _; exact Nat.le_of_eq rfl) (hb hby at_338) (fun _ _ => ⟨rfl, rfl, (by decide : 9 + 0 ≤ _), (by decide : 48 + 0 ≤ _)⟩)
      dsimp only [Pt.U, Pt.locs, Pt.cells, Pt.slots] at X119 l119 y119 z119 st119 hQ119
      subst l119 y119 z119
      obtain ⟨rfl, Nq119, hh119⟩ := hQ119
      have E_ee_119 : Exa Z T119.heap ee "com/example/fettle/fettle/regex/Counts" := by rw [hh119]; exact E_ee_115
      have F_oldest_ee_119 : Fld Z T119.heap ee "com/example/fettle/fettle/regex/Counts" "oldest" "[I" (.ref oee) := by rw [hh119]; exact F_oldest_ee_115
      have F_newest_ee_119 : Fld Z T119.heap ee "com/example/fettle/fettle/regex/Counts" "newest" "[I" (.ref xee) := by rw [hh119]; exact F_newest_ee_115
      have F_first_ee_119 : Fld Z T119.heap ee "com/example/fettle/fettle/regex/Counts" "first" "I" (.int 0) := by rw [hh119]; exact F_first_ee_115
      have F_runs_ee_119 : Fld Z T119.heap ee "com/example/fettle/fettle/regex/Counts" "runs" "I" (.int 0) := by rw [hh119]; exact F_runs_ee_115
      have F_clock_ee_119 : Fld Z T119.heap ee "com/example/fettle/fettle/regex/Counts" "clock" "I" (.int 0) := by rw [hh119]; exact F_clock_ee_115
      have F_starting_ee_119 : Fld Z T119.heap ee "com/example/fettle/fettle/regex/Counts" "starting" "Z" (.int 0) := by rw [hh119]; exact F_starting_ee_115
      have F_least_ee_119 : Fld Z T119.heap ee "com/example/fettle/fettle/regex/Counts" "least" "I" (.int le) := by rw [hh119]; exact F_least_ee_115
      have F_most_ee_119 : Fld Z T119.heap ee "com/example/fettle/fettle/regex/Counts" "most" "I" (.int mo) := by rw [hh119]; exact F_most_ee_115
      have V_o_ee_119 : Arv Z T119.heap oee koee .int (4 : Int32) [(.int (0 : Int32)), (.int (0 : Int32)), (.int (0 : Int32)), (.int (0 : Int32))] (.int (0 : Int32)) := by rw [hh119]; exact V_o_ee_115
      have V_w_ee_119 : Arv Z T119.heap xee kxee .int (4 : Int32) [(.int (0 : Int32)), (.int (0 : Int32)), (.int (0 : Int32)), (.int (0 : Int32))] (.int (0 : Int32)) := by rw [hh119]; exact V_w_ee_115
      have E_dd_119 : Exa Z T119.heap dd "com/example/fettle/fettle/regex/Counts" := by rw [hh119]; exact E_dd_115
      have F_oldest_dd_119 : Fld Z T119.heap dd "com/example/fettle/fettle/regex/Counts" "oldest" "[I" (.ref occ) := by rw [hh119]; exact F_oldest_dd_115
      have F_newest_dd_119 : Fld Z T119.heap dd "com/example/fettle/fettle/regex/Counts" "newest" "[I" (.ref xcc) := by rw [hh119]; exact F_newest_dd_115
      have F_first_dd_119 : Fld Z T119.heap dd "com/example/fettle/fettle/regex/Counts" "first" "I" (.int 0) := by rw [hh119]; exact F_first_dd_115
      have F_runs_dd_119 : Fld Z T119.heap dd "com/example/fettle/fettle/regex/Counts" "runs" "I" (.int 1) := by rw [hh119]; exact F_runs_dd_115
      have F_clock_dd_119 : Fld Z T119.heap dd "com/example/fettle/fettle/regex/Counts" "clock" "I" (.int (0 + 1)) := by rw [hh119]; exact F_clock_dd_115
      have Fx_starting_dd_119 : Fld Z T119.heap dd "com/example/fettle/fettle/regex/Counts" "starting" "Z" (.int 0) := by rw [hh119]; exact Fx_starting_dd
      have F_least_dd_119 : Fld Z T119.heap dd "com/example/fettle/fettle/regex/Counts" "least" "I" (.int le) := by rw [hh119]; exact F_least_dd_115
      have F_most_dd_119 : Fld Z T119.heap dd "com/example/fettle/fettle/regex/Counts" "most" "I" (.int mo) := by rw [hh119]; exact F_most_dd_115
      have V_o_dd_119 : Arv Z T119.heap occ kocc .int (4 : Int32) ([(.int (0 : Int32)), (.int (0 : Int32)), (.int (0 : Int32)), (.int (0 : Int32))].set (0 : Int32).toNatClampNeg (.int 0)) (.int (0 : Int32)) := by rw [hh119]; exact V_o_dd_115
      have V_w_dd_119 : Arv Z T119.heap xcc kxcc .int (4 : Int32) ([(.int (0 : Int32)), (.int (0 : Int32)), (.int (0 : Int32)), (.int (0 : Int32))].set (0 : Int32).toNatClampNeg (.int 0)) (.int (0 : Int32)) := by rw [hh119]; exact V_w_dd_115
      have E_cc_119 : Exa Z T119.heap cc "com/example/fettle/fettle/regex/Counts" := by rw [hh119]; exact E_cc_115
      have F_oldest_cc_119 : Fld Z T119.heap cc "com/example/fettle/fettle/regex/Counts" "oldest" "[I" (.ref odd) := by rw [hh119]; exact F_oldest_cc_115
      have F_newest_cc_119 : Fld Z T119.heap cc "com/example/fettle/fettle/regex/Counts" "newest" "[I" (.ref xdd) := by rw [hh119]; exact F_newest_cc_115
      have F_first_cc_119 : Fld Z T119.heap cc "com/example/fettle/fettle/regex/Counts" "first" "I" (.int 0) := by rw [hh119]; exact F_first_cc_115
      have F_runs_cc_119 : Fld Z T119.heap cc "com/example/fettle/fettle/regex/Counts" "runs" "I" (.int 0) := by rw [hh119]; exact F_runs_cc_115
      have F_clock_cc_119 : Fld Z T119.heap cc "com/example/fettle/fettle/regex/Counts" "clock" "I" (.int 0) := by rw [hh119]; exact F_clock_cc_115
      have F_starting_cc_119 : Fld Z T119.heap cc "com/example/fettle/fettle/regex/Counts" "starting" "Z" (.int 0) := by rw [hh119]; exact F_starting_cc_115
      have F_least_cc_119 : Fld Z T119.heap cc "com/example/fettle/fettle/regex/Counts" "least" "I" (.int le) := by rw [hh119]; exact F_least_cc_115
      have F_most_cc_119 : Fld Z T119.heap cc "com/example/fettle/fettle/regex/Counts" "most" "I" (.int mo) := by rw [hh119]; exact F_most_cc_115
      have V_o_cc_119 : Arv Z T119.heap odd kodd .int (4 : Int32) [(.int (0 : Int32)), (.int (0 : Int32)), (.int (0 : Int32)), (.int (0 : Int32))] (.int (0 : Int32)) := by rw [hh119]; exact V_o_cc_115
      have V_w_cc_119 : Arv Z T119.heap xdd kxdd .int (4 : Int32) [(.int (0 : Int32)), (.int (0 : Int32)), (.int (0 : Int32)), (.int (0 : Int32))] (.int (0 : Int32)) := by rw [hh119]; exact V_w_cc_115
      have Z119 : n0 ≤ T119.heap.size := by rw [hh119]; exact Z115
      have N119 := Fr.app N115 Nq119
      have pre120 := fun τ (κ : Steps p.tables e below (T119.setTop (mkF m 341 #[.val (.int p0), .val (.int p1), .val (.int p2), .val (.int p3), .val (.int md), .val (.int le), .val (.int mo), .val (.int va), .val (.int vb), .val (.int vd), .val (.ref cc), .val (.ref dd), .val (.ref ee), .val (.int (1 : Int32)), .val (.int (0 : Int32)), .unset] [(.int (own_emp 1 0))])) τ) => pre118 τ (st119.trans κ)
      have pre121 := fun τ (κ : Steps p.tables e below (T119.setTop (mkF m 362 #[.val (.int p0), .val (.int p1), .val (.int p2), .val (.int p3), .val (.int md), .val (.int le), .val (.int mo), .val (.int va), .val (.int vb), .val (.int vd), .val (.ref cc), .val (.ref dd), .val (.ref ee), .val (.int (1 : Int32)), .val (.int (0 : Int32)), .unset] [(.ref ee), (.ref dd)])) τ) => pre120 τ (by
        refine XS.iload X119.here hx rfl (hb hby at_341) rfl ?_
        show Steps p.tables e below (T119.setTop (mkF m 343 #[.val (.int p0), .val (.int p1), .val (.int p2), .val (.int p3), .val (.int md), .val (.int le), .val (.int mo), .val (.int va), .val (.int vb), .val (.int vd), .val (.ref cc), .val (.ref dd), .val (.ref ee), .val (.int (1 : Int32)), .val (.int (0 : Int32)), .unset] [(.int (0 : Int32)), (.int (own_emp 1 0))])) _
        refine XS.icmpNo X119.here hx rfl (hb hby at_343) rfl (teq own_empR).2 ?_
        show Steps p.tables e below (T119.setTop (mkF m 346 #[.val (.int p0), .val (.int p1), .val (.int p2), .val (.int p3), .val (.int md), .val (.int le), .val (.int mo), .val (.int va), .val (.int vb), .val (.int vd), .val (.ref cc), .val (.ref dd), .val (.ref ee), .val (.int (1 : Int32)), .val (.int (0 : Int32)), .unset] [])) _
        refine XS.iconst X119.here hx rfl (hb hby at_346) ?_
        show Steps p.tables e below (T119.setTop (mkF m 347 #[.val (.int p0), .val (.int p1), .val (.int p2), .val (.int p3), .val (.int md), .val (.int le), .val (.int mo), .val (.int va), .val (.int vb), .val (.int vd), .val (.ref cc), .val (.ref dd), .val (.ref ee), .val (.int (1 : Int32)), .val (.int (0 : Int32)), .unset] [(.int (1 : Int32))])) _
        refine XS.goto X119.here hx rfl (pc0 := 347) (pc' := 351) rfl (hb hby at_347) (by decide) (by decide) ?_
        show Steps p.tables e below (T119.setTop (mkF m 351 #[.val (.int p0), .val (.int p1), .val (.int p2), .val (.int p3), .val (.int md), .val (.int le), .val (.int mo), .val (.int va), .val (.int vb), .val (.int vd), .val (.ref cc), .val (.ref dd), .val (.ref ee), .val (.int (1 : Int32)), .val (.int (0 : Int32)), .unset] [(.int (1 : Int32))])) _
        refine XS.istore X119.here hx rfl (hb hby at_351) rfl (l' := #[.val (.int p0), .val (.int p1), .val (.int p2), .val (.int p3), .val (.int md), .val (.int le), .val (.int mo), .val (.int va), .val (.int vb), .val (.int vd), .val (.ref cc), .val (.ref dd), .val (.ref ee), .val (.int (1 : Int32)), .val (.int (0 : Int32)), .unset]) rfl ?_
        show Steps p.tables e below (T119.setTop (mkF m 353 #[.val (.int p0), .val (.int p1), .val (.int p2), .val (.int p3), .val (.int md), .val (.int le), .val (.int mo), .val (.int va), .val (.int vb), .val (.int vd), .val (.ref cc), .val (.ref dd), .val (.ref ee), .val (.int (1 : Int32)), .val (.int (0 : Int32)), .unset] [])) _
        refine XS.iload X119.here hx rfl (hb hby at_353) rfl ?_
        show Steps p.tables e below (T119.setTop (mkF m 355 #[.val (.int p0), .val (.int p1), .val (.int p2), .val (.int p3), .val (.int md), .val (.int le), .val (.int mo), .val (.int va), .val (.int vb), .val (.int vd), .val (.ref cc), .val (.ref dd), .val (.ref ee), .val (.int (1 : Int32)), .val (.int (0 : Int32)), .unset] [(.int (0 : Int32))])) _
        refine XS.ifNo X119.here hx rfl (hb hby at_355) rfl ((if0 _ _).trans (teq rfl).2) ?_
        show Steps p.tables e below (T119.setTop (mkF m 358 #[.val (.int p0), .val (.int p1), .val (.int p2), .val (.int p3), .val (.int md), .val (.int le), .val (.int mo), .val (.int va), .val (.int vb), .val (.int vd), .val (.ref cc), .val (.ref dd), .val (.ref ee), .val (.int (1 : Int32)), .val (.int (0 : Int32)), .unset] [])) _
        refine XS.aload X119.here hx rfl (hb hby at_358) rfl rfl ?_
        show Steps p.tables e below (T119.setTop (mkF m 360 #[.val (.int p0), .val (.int p1), .val (.int p2), .val (.int p3), .val (.int md), .val (.int le), .val (.int mo), .val (.int va), .val (.int vb), .val (.int vd), .val (.ref cc), .val (.ref dd), .val (.ref ee), .val (.int (1 : Int32)), .val (.int (0 : Int32)), .unset] [(.ref dd)])) _
        refine XS.aload X119.here hx rfl (hb hby at_360) rfl rfl ?_
        show Steps p.tables e below (T119.setTop (mkF m 362 #[.val (.int p0), .val (.int p1), .val (.int p2), .val (.int p3), .val (.int md), .val (.int le), .val (.int mo), .val (.int va), .val (.int vb), .val (.int vd), .val (.ref cc), .val (.ref dd), .val (.ref ee), .val (.int (1 : Int32)), .val (.int (0 : Int32)), .unset] [(.ref ee), (.ref dd)])) _
        exact κ)
      obtain ⟨cq122, kq122, q122a, q122b, q122c⟩ := isOf hZ rfl E_dd_119
      obtain ⟨_, _, ⟨T122, L122, k122, n122⟩, -, X122, ⟨Lc122, hQ122, l122, y122, z122⟩, st122⟩ := X119.virtualBack hx (y := (⟨"com/example/fettle/fettle/regex/Counts", "takeInto", "(Lcom/example/fettle/fettle/regex/Counts;)Z"⟩ : MethodName)) (z := (⟨"com/example/fettle/fettle/regex/Counts", "takeInto", "(Lcom/example/fettle/fettle/regex/Counts;)Z"⟩ : MethodName)) hown (mvT hZ (hw _ (List.mem_of_getElem? (i := 37) rfl))) (mvT hZ (hw _ (List.mem_of_getElem? (i := 38) rfl))) (notFace_of_selects (args := #[]) (mvT hZ (hw _ (List.mem_of_getElem? (i := 40) rfl)))) (mvT hZ (hw _ (List.mem_of_getElem? (i := 40) rfl))) (mvT hZ (hw _ (List.mem_of_getElem? (i := 39) rfl))) (by decide) (backOf (W := 0) (rm6c l Z a0 hw [] dd ee occ xcc kocc kxcc 0 1 (0 + 1) 0 le mo ([(.int (0 : Int32)), (.int (0 : Int32)), (.int (0 : Int32)), (.int (0 : Int32))].set (0 : Int32).toNatClampNeg (.int 0)) ([(.int (0 : Int32)), (.int (0 : Int32)), (.int (0 : Int32)), (.int (0 : Int32))].set (0 : Int32).toNatClampNeg (.int 0)) oee xee koee kxee 0 0 0 0 le mo [(.int (0 : Int32)), (.int (0 : Int32)), (.int (0 : Int32)), (.int (0 : Int32))] [(.int (0 : Int32)), (.int (0 : Int32)), (.int (0 : Int32)), (.int (0 : Int32))] 0 T119.heap n0 Z119 ⟨E_dd_119, F_oldest_dd_119, F_newest_dd_119, F_first_dd_119, F_runs_dd_119, F_clock_dd_119, Fx_starting_dd_119, F_least_dd_119, F_most_dd_119, V_o_dd_119, V_w_dd_119⟩ ⟨E_ee_119, F_oldest_ee_119, F_newest_ee_119, F_first_ee_119, F_runs_ee_119, F_clock_ee_119, F_starting_ee_119, F_least_ee_119, F_most_ee_119, V_o_ee_119, V_w_ee_119⟩ rfl (Or.inl rfl) rfl rfl hle0 (Ne.symm ne_occ_dd) (Ne.symm ne_xcc_dd) nox31 ne_dd_ee ne_dd_oee ne_dd_xee (Ne.symm ne_occ_ee) (Ne.symm ne_xcc_ee) ne_ee_oee ne_ee_xee nox43 ne_occ_oee ne_occ_xee ne_xcc_oee ne_xcc_xee g_dd g_occ g_xcc g_ee rfl rfl rfl rfl) hZ (hw _ (List.mem_of_getElem? (i := 41) rfl)) (hw _ (List.mem_of_getElem? (i := 7) rfl)) (by decide) (by decide)) q122a q122c (g := (mkF m 362 #[.val (.int p0), .val (.int p1), .val (.int p2), .val (.int p3), .val (.int md), .val (.int le), .val (.int mo), .val (.int va), .val (.int vb), .val (.int vd), .val (.ref cc), .val (.ref dd), .val (.ref ee), .val (.int (1 : Int32)), .val (.int (0 : Int32)), .unset] [(.ref ee), (.ref dd)])) rfl (by rw [hml]; rfl) (Steps.refl _) (argsL := [(.ref ee)]) (rest := []) (lenOf pd_7 rfl) rfl (by show 2 * 0 + _ ≤ _; exact Nat.le_of_eq rfl) (hb hby at_362) (fun _ _ => ⟨rfl, rfl, (by decide : 9 + 0 ≤ _), (by decide : 48 + 0 ≤ _)⟩)
      dsimp only [Pt.U, Pt.locs, Pt.cells, Pt.slots] at X122 l122 y122 z122 st122 hQ122
      subst l122 y122 z122
      obtain ⟨mx120, rfl, Nq122, K122, R122⟩ := hQ122
      have E_ee_122 : Exa Z T122.heap ee "com/example/fettle/fettle/regex/Counts" := E_ee_119.keep K122
      have V_o_ee_122 : Arv Z T122.heap oee koee .int (4 : Int32) [(.int (0 : Int32)), (.int (0 : Int32)), (.int (0 : Int32)), (.int (0 : Int32))] (.int (0 : Int32)) := V_o_ee_119.keep K122 (ninS (Ne.symm ne_dd_oee) (ninS (Ne.symm ne_occ_oee) (ninS (Ne.symm ne_xcc_oee) (ninS (Ne.symm ne_ee_oee) nin0))))
      have V_w_ee_122 : Arv Z T122.heap xee kxee .int (4 : Int32) [(.int (0 : Int32)), (.int (0 : Int32)), (.int (0 : Int32)), (.int (0 : Int32))] (.int (0 : Int32)) := V_w_ee_119.keep K122 (ninS (Ne.symm ne_dd_xee) (ninS (Ne.symm ne_occ_xee) (ninS (Ne.symm ne_xcc_xee) (ninS (Ne.symm ne_ee_xee) nin0))))
      have E_dd_122 : Exa Z T122.heap dd "com/example/fettle/fettle/regex/Counts" := E_dd_119.keep K122
      have E_cc_122 : Exa Z T122.heap cc "com/example/fettle/fettle/regex/Counts" := E_cc_119.keep K122
      have F_oldest_cc_122 : Fld Z T122.heap cc "com/example/fettle/fettle/regex/Counts" "oldest" "[I" (.ref odd) := F_oldest_cc_119.keep K122 (ninS ne_cc_dd (ninS ne_cc_occ (ninS ne_cc_xcc (ninS ne_cc_ee nin0))))
      have F_newest_cc_122 : Fld Z T122.heap cc "com/example/fettle/fettle/regex/Counts" "newest" "[I" (.ref xdd) := F_newest_cc_119.keep K122 (ninS ne_cc_dd (ninS ne_cc_occ (ninS ne_cc_xcc (ninS ne_cc_ee nin0))))
      have F_first_cc_122 : Fld Z T122.heap cc "com/example/fettle/fettle/regex/Counts" "first" "I" (.int 0) := F_first_cc_119.keep K122 (ninS ne_cc_dd (ninS ne_cc_occ (ninS ne_cc_xcc (ninS ne_cc_ee nin0))))
      have F_runs_cc_122 : Fld Z T122.heap cc "com/example/fettle/fettle/regex/Counts" "runs" "I" (.int 0) := F_runs_cc_119.keep K122 (ninS ne_cc_dd (ninS ne_cc_occ (ninS ne_cc_xcc (ninS ne_cc_ee nin0))))
      have F_clock_cc_122 : Fld Z T122.heap cc "com/example/fettle/fettle/regex/Counts" "clock" "I" (.int 0) := F_clock_cc_119.keep K122 (ninS ne_cc_dd (ninS ne_cc_occ (ninS ne_cc_xcc (ninS ne_cc_ee nin0))))
      have F_starting_cc_122 : Fld Z T122.heap cc "com/example/fettle/fettle/regex/Counts" "starting" "Z" (.int 0) := F_starting_cc_119.keep K122 (ninS ne_cc_dd (ninS ne_cc_occ (ninS ne_cc_xcc (ninS ne_cc_ee nin0))))
      have F_least_cc_122 : Fld Z T122.heap cc "com/example/fettle/fettle/regex/Counts" "least" "I" (.int le) := F_least_cc_119.keep K122 (ninS ne_cc_dd (ninS ne_cc_occ (ninS ne_cc_xcc (ninS ne_cc_ee nin0))))
      have F_most_cc_122 : Fld Z T122.heap cc "com/example/fettle/fettle/regex/Counts" "most" "I" (.int mo) := F_most_cc_119.keep K122 (ninS ne_cc_dd (ninS ne_cc_occ (ninS ne_cc_xcc (ninS ne_cc_ee nin0))))
      have V_o_cc_122 : Arv Z T122.heap odd kodd .int (4 : Int32) [(.int (0 : Int32)), (.int (0 : Int32)), (.int (0 : Int32)), (.int (0 : Int32))] (.int (0 : Int32)) := V_o_cc_119.keep K122 (ninS (Ne.symm ne_dd_odd) (ninS (Ne.symm ne_occ_odd) (ninS (Ne.symm ne_xcc_odd) (ninS ne_odd_ee nin0))))
      have V_w_cc_122 : Arv Z T122.heap xdd kxdd .int (4 : Int32) [(.int (0 : Int32)), (.int (0 : Int32)), (.int (0 : Int32)), (.int (0 : Int32))] (.int (0 : Int32)) := V_w_cc_119.keep K122 (ninS (Ne.symm ne_dd_xdd) (ninS (Ne.symm ne_occ_xdd) (ninS (Ne.symm ne_xcc_xdd) (ninS ne_xdd_ee nin0))))
      have Z122 : n0 ≤ T122.heap.size := Nat.le_trans Z119 K122.1
      have N122 := Fr.app N119 Nq122
      have pre123 := fun τ (κ : Steps p.tables e below (T122.setTop (mkF m 365 #[.val (.int p0), .val (.int p1), .val (.int p2), .val (.int p3), .val (.int md), .val (.int le), .val (.int mo), .val (.int va), .val (.int vb), .val (.int vd), .val (.ref cc), .val (.ref dd), .val (.ref ee), .val (.int (1 : Int32)), .val (.int (0 : Int32)), .unset] [(.int mx120)])) τ) => pre121 τ (st122.trans κ)
      obtain ⟨u0, u1, u2, u3, u4, u5⟩ := R122
      have pre124 := fun τ (κ : Steps p.tables e below (T122.setTop (mkF m 388 #[.val (.int p0), .val (.int p1), .val (.int p2), .val (.int p3), .val (.int md), .val (.int le), .val (.int mo), .val (.int va), .val (.int vb), .val (.int vd), .val (.ref cc), .val (.ref dd), .val (.ref ee), .val (.int (1 : Int32)), .val (.int (0 : Int32)), .unset] [(.int (2 : Int32)), (.int mo)])) τ) => pre123 τ (by
        refine XS.pop X122.here hx rfl (hb hby at_365) rfl rfl ?_
        show Steps p.tables e below (T122.setTop (mkF m 366 #[.val (.int p0), .val (.int p1), .val (.int p2), .val (.int p3), .val (.int md), .val (.int le), .val (.int mo), .val (.int va), .val (.int vb), .val (.int vd), .val (.ref cc), .val (.ref dd), .val (.ref ee), .val (.int (1 : Int32)), .val (.int (0 : Int32)), .unset] [])) _
        refine XS.iload X122.here hx rfl (hb hby at_366) rfl ?_
        show Steps p.tables e below (T122.setTop (mkF m 368 #[.val (.int p0), .val (.int p1), .val (.int p2), .val (.int p3), .val (.int md), .val (.int le), .val (.int mo), .val (.int va), .val (.int vb), .val (.int vd), .val (.ref cc), .val (.ref dd), .val (.ref ee), .val (.int (1 : Int32)), .val (.int (0 : Int32)), .unset] [(.int vd)])) _
        refine XS.ifYes X122.here hx rfl (pc0 := 368) (pc' := 385) rfl (hb hby at_368) rfl ((if0 _ _).trans (teq qv).1) (by decide) (by decide) ?_
        show Steps p.tables e below (T122.setTop (mkF m 385 #[.val (.int p0), .val (.int p1), .val (.int p2), .val (.int p3), .val (.int md), .val (.int le), .val (.int mo), .val (.int va), .val (.int vb), .val (.int vd), .val (.ref cc), .val (.ref dd), .val (.ref ee), .val (.int (1 : Int32)), .val (.int (0 : Int32)), .unset] [])) _
        refine XS.iload X122.here hx rfl (hb hby at_385) rfl ?_
        show Steps p.tables e below (T122.setTop (mkF m 387 #[.val (.int p0), .val (.int p1), .val (.int p2), .val (.int p3), .val (.int md), .val (.int le), .val (.int mo), .val (.int va), .val (.int vb), .val (.int vd), .val (.ref cc), .val (.ref dd), .val (.ref ee), .val (.int (1 : Int32)), .val (.int (0 : Int32)), .unset] [(.int mo)])) _
        refine XS.iconst X122.here hx rfl (hb hby at_387) ?_
        show Steps p.tables e below (T122.setTop (mkF m 388 #[.val (.int p0), .val (.int p1), .val (.int p2), .val (.int p3), .val (.int md), .val (.int le), .val (.int mo), .val (.int va), .val (.int vb), .val (.int vd), .val (.ref cc), .val (.ref dd), .val (.ref ee), .val (.int (1 : Int32)), .val (.int (0 : Int32)), .unset] [(.int (2 : Int32)), (.int mo)])) _
        exact κ)
      rcases u5 with ⟨⟨qa, qb⟩, u5⟩ | ⟨qa, u5⟩
      · have hm2 : mo = 2 := qb.symm.trans (by decide)
        have pre125 := fun τ (κ : Steps p.tables e below (T122.setTop (mkF m 405 #[.val (.int p0), .val (.int p1), .val (.int p2), .val (.int p3), .val (.int md), .val (.int le), .val (.int mo), .val (.int va), .val (.int vb), .val (.int vd), .val (.ref cc), .val (.ref dd), .val (.ref ee), .val (.int (1 : Int32)), .val (.int (0 : Int32)), .val (.int (1 : Int32))] [(.ref ee)])) τ) => pre124 τ (by
          refine XS.icmpNo X122.here hx rfl (hb hby at_388) rfl (teq hm2).2 ?_
          show Steps p.tables e below (T122.setTop (mkF m 391 #[.val (.int p0), .val (.int p1), .val (.int p2), .val (.int p3), .val (.int md), .val (.int le), .val (.int mo), .val (.int va), .val (.int vb), .val (.int vd), .val (.ref cc), .val (.ref dd), .val (.ref ee), .val (.int (1 : Int32)), .val (.int (0 : Int32)), .unset] [])) _
          refine XS.iconst X122.here hx rfl (hb hby at_391) ?_
          show Steps p.tables e below (T122.setTop (mkF m 392 #[.val (.int p0), .val (.int p1), .val (.int p2), .val (.int p3), .val (.int md), .val (.int le), .val (.int mo), .val (.int va), .val (.int vb), .val (.int vd), .val (.ref cc), .val (.ref dd), .val (.ref ee), .val (.int (1 : Int32)), .val (.int (0 : Int32)), .unset] [(.int (1 : Int32))])) _
          refine XS.goto X122.here hx rfl (pc0 := 392) (pc' := 396) rfl (hb hby at_392) (by decide) (by decide) ?_
          show Steps p.tables e below (T122.setTop (mkF m 396 #[.val (.int p0), .val (.int p1), .val (.int p2), .val (.int p3), .val (.int md), .val (.int le), .val (.int mo), .val (.int va), .val (.int vb), .val (.int vd), .val (.ref cc), .val (.ref dd), .val (.ref ee), .val (.int (1 : Int32)), .val (.int (0 : Int32)), .unset] [(.int (1 : Int32))])) _
          refine XS.istore X122.here hx rfl (hb hby at_396) rfl (l' := #[.val (.int p0), .val (.int p1), .val (.int p2), .val (.int p3), .val (.int md), .val (.int le), .val (.int mo), .val (.int va), .val (.int vb), .val (.int vd), .val (.ref cc), .val (.ref dd), .val (.ref ee), .val (.int (1 : Int32)), .val (.int (0 : Int32)), .val (.int (1 : Int32))]) rfl ?_
          show Steps p.tables e below (T122.setTop (mkF m 398 #[.val (.int p0), .val (.int p1), .val (.int p2), .val (.int p3), .val (.int md), .val (.int le), .val (.int mo), .val (.int va), .val (.int vb), .val (.int vd), .val (.ref cc), .val (.ref dd), .val (.ref ee), .val (.int (1 : Int32)), .val (.int (0 : Int32)), .val (.int (1 : Int32))] [])) _
          refine XS.iload X122.here hx rfl (hb hby at_398) rfl ?_
          show Steps p.tables e below (T122.setTop (mkF m 400 #[.val (.int p0), .val (.int p1), .val (.int p2), .val (.int p3), .val (.int md), .val (.int le), .val (.int mo), .val (.int va), .val (.int vb), .val (.int vd), .val (.ref cc), .val (.ref dd), .val (.ref ee), .val (.int (1 : Int32)), .val (.int (0 : Int32)), .val (.int (1 : Int32))] [(.int (1 : Int32))])) _
          refine XS.ifNo X122.here hx rfl (hb hby at_400) rfl ((if0 _ _).trans (feq (by decide)).1) ?_
          show Steps p.tables e below (T122.setTop (mkF m 403 #[.val (.int p0), .val (.int p1), .val (.int p2), .val (.int p3), .val (.int md), .val (.int le), .val (.int mo), .val (.int va), .val (.int vb), .val (.int vd), .val (.ref cc), .val (.ref dd), .val (.ref ee), .val (.int (1 : Int32)), .val (.int (0 : Int32)), .val (.int (1 : Int32))] [])) _
          refine XS.aload X122.here hx rfl (hb hby at_403) rfl rfl ?_
          show Steps p.tables e below (T122.setTop (mkF m 405 #[.val (.int p0), .val (.int p1), .val (.int p2), .val (.int p3), .val (.int md), .val (.int le), .val (.int mo), .val (.int va), .val (.int vb), .val (.int vd), .val (.ref cc), .val (.ref dd), .val (.ref ee), .val (.int (1 : Int32)), .val (.int (0 : Int32)), .val (.int (1 : Int32))] [(.ref ee)])) _
          exact κ)
        obtain ⟨cq126, kq126, q126a, q126b, q126c⟩ := isOf hZ rfl u3
        obtain ⟨_, _, ⟨T126, L126, k126, n126⟩, -, X126, ⟨Lc126, hQ126, l126, y126, z126⟩, st126⟩ := X122.virtualBack hx (y := (⟨"com/example/fettle/fettle/regex/Counts", "isEmpty", "()Z"⟩ : MethodName)) (z := (⟨"com/example/fettle/fettle/regex/Counts", "isEmpty", "()Z"⟩ : MethodName)) hown (mvT hZ (hw _ (List.mem_of_getElem? (i := 23) rfl))) (mvT hZ (hw _ (List.mem_of_getElem? (i := 24) rfl))) (notFace_of_selects (args := #[]) (mvT hZ (hw _ (List.mem_of_getElem? (i := 26) rfl)))) (mvT hZ (hw _ (List.mem_of_getElem? (i := 26) rfl))) (mvT hZ (hw _ (List.mem_of_getElem? (i := 25) rfl))) (by decide) (backOf (W := 0) (rm4 l Z a0 hw [] ee (1 - 1) 0 T122.heap n0 Z122 u5 u4) hZ (hw _ (List.mem_of_getElem? (i := 27) rfl)) (hw _ (List.mem_of_getElem? (i := 7) rfl)) (by decide) (by decide)) q126a q126c (g := (mkF m 405 #[.val (.int p0), .val (.int p1), .val (.int p2), .val (.int p3), .val (.int md), .val (.int le), .val (.int mo), .val (.int va), .val (.int vb), .val (.int vd), .val (.ref cc), .val (.ref dd), .val (.ref ee), .val (.int (1 : Int32)), .val (.int (0 : Int32)), .val (.int (1 : Int32))] [(.ref ee)])) rfl (by rw [hml]; rfl) (Steps.refl _) (argsL := []) (rest := []) (lenOf pd_6 rfl) rfl (by show 2 * 0 + _ ≤ _; exact Nat.le_of_eq rfl) (hb hby at_405) (fun _ _ => ⟨rfl, rfl, (by decide : 9 + 0 ≤ _), (by decide : 48 + 0 ≤ _)⟩)
        dsimp only [Pt.U, Pt.locs, Pt.cells, Pt.slots] at X126 l126 y126 z126 st126 hQ126
        subst l126 y126 z126
        obtain ⟨rfl, Nq126, hh126⟩ := hQ126
        have E_cc_126 : Exa Z T126.heap cc "com/example/fettle/fettle/regex/Counts" := by rw [hh126]; exact E_cc_122
        have F_oldest_cc_126 : Fld Z T126.heap cc "com/example/fettle/fettle/regex/Counts" "oldest" "[I" (.ref odd) := by rw [hh126]; exact F_oldest_cc_122
        have F_newest_cc_126 : Fld Z T126.heap cc "com/example/fettle/fettle/regex/Counts" "newest" "[I" (.ref xdd) := by rw [hh126]; exact F_newest_cc_122
        have F_first_cc_126 : Fld Z T126.heap cc "com/example/fettle/fettle/regex/Counts" "first" "I" (.int 0) := by rw [hh126]; exact F_first_cc_122
        have F_runs_cc_126 : Fld Z T126.heap cc "com/example/fettle/fettle/regex/Counts" "runs" "I" (.int 0) := by rw [hh126]; exact F_runs_cc_122
        have F_clock_cc_126 : Fld Z T126.heap cc "com/example/fettle/fettle/regex/Counts" "clock" "I" (.int 0) := by rw [hh126]; exact F_clock_cc_122
        have F_starting_cc_126 : Fld Z T126.heap cc "com/example/fettle/fettle/regex/Counts" "starting" "Z" (.int 0) := by rw [hh126]; exact F_starting_cc_122
        have F_least_cc_126 : Fld Z T126.heap cc "com/example/fettle/fettle/regex/Counts" "least" "I" (.int le) := by rw [hh126]; exact F_least_cc_122
        have F_most_cc_126 : Fld Z T126.heap cc "com/example/fettle/fettle/regex/Counts" "most" "I" (.int mo) := by rw [hh126]; exact F_most_cc_122
        have V_o_cc_126 : Arv Z T126.heap odd kodd .int (4 : Int32) [(.int (0 : Int32)), (.int (0 : Int32)), (.int (0 : Int32)), (.int (0 : Int32))] (.int (0 : Int32)) := by rw [hh126]; exact V_o_cc_122
        have V_w_cc_126 : Arv Z T126.heap xdd kxdd .int (4 : Int32) [(.int (0 : Int32)), (.int (0 : Int32)), (.int (0 : Int32)), (.int (0 : Int32))] (.int (0 : Int32)) := by rw [hh126]; exact V_w_cc_122
        have u0_126 : Exa Z T126.heap dd "com/example/fettle/fettle/regex/Counts" := by rw [hh126]; exact u0
        have u1_126 : Fld Z T126.heap dd "com/example/fettle/fettle/regex/Counts" "runs" "I" (.int 0) := by rw [hh126]; exact u1
        have u2_126 : Fld Z T126.heap dd "com/example/fettle/fettle/regex/Counts" "starting" "Z" (.int 0) := by rw [hh126]; exact u2
        have u3_126 : Exa Z T126.heap ee "com/example/fettle/fettle/regex/Counts" := by rw [hh126]; exact u3
        have u4_126 : Fld Z T126.heap ee "com/example/fettle/fettle/regex/Counts" "starting" "Z" (.int 0) := by rw [hh126]; exact u4
        have u5_126 : Fld Z T126.heap ee "com/example/fettle/fettle/regex/Counts" "runs" "I" (.int (1 - 1)) := by rw [hh126]; exact u5
        have Z126 : n0 ≤ T126.heap.size := by rw [hh126]; exact Z122
        have N126 := Fr.app N122 Nq126
        have pre127 := fun τ (κ : Steps p.tables e below (T126.setTop (mkF m 408 #[.val (.int p0), .val (.int p1), .val (.int p2), .val (.int p3), .val (.int md), .val (.int le), .val (.int mo), .val (.int va), .val (.int vb), .val (.int vd), .val (.ref cc), .val (.ref dd), .val (.ref ee), .val (.int (1 : Int32)), .val (.int (0 : Int32)), .val (.int (1 : Int32))] [(.int (own_emp (1 - 1) 0))])) τ) => pre125 τ (st126.trans κ)
        have pre128 := fun τ (κ : Steps p.tables e below (T126.setTop (mkF m 415 #[.val (.int p0), .val (.int p1), .val (.int p2), .val (.int p3), .val (.int md), .val (.int le), .val (.int mo), .val (.int va), .val (.int vb), .val (.int vd), .val (.ref cc), .val (.ref dd), .val (.ref ee), .val (.int (1 : Int32)), .val (.int (0 : Int32)), .val (.int (1 : Int32))] [(.ref dd)])) τ) => pre127 τ (by
          refine XS.iload X126.here hx rfl (hb hby at_408) rfl ?_
          show Steps p.tables e below (T126.setTop (mkF m 410 #[.val (.int p0), .val (.int p1), .val (.int p2), .val (.int p3), .val (.int md), .val (.int le), .val (.int mo), .val (.int va), .val (.int vb), .val (.int vd), .val (.ref cc), .val (.ref dd), .val (.ref ee), .val (.int (1 : Int32)), .val (.int (0 : Int32)), .val (.int (1 : Int32))] [(.int (1 : Int32)), (.int (own_emp (1 - 1) 0))])) _
          refine XS.icmpNo X126.here hx rfl (hb hby at_410) rfl (teq (by decide)).2 ?_
          show Steps p.tables e below (T126.setTop (mkF m 413 #[.val (.int p0), .val (.int p1), .val (.int p2), .val (.int p3), .val (.int md), .val (.int le), .val (.int mo), .val (.int va), .val (.int vb), .val (.int vd), .val (.ref cc), .val (.ref dd), .val (.ref ee), .val (.int (1 : Int32)), .val (.int (0 : Int32)), .val (.int (1 : Int32))] [])) _
          refine XS.aload X126.here hx rfl (hb hby at_413) rfl rfl ?_
          show Steps p.tables e below (T126.setTop (mkF m 415 #[.val (.int p0), .val (.int p1), .val (.int p2), .val (.int p3), .val (.int md), .val (.int le), .val (.int mo), .val (.int va), .val (.int vb), .val (.int vd), .val (.ref cc), .val (.ref dd), .val (.ref ee), .val (.int (1 : Int32)), .val (.int (0 : Int32)), .val (.int (1 : Int32))] [(.ref dd)])) _
          exact κ)
        obtain ⟨cq129, kq129, q129a, q129b, q129c⟩ := isOf hZ rfl u0_126
        obtain ⟨_, _, ⟨T129, L129, k129, n129⟩, -, X129, ⟨Lc129, hQ129, l129, y129, z129⟩, st129⟩ := X126.virtualBack hx (y := (⟨"com/example/fettle/fettle/regex/Counts", "isEmpty", "()Z"⟩ : MethodName)) (z := (⟨"com/example/fettle/fettle/regex/Counts", "isEmpty", "()Z"⟩ : MethodName)) hown (mvT hZ (hw _ (List.mem_of_getElem? (i := 23) rfl))) (mvT hZ (hw _ (List.mem_of_getElem? (i := 24) rfl))) (notFace_of_selects (args := #[]) (mvT hZ (hw _ (List.mem_of_getElem? (i := 26) rfl)))) (mvT hZ (hw _ (List.mem_of_getElem? (i := 26) rfl))) (mvT hZ (hw _ (List.mem_of_getElem? (i := 25) rfl))) (by decide) (backOf (W := 0) (rm4 l Z a0 hw [] dd 0 0 T126.heap n0 Z126 u1_126 u2_126) hZ (hw _ (List.mem_of_getElem? (i := 27) rfl)) (hw _ (List.mem_of_getElem? (i := 7) rfl)) (by decide) (by decide)) q129a q129c (g := (mkF m 415 #[.val (.int p0), .val (.int p1), .val (.int p2), .val (.int p3), .val (.int md), .val (.int le), .val (.int mo), .val (.int va), .val (.int vb), .val (.int vd), .val (.ref cc), .val (.ref dd), .val (.ref ee), .val (.int (1 : Int32)), .val (.int (0 : Int32)), .val (.int (1 : Int32))] [(.ref dd)])) rfl (by rw [hml]; rfl) (Steps.refl _) (argsL := []) (rest := []) (lenOf pd_6 rfl) rfl (by show 2 * 0 + _ ≤ _; exact Nat.le_of_eq rfl) (hb hby at_415) (fun _ _ => ⟨rfl, rfl, (by decide : 9 + 0 ≤ _), (by decide : 48 + 0 ≤ _)⟩)
        dsimp only [Pt.U, Pt.locs, Pt.cells, Pt.slots] at X129 l129 y129 z129 st129 hQ129
        subst l129 y129 z129
        obtain ⟨rfl, Nq129, hh129⟩ := hQ129
        have E_cc_129 : Exa Z T129.heap cc "com/example/fettle/fettle/regex/Counts" := by rw [hh129]; exact E_cc_126
        have F_oldest_cc_129 : Fld Z T129.heap cc "com/example/fettle/fettle/regex/Counts" "oldest" "[I" (.ref odd) := by rw [hh129]; exact F_oldest_cc_126
        have F_newest_cc_129 : Fld Z T129.heap cc "com/example/fettle/fettle/regex/Counts" "newest" "[I" (.ref xdd) := by rw [hh129]; exact F_newest_cc_126
        have F_first_cc_129 : Fld Z T129.heap cc "com/example/fettle/fettle/regex/Counts" "first" "I" (.int 0) := by rw [hh129]; exact F_first_cc_126
        have F_runs_cc_129 : Fld Z T129.heap cc "com/example/fettle/fettle/regex/Counts" "runs" "I" (.int 0) := by rw [hh129]; exact F_runs_cc_126
        have F_clock_cc_129 : Fld Z T129.heap cc "com/example/fettle/fettle/regex/Counts" "clock" "I" (.int 0) := by rw [hh129]; exact F_clock_cc_126
        have F_starting_cc_129 : Fld Z T129.heap cc "com/example/fettle/fettle/regex/Counts" "starting" "Z" (.int 0) := by rw [hh129]; exact F_starting_cc_126
        have F_least_cc_129 : Fld Z T129.heap cc "com/example/fettle/fettle/regex/Counts" "least" "I" (.int le) := by rw [hh129]; exact F_least_cc_126
        have F_most_cc_129 : Fld Z T129.heap cc "com/example/fettle/fettle/regex/Counts" "most" "I" (.int mo) := by rw [hh129]; exact F_most_cc_126
        have V_o_cc_129 : Arv Z T129.heap odd kodd .int (4 : Int32) [(.int (0 : Int32)), (.int (0 : Int32)), (.int (0 : Int32)), (.int (0 : Int32))] (.int (0 : Int32)) := by rw [hh129]; exact V_o_cc_126
        have V_w_cc_129 : Arv Z T129.heap xdd kxdd .int (4 : Int32) [(.int (0 : Int32)), (.int (0 : Int32)), (.int (0 : Int32)), (.int (0 : Int32))] (.int (0 : Int32)) := by rw [hh129]; exact V_w_cc_126
        have u0_129 : Exa Z T129.heap dd "com/example/fettle/fettle/regex/Counts" := by rw [hh129]; exact u0_126
        have u1_129 : Fld Z T129.heap dd "com/example/fettle/fettle/regex/Counts" "runs" "I" (.int 0) := by rw [hh129]; exact u1_126
        have u2_129 : Fld Z T129.heap dd "com/example/fettle/fettle/regex/Counts" "starting" "Z" (.int 0) := by rw [hh129]; exact u2_126
        have u3_129 : Exa Z T129.heap ee "com/example/fettle/fettle/regex/Counts" := by rw [hh129]; exact u3_126
        have u4_129 : Fld Z T129.heap ee "com/example/fettle/fettle/regex/Counts" "starting" "Z" (.int 0) := by rw [hh129]; exact u4_126
        have u5_129 : Fld Z T129.heap ee "com/example/fettle/fettle/regex/Counts" "runs" "I" (.int (1 - 1)) := by rw [hh129]; exact u5_126
        have Z129 : n0 ≤ T129.heap.size := by rw [hh129]; exact Z126
        have N129 := Fr.app N126 Nq129
        have pre130 := fun τ (κ : Steps p.tables e below (T129.setTop (mkF m 418 #[.val (.int p0), .val (.int p1), .val (.int p2), .val (.int p3), .val (.int md), .val (.int le), .val (.int mo), .val (.int va), .val (.int vb), .val (.int vd), .val (.ref cc), .val (.ref dd), .val (.ref ee), .val (.int (1 : Int32)), .val (.int (0 : Int32)), .val (.int (1 : Int32))] [(.int (own_emp 0 0))])) τ) => pre128 τ (st129.trans κ)
        have pre131 := fun τ (κ : Steps p.tables e below (T129.setTop (mkF m 430 #[.val (.int p0), .val (.int p1), .val (.int p2), .val (.int p3), .val (.int md), .val (.int le), .val (.int mo), .val (.int va), .val (.int vb), .val (.int vd), .val (.ref cc), .val (.ref dd), .val (.ref ee), .val (.int (1 : Int32)), .val (.int (0 : Int32)), .val (.int (1 : Int32))] [(.int (1 : Int32))])) τ) => pre130 τ (by
          refine XS.ifNo X129.here hx rfl (hb hby at_418) rfl ((if0 _ _).trans (feq (by decide)).1) ?_
          show Steps p.tables e below (T129.setTop (mkF m 421 #[.val (.int p0), .val (.int p1), .val (.int p2), .val (.int p3), .val (.int md), .val (.int le), .val (.int mo), .val (.int va), .val (.int vb), .val (.int vd), .val (.ref cc), .val (.ref dd), .val (.ref ee), .val (.int (1 : Int32)), .val (.int (0 : Int32)), .val (.int (1 : Int32))] [])) _
          refine XS.iconst X129.here hx rfl (hb hby at_421) ?_
          show Steps p.tables e below (T129.setTop (mkF m 422 #[.val (.int p0), .val (.int p1), .val (.int p2), .val (.int p3), .val (.int md), .val (.int le), .val (.int mo), .val (.int va), .val (.int vb), .val (.int vd), .val (.ref cc), .val (.ref dd), .val (.ref ee), .val (.int (1 : Int32)), .val (.int (0 : Int32)), .val (.int (1 : Int32))] [(.int (1 : Int32))])) _
          refine XS.goto X129.here hx rfl (pc0 := 422) (pc' := 426) rfl (hb hby at_422) (by decide) (by decide) ?_
          show Steps p.tables e below (T129.setTop (mkF m 426 #[.val (.int p0), .val (.int p1), .val (.int p2), .val (.int p3), .val (.int md), .val (.int le), .val (.int mo), .val (.int va), .val (.int vb), .val (.int vd), .val (.ref cc), .val (.ref dd), .val (.ref ee), .val (.int (1 : Int32)), .val (.int (0 : Int32)), .val (.int (1 : Int32))] [(.int (1 : Int32))])) _
          refine XS.istore X129.here hx rfl (hb hby at_426) rfl (l' := #[.val (.int p0), .val (.int p1), .val (.int p2), .val (.int p3), .val (.int md), .val (.int le), .val (.int mo), .val (.int va), .val (.int vb), .val (.int vd), .val (.ref cc), .val (.ref dd), .val (.ref ee), .val (.int (1 : Int32)), .val (.int (0 : Int32)), .val (.int (1 : Int32))]) rfl ?_
          show Steps p.tables e below (T129.setTop (mkF m 428 #[.val (.int p0), .val (.int p1), .val (.int p2), .val (.int p3), .val (.int md), .val (.int le), .val (.int mo), .val (.int va), .val (.int vb), .val (.int vd), .val (.ref cc), .val (.ref dd), .val (.ref ee), .val (.int (1 : Int32)), .val (.int (0 : Int32)), .val (.int (1 : Int32))] [])) _
          refine XS.iload X129.here hx rfl (hb hby at_428) rfl ?_
          show Steps p.tables e below (T129.setTop (mkF m 430 #[.val (.int p0), .val (.int p1), .val (.int p2), .val (.int p3), .val (.int md), .val (.int le), .val (.int mo), .val (.int va), .val (.int vb), .val (.int vd), .val (.ref cc), .val (.ref dd), .val (.ref ee), .val (.int (1 : Int32)), .val (.int (0 : Int32)), .val (.int (1 : Int32))] [(.int (1 : Int32))])) _
          exact κ)
        obtain ⟨fs, hr, hrun, hended, hW, hsame⟩ := X129.leave (v := some (.int (1 : Int32))) (fun h => by rw [Bd.returns] at h; cases h)
        refine ⟨_, _, pre131 _ ?_, hrun, hended, _, _, rfl, ?_, ⟨_, rfl⟩, hW, hsame.mono (by decide) (by decide)⟩
        · exact retN X129 hx (t := .boolean) Bd.returns (by simp) (hb hby at_430) hr
        · show Q0 Z p0 p1 p2 p3 h0 n0 _ T129.heap _
          exact ⟨rfl, N129⟩
      · have hm2 : ¬ mo = 2 := fun z => qa ⟨fun y => absurd (z.symm.trans y) (by decide), (by decide : ((0 : Int32) + 1 + 1) - 0 = 2).trans z.symm⟩
        have pre132 := fun τ (κ : Steps p.tables e below (T122.setTop (mkF m 405 #[.val (.int p0), .val (.int p1), .val (.int p2), .val (.int p3), .val (.int md), .val (.int le), .val (.int mo), .val (.int va), .val (.int vb), .val (.int vd), .val (.ref cc), .val (.ref dd), .val (.ref ee), .val (.int (1 : Int32)), .val (.int (0 : Int32)), .val (.int (0 : Int32))] [(.ref ee)])) τ) => pre124 τ (by
          refine XS.icmpYes X122.here hx rfl (pc0 := 388) (pc' := 395) rfl (hb hby at_388) rfl (feq hm2).2 (by decide) (by decide) ?_
          show Steps p.tables e below (T122.setTop (mkF m 395 #[.val (.int p0), .val (.int p1), .val (.int p2), .val (.int p3), .val (.int md), .val (.int le), .val (.int mo), .val (.int va), .val (.int vb), .val (.int vd), .val (.ref cc), .val (.ref dd), .val (.ref ee), .val (.int (1 : Int32)), .val (.int (0 : Int32)), .unset] [])) _
          refine XS.iconst X122.here hx rfl (hb hby at_395) ?_
          show Steps p.tables e below (T122.setTop (mkF m 396 #[.val (.int p0), .val (.int p1), .val (.int p2), .val (.int p3), .val (.int md), .val (.int le), .val (.int mo), .val (.int va), .val (.int vb), .val (.int vd), .val (.ref cc), .val (.ref dd), .val (.ref ee), .val (.int (1 : Int32)), .val (.int (0 : Int32)), .unset] [(.int (0 : Int32))])) _
          refine XS.istore X122.here hx rfl (hb hby at_396) rfl (l' := #[.val (.int p0), .val (.int p1), .val (.int p2), .val (.int p3), .val (.int md), .val (.int le), .val (.int mo), .val (.int va), .val (.int vb), .val (.int vd), .val (.ref cc), .val (.ref dd), .val (.ref ee), .val (.int (1 : Int32)), .val (.int (0 : Int32)), .val (.int (0 : Int32))]) rfl ?_
          show Steps p.tables e below (T122.setTop (mkF m 398 #[.val (.int p0), .val (.int p1), .val (.int p2), .val (.int p3), .val (.int md), .val (.int le), .val (.int mo), .val (.int va), .val (.int vb), .val (.int vd), .val (.ref cc), .val (.ref dd), .val (.ref ee), .val (.int (1 : Int32)), .val (.int (0 : Int32)), .val (.int (0 : Int32))] [])) _
          refine XS.iload X122.here hx rfl (hb hby at_398) rfl ?_
          show Steps p.tables e below (T122.setTop (mkF m 400 #[.val (.int p0), .val (.int p1), .val (.int p2), .val (.int p3), .val (.int md), .val (.int le), .val (.int mo), .val (.int va), .val (.int vb), .val (.int vd), .val (.ref cc), .val (.ref dd), .val (.ref ee), .val (.int (1 : Int32)), .val (.int (0 : Int32)), .val (.int (0 : Int32))] [(.int (1 : Int32))])) _
          refine XS.ifNo X122.here hx rfl (hb hby at_400) rfl ((if0 _ _).trans (feq (by decide)).1) ?_
          show Steps p.tables e below (T122.setTop (mkF m 403 #[.val (.int p0), .val (.int p1), .val (.int p2), .val (.int p3), .val (.int md), .val (.int le), .val (.int mo), .val (.int va), .val (.int vb), .val (.int vd), .val (.ref cc), .val (.ref dd), .val (.ref ee), .val (.int (1 : Int32)), .val (.int (0 : Int32)), .val (.int (0 : Int32))] [])) _
          refine XS.aload X122.here hx rfl (hb hby at_403) rfl rfl ?_
          show Steps p.tables e below (T122.setTop (mkF m 405 #[.val (.int p0), .val (.int p1), .val (.int p2), .val (.int p3), .val (.int md), .val (.int le), .val (.int mo), .val (.int va), .val (.int vb), .val (.int vd), .val (.ref cc), .val (.ref dd), .val (.ref ee), .val (.int (1 : Int32)), .val (.int (0 : Int32)), .val (.int (0 : Int32))] [(.ref ee)])) _
          exact κ)
        obtain ⟨cq133, kq133, q133a, q133b, q133c⟩ := isOf hZ rfl u3
        obtain ⟨_, _, ⟨T133, L133, k133, n133⟩, -, X133, ⟨Lc133, hQ133, l133, y133, z133⟩, st133⟩ := X122.virtualBack hx (y := (⟨"com/example/fettle/fettle/regex/Counts", "isEmpty", "()Z"⟩ : MethodName)) (z := (⟨"com/example/fettle/fettle/regex/Counts", "isEmpty", "()Z"⟩ : MethodName)) hown (mvT hZ (hw _ (List.mem_of_getElem? (i := 23) rfl))) (mvT hZ (hw _ (List.mem_of_getElem? (i := 24) rfl))) (notFace_of_selects (args := #[]) (mvT hZ (hw _ (List.mem_of_getElem? (i := 26) rfl)))) (mvT hZ (hw _ (List.mem_of_getElem? (i := 26) rfl))) (mvT hZ (hw _ (List.mem_of_getElem? (i := 25) rfl))) (by decide) (backOf (W := 0) (rm4 l Z a0 hw [] ee 1 0 T122.heap n0 Z122 u5 u4) hZ (hw _ (List.mem_of_getElem? (i := 27) rfl)) (hw _ (List.mem_of_getElem? (i := 7) rfl)) (by decide) (by decide)) q133a q133c (g := (mkF m 405 #[.val (.int p0), .val (.int p1), .val (.int p2), .val (.int p3), .val (.int md), .val (.int le), .val (.int mo), .val (.int va), .val (.int vb), .val (.int vd), .val (.ref cc), .val (.ref dd), .val (.ref ee), .val (.int (1 : Int32)), .val (.int (0 : Int32)), .val (.int (0 : Int32))] [(.ref ee)])) rfl (by rw [hml]; rfl) (Steps.refl _) (argsL := []) (rest := []) (lenOf pd_6 rfl) rfl (by show 2 * 0 + _ ≤ _; exact Nat.le_of_eq rfl) (hb hby at_405) (fun _ _ => ⟨rfl, rfl, (by decide : 9 + 0 ≤ _), (by decide : 48 + 0 ≤ _)⟩)
        dsimp only [Pt.U, Pt.locs, Pt.cells, Pt.slots] at X133 l133 y133 z133 st133 hQ133
        subst l133 y133 z133
        obtain ⟨rfl, Nq133, hh133⟩ := hQ133
        have E_cc_133 : Exa Z T133.heap cc "com/example/fettle/fettle/regex/Counts" := by rw [hh133]; exact E_cc_122
        have F_oldest_cc_133 : Fld Z T133.heap cc "com/example/fettle/fettle/regex/Counts" "oldest" "[I" (.ref odd) := by rw [hh133]; exact F_oldest_cc_122
        have F_newest_cc_133 : Fld Z T133.heap cc "com/example/fettle/fettle/regex/Counts" "newest" "[I" (.ref xdd) := by rw [hh133]; exact F_newest_cc_122
        have F_first_cc_133 : Fld Z T133.heap cc "com/example/fettle/fettle/regex/Counts" "first" "I" (.int 0) := by rw [hh133]; exact F_first_cc_122
        have F_runs_cc_133 : Fld Z T133.heap cc "com/example/fettle/fettle/regex/Counts" "runs" "I" (.int 0) := by rw [hh133]; exact F_runs_cc_122
        have F_clock_cc_133 : Fld Z T133.heap cc "com/example/fettle/fettle/regex/Counts" "clock" "I" (.int 0) := by rw [hh133]; exact F_clock_cc_122
        have F_starting_cc_133 : Fld Z T133.heap cc "com/example/fettle/fettle/regex/Counts" "starting" "Z" (.int 0) := by rw [hh133]; exact F_starting_cc_122
        have F_least_cc_133 : Fld Z T133.heap cc "com/example/fettle/fettle/regex/Counts" "least" "I" (.int le) := by rw [hh133]; exact F_least_cc_122
        have F_most_cc_133 : Fld Z T133.heap cc "com/example/fettle/fettle/regex/Counts" "most" "I" (.int mo) := by rw [hh133]; exact F_most_cc_122
        have V_o_cc_133 : Arv Z T133.heap odd kodd .int (4 : Int32) [(.int (0 : Int32)), (.int (0 : Int32)), (.int (0 : Int32)), (.int (0 : Int32))] (.int (0 : Int32)) := by rw [hh133]; exact V_o_cc_122
        have V_w_cc_133 : Arv Z T133.heap xdd kxdd .int (4 : Int32) [(.int (0 : Int32)), (.int (0 : Int32)), (.int (0 : Int32)), (.int (0 : Int32))] (.int (0 : Int32)) := by rw [hh133]; exact V_w_cc_122
        have u0_133 : Exa Z T133.heap dd "com/example/fettle/fettle/regex/Counts" := by rw [hh133]; exact u0
        have u1_133 : Fld Z T133.heap dd "com/example/fettle/fettle/regex/Counts" "runs" "I" (.int 0) := by rw [hh133]; exact u1
        have u2_133 : Fld Z T133.heap dd "com/example/fettle/fettle/regex/Counts" "starting" "Z" (.int 0) := by rw [hh133]; exact u2
        have u3_133 : Exa Z T133.heap ee "com/example/fettle/fettle/regex/Counts" := by rw [hh133]; exact u3
        have u4_133 : Fld Z T133.heap ee "com/example/fettle/fettle/regex/Counts" "starting" "Z" (.int 0) := by rw [hh133]; exact u4
        have u5_133 : Fld Z T133.heap ee "com/example/fettle/fettle/regex/Counts" "runs" "I" (.int 1) := by rw [hh133]; exact u5
        have Z133 : n0 ≤ T133.heap.size := by rw [hh133]; exact Z122
        have N133 := Fr.app N122 Nq133
        have pre134 := fun τ (κ : Steps p.tables e below (T133.setTop (mkF m 408 #[.val (.int p0), .val (.int p1), .val (.int p2), .val (.int p3), .val (.int md), .val (.int le), .val (.int mo), .val (.int va), .val (.int vb), .val (.int vd), .val (.ref cc), .val (.ref dd), .val (.ref ee), .val (.int (1 : Int32)), .val (.int (0 : Int32)), .val (.int (0 : Int32))] [(.int (own_emp 1 0))])) τ) => pre132 τ (st133.trans κ)
        have pre135 := fun τ (κ : Steps p.tables e below (T133.setTop (mkF m 415 #[.val (.int p0), .val (.int p1), .val (.int p2), .val (.int p3), .val (.int md), .val (.int le), .val (.int mo), .val (.int va), .val (.int vb), .val (.int vd), .val (.ref cc), .val (.ref dd), .val (.ref ee), .val (.int (1 : Int32)), .val (.int (0 : Int32)), .val (.int (0 : Int32))] [(.ref dd)])) τ) => pre134 τ (by
          refine XS.iload X133.here hx rfl (hb hby at_408) rfl ?_
          show Steps p.tables e below (T133.setTop (mkF m 410 #[.val (.int p0), .val (.int p1), .val (.int p2), .val (.int p3), .val (.int md), .val (.int le), .val (.int mo), .val (.int va), .val (.int vb), .val (.int vd), .val (.ref cc), .val (.ref dd), .val (.ref ee), .val (.int (1 : Int32)), .val (.int (0 : Int32)), .val (.int (0 : Int32))] [(.int (0 : Int32)), (.int (own_emp 1 0))])) _
          refine XS.icmpNo X133.here hx rfl (hb hby at_410) rfl (teq own_empR).2 ?_
          show Steps p.tables e below (T133.setTop (mkF m 413 #[.val (.int p0), .val (.int p1), .val (.int p2), .val (.int p3), .val (.int md), .val (.int le), .val (.int mo), .val (.int va), .val (.int vb), .val (.int vd), .val (.ref cc), .val (.ref dd), .val (.ref ee), .val (.int (1 : Int32)), .val (.int (0 : Int32)), .val (.int (0 : Int32))] [])) _
          refine XS.aload X133.here hx rfl (hb hby at_413) rfl rfl ?_
          show Steps p.tables e below (T133.setTop (mkF m 415 #[.val (.int p0), .val (.int p1), .val (.int p2), .val (.int p3), .val (.int md), .val (.int le), .val (.int mo), .val (.int va), .val (.int vb), .val (.int vd), .val (.ref cc), .val (.ref dd), .val (.ref ee), .val (.int (1 : Int32)), .val (.int (0 : Int32)), .val (.int (0 : Int32))] [(.ref dd)])) _
          exact κ)
        obtain ⟨cq136, kq136, q136a, q136b, q136c⟩ := isOf hZ rfl u0_133
        obtain ⟨_, _, ⟨T136, L136, k136, n136⟩, -, X136, ⟨Lc136, hQ136, l136, y136, z136⟩, st136⟩ := X133.virtualBack hx (y := (⟨"com/example/fettle/fettle/regex/Counts", "isEmpty", "()Z"⟩ : MethodName)) (z := (⟨"com/example/fettle/fettle/regex/Counts", "isEmpty", "()Z"⟩ : MethodName)) hown (mvT hZ (hw _ (List.mem_of_getElem? (i := 23) rfl))) (mvT hZ (hw _ (List.mem_of_getElem? (i := 24) rfl))) (notFace_of_selects (args := #[]) (mvT hZ (hw _ (List.mem_of_getElem? (i := 26) rfl)))) (mvT hZ (hw _ (List.mem_of_getElem? (i := 26) rfl))) (mvT hZ (hw _ (List.mem_of_getElem? (i := 25) rfl))) (by decide) (backOf (W := 0) (rm4 l Z a0 hw [] dd 0 0 T133.heap n0 Z133 u1_133 u2_133) hZ (hw _ (List.mem_of_getElem? (i := 27) rfl)) (hw _ (List.mem_of_getElem? (i := 7) rfl)) (by decide) (by decide)) q136a q136c (g := (mkF m 415 #[.val (.int p0), .val (.int p1), .val (.int p2), .val (.int p3), .val (.int md), .val (.int le), .val (.int mo), .val (.int va), .val (.int vb), .val (.int vd), .val (.ref cc), .val (.ref dd), .val (.ref ee), .val (.int (1 : Int32)), .val (.int (0 : Int32)), .val (.int (0 : Int32))] [(.ref dd)])) rfl (by rw [hml]; rfl) (Steps.refl _) (argsL := []) (rest := []) (lenOf pd_6 rfl) rfl (by show 2 * 0 + _ ≤ _; exact Nat.le_of_eq rfl) (hb hby at_415) (fun _ _ => ⟨rfl, rfl, (by decide : 9 + 0 ≤ _), (by decide : 48 + 0 ≤ _)⟩)
        dsimp only [Pt.U, Pt.locs, Pt.cells, Pt.slots] at X136 l136 y136 z136 st136 hQ136
        subst l136 y136 z136
        obtain ⟨rfl, Nq136, hh136⟩ := hQ136
        have E_cc_136 : Exa Z T136.heap cc "com/example/fettle/fettle/regex/Counts" := by rw [hh136]; exact E_cc_133
        have F_oldest_cc_136 : Fld Z T136.heap cc "com/example/fettle/fettle/regex/Counts" "oldest" "[I" (.ref odd) := by rw [hh136]; exact F_oldest_cc_133
        have F_newest_cc_136 : Fld Z T136.heap cc "com/example/fettle/fettle/regex/Counts" "newest" "[I" (.ref xdd) := by rw [hh136]; exact F_newest_cc_133
        have F_first_cc_136 : Fld Z T136.heap cc "com/example/fettle/fettle/regex/Counts" "first" "I" (.int 0) := by rw [hh136]; exact F_first_cc_133
        have F_runs_cc_136 : Fld Z T136.heap cc "com/example/fettle/fettle/regex/Counts" "runs" "I" (.int 0) := by rw [hh136]; exact F_runs_cc_133
        have F_clock_cc_136 : Fld Z T136.heap cc "com/example/fettle/fettle/regex/Counts" "clock" "I" (.int 0) := by rw [hh136]; exact F_clock_cc_133
        have F_starting_cc_136 : Fld Z T136.heap cc "com/example/fettle/fettle/regex/Counts" "starting" "Z" (.int 0) := by rw [hh136]; exact F_starting_cc_133
        have F_least_cc_136 : Fld Z T136.heap cc "com/example/fettle/fettle/regex/Counts" "least" "I" (.int le) := by rw [hh136]; exact F_least_cc_133
        have F_most_cc_136 : Fld Z T136.heap cc "com/example/fettle/fettle/regex/Counts" "most" "I" (.int mo) := by rw [hh136]; exact F_most_cc_133
        have V_o_cc_136 : Arv Z T136.heap odd kodd .int (4 : Int32) [(.int (0 : Int32)), (.int (0 : Int32)), (.int (0 : Int32)), (.int (0 : Int32))] (.int (0 : Int32)) := by rw [hh136]; exact V_o_cc_133
        have V_w_cc_136 : Arv Z T136.heap xdd kxdd .int (4 : Int32) [(.int (0 : Int32)), (.int (0 : Int32)), (.int (0 : Int32)), (.int (0 : Int32))] (.int (0 : Int32)) := by rw [hh136]; exact V_w_cc_133
        have u0_136 : Exa Z T136.heap dd "com/example/fettle/fettle/regex/Counts" := by rw [hh136]; exact u0_133
        have u1_136 : Fld Z T136.heap dd "com/example/fettle/fettle/regex/Counts" "runs" "I" (.int 0) := by rw [hh136]; exact u1_133
        have u2_136 : Fld Z T136.heap dd "com/example/fettle/fettle/regex/Counts" "starting" "Z" (.int 0) := by rw [hh136]; exact u2_133
        have u3_136 : Exa Z T136.heap ee "com/example/fettle/fettle/regex/Counts" := by rw [hh136]; exact u3_133
        have u4_136 : Fld Z T136.heap ee "com/example/fettle/fettle/regex/Counts" "starting" "Z" (.int 0) := by rw [hh136]; exact u4_133
        have u5_136 : Fld Z T136.heap ee "com/example/fettle/fettle/regex/Counts" "runs" "I" (.int 1) := by rw [hh136]; exact u5_133
        have Z136 : n0 ≤ T136.heap.size := by rw [hh136]; exact Z133
        have N136 := Fr.app N133 Nq136
        have pre137 := fun τ (κ : Steps p.tables e below (T136.setTop (mkF m 418 #[.val (.int p0), .val (.int p1), .val (.int p2), .val (.int p3), .val (.int md), .val (.int le), .val (.int mo), .val (.int va), .val (.int vb), .val (.int vd), .val (.ref cc), .val (.ref dd), .val (.ref ee), .val (.int (1 : Int32)), .val (.int (0 : Int32)), .val (.int (0 : Int32))] [(.int (own_emp 0 0))])) τ) => pre135 τ (st136.trans κ)
        have pre138 := fun τ (κ : Steps p.tables e below (T136.setTop (mkF m 430 #[.val (.int p0), .val (.int p1), .val (.int p2), .val (.int p3), .val (.int md), .val (.int le), .val (.int mo), .val (.int va), .val (.int vb), .val (.int vd), .val (.ref cc), .val (.ref dd), .val (.ref ee), .val (.int (1 : Int32)), .val (.int (0 : Int32)), .val (.int (0 : Int32))] [(.int (1 : Int32))])) τ) => pre137 τ (by
          refine XS.ifNo X136.here hx rfl (hb hby at_418) rfl ((if0 _ _).trans (feq (by decide)).1) ?_
          show Steps p.tables e below (T136.setTop (mkF m 421 #[.val (.int p0), .val (.int p1), .val (.int p2), .val (.int p3), .val (.int md), .val (.int le), .val (.int mo), .val (.int va), .val (.int vb), .val (.int vd), .val (.ref cc), .val (.ref dd), .val (.ref ee), .val (.int (1 : Int32)), .val (.int (0 : Int32)), .val (.int (0 : Int32))] [])) _
          refine XS.iconst X136.here hx rfl (hb hby at_421) ?_
          show Steps p.tables e below (T136.setTop (mkF m 422 #[.val (.int p0), .val (.int p1), .val (.int p2), .val (.int p3), .val (.int md), .val (.int le), .val (.int mo), .val (.int va), .val (.int vb), .val (.int vd), .val (.ref cc), .val (.ref dd), .val (.ref ee), .val (.int (1 : Int32)), .val (.int (0 : Int32)), .val (.int (0 : Int32))] [(.int (1 : Int32))])) _
          refine XS.goto X136.here hx rfl (pc0 := 422) (pc' := 426) rfl (hb hby at_422) (by decide) (by decide) ?_
          show Steps p.tables e below (T136.setTop (mkF m 426 #[.val (.int p0), .val (.int p1), .val (.int p2), .val (.int p3), .val (.int md), .val (.int le), .val (.int mo), .val (.int va), .val (.int vb), .val (.int vd), .val (.ref cc), .val (.ref dd), .val (.ref ee), .val (.int (1 : Int32)), .val (.int (0 : Int32)), .val (.int (0 : Int32))] [(.int (1 : Int32))])) _
          refine XS.istore X136.here hx rfl (hb hby at_426) rfl (l' := #[.val (.int p0), .val (.int p1), .val (.int p2), .val (.int p3), .val (.int md), .val (.int le), .val (.int mo), .val (.int va), .val (.int vb), .val (.int vd), .val (.ref cc), .val (.ref dd), .val (.ref ee), .val (.int (1 : Int32)), .val (.int (0 : Int32)), .val (.int (0 : Int32))]) rfl ?_
          show Steps p.tables e below (T136.setTop (mkF m 428 #[.val (.int p0), .val (.int p1), .val (.int p2), .val (.int p3), .val (.int md), .val (.int le), .val (.int mo), .val (.int va), .val (.int vb), .val (.int vd), .val (.ref cc), .val (.ref dd), .val (.ref ee), .val (.int (1 : Int32)), .val (.int (0 : Int32)), .val (.int (0 : Int32))] [])) _
          refine XS.iload X136.here hx rfl (hb hby at_428) rfl ?_
          show Steps p.tables e below (T136.setTop (mkF m 430 #[.val (.int p0), .val (.int p1), .val (.int p2), .val (.int p3), .val (.int md), .val (.int le), .val (.int mo), .val (.int va), .val (.int vb), .val (.int vd), .val (.ref cc), .val (.ref dd), .val (.ref ee), .val (.int (1 : Int32)), .val (.int (0 : Int32)), .val (.int (0 : Int32))] [(.int (1 : Int32))])) _
          exact κ)
        obtain ⟨fs, hr, hrun, hended, hW, hsame⟩ := X136.leave (v := some (.int (1 : Int32))) (fun h => by rw [Bd.returns] at h; cases h)
        refine ⟨_, _, pre138 _ ?_, hrun, hended, _, _, rfl, ?_, ⟨_, rfl⟩, hW, hsame.mono (by decide) (by decide)⟩
        · exact retN X136 hx (t := .boolean) Bd.returns (by simp) (hb hby at_430) hr
        · show Q0 Z p0 p1 p2 p3 h0 n0 _ T136.heap _
          exact ⟨rfl, N136⟩
    · have hs0 := (hsd.resolve_left fun z => qv z.1).2
      have Fx_starting_dd : Fld Z T115.heap dd "com/example/fettle/fettle/regex/Counts" "starting" "Z" (.int 1) := by have q := F_starting_dd_115; rw [hs0] at q; exact q
      have pre139 := fun τ (κ : Steps p.tables e below (T115.setTop (mkF m 338 #[.val (.int p0), .val (.int p1), .val (.int p2), .val (.int p3), .val (.int md), .val (.int le), .val (.int mo), .val (.int va), .val (.int vb), .val (.int vd), .val (.ref cc), .val (.ref dd), .val (.ref ee), .val (.int (1 : Int32)), .val (.int (0 : Int32)), .unset] [(.ref dd)])) τ) => pre117 τ (by
        refine XS.ifYes X115.here hx rfl (pc0 := 315) (pc' := 328) rfl (hb hby at_315) rfl ((if0 _ _).trans (feq qv).2) (by decide) (by decide) ?_
        show Steps p.tables e below (T115.setTop (mkF m 328 #[.val (.int p0), .val (.int p1), .val (.int p2), .val (.int p3), .val (.int md), .val (.int le), .val (.int mo), .val (.int va), .val (.int vb), .val (.int vd), .val (.ref cc), .val (.ref dd), .val (.ref ee), .val (.int (1 : Int32)), .unset, .unset] [])) _
        refine XS.iconst X115.here hx rfl (hb hby at_328) ?_
        show Steps p.tables e below (T115.setTop (mkF m 329 #[.val (.int p0), .val (.int p1), .val (.int p2), .val (.int p3), .val (.int md), .val (.int le), .val (.int mo), .val (.int va), .val (.int vb), .val (.int vd), .val (.ref cc), .val (.ref dd), .val (.ref ee), .val (.int (1 : Int32)), .unset, .unset] [(.int (0 : Int32))])) _
        refine XS.istore X115.here hx rfl (hb hby at_329) rfl (l' := #[.val (.int p0), .val (.int p1), .val (.int p2), .val (.int p3), .val (.int md), .val (.int le), .val (.int mo), .val (.int va), .val (.int vb), .val (.int vd), .val (.ref cc), .val (.ref dd), .val (.ref ee), .val (.int (1 : Int32)), .val (.int (0 : Int32)), .unset]) rfl ?_
        show Steps p.tables e below (T115.setTop (mkF m 331 #[.val (.int p0), .val (.int p1), .val (.int p2), .val (.int p3), .val (.int md), .val (.int le), .val (.int mo), .val (.int va), .val (.int vb), .val (.int vd), .val (.ref cc), .val (.ref dd), .val (.ref ee), .val (.int (1 : Int32)), .val (.int (0 : Int32)), .unset] [])) _
        refine XS.iload X115.here hx rfl (hb hby at_331) rfl ?_
        show Steps p.tables e below (T115.setTop (mkF m 333 #[.val (.int p0), .val (.int p1), .val (.int p2), .val (.int p3), .val (.int md), .val (.int le), .val (.int mo), .val (.int va), .val (.int vb), .val (.int vd), .val (.ref cc), .val (.ref dd), .val (.ref ee), .val (.int (1 : Int32)), .val (.int (0 : Int32)), .unset] [(.int (1 : Int32))])) _
        refine XS.ifNo X115.here hx rfl (hb hby at_333) rfl ((if0 _ _).trans (feq (by decide)).1) ?_
        show Steps p.tables e below (T115.setTop (mkF m 336 #[.val (.int p0), .val (.int p1), .val (.int p2), .val (.int p3), .val (.int md), .val (.int le), .val (.int mo), .val (.int va), .val (.int vb), .val (.int vd), .val (.ref cc), .val (.ref dd), .val (.ref ee), .val (.int (1 : Int32)), .val (.int (0 : Int32)), .unset] [])) _
        refine XS.aload X115.here hx rfl (hb hby at_336) rfl rfl ?_
        show Steps p.tables e below (T115.setTop (mkF m 338 #[.val (.int p0), .val (.int p1), .val (.int p2), .val (.int p3), .val (.int md), .val (.int le), .val (.int mo), .val (.int va), .val (.int vb), .val (.int vd), .val (.ref cc), .val (.ref dd), .val (.ref ee), .val (.int (1 : Int32)), .val (.int (0 : Int32)), .unset] [(.ref dd)])) _
        exact κ)
      obtain ⟨cq140, kq140, q140a, q140b, q140c⟩ := isOf hZ rfl E_dd_115
      obtain ⟨_, _, ⟨T140, L140, k140, n140⟩, -, X140, ⟨Lc140, hQ140, l140, y140, z140⟩, st140⟩ := X115.virtualBack hx (y := (⟨"com/example/fettle/fettle/regex/Counts", "isEmpty", "()Z"⟩ : MethodName)) (z := (⟨"com/example/fettle/fettle/regex/Counts", "isEmpty", "()Z"⟩ : MethodName)) hown (mvT hZ (hw _ (List.mem_of_getElem? (i := 23) rfl))) (mvT hZ (hw _ (List.mem_of_getElem? (i := 24) rfl))) (notFace_of_selects (args := #[]) (mvT hZ (hw _ (List.mem_of_getElem? (i := 26) rfl)))) (mvT hZ (hw _ (List.mem_of_getElem? (i := 26) rfl))) (mvT hZ (hw _ (List.mem_of_getElem? (i := 25) rfl))) (by decide) (backOf (W := 0) (rm4 l Z a0 hw [] dd 1 1 T115.heap n0 Z115 F_runs_dd_115 Fx_starting_dd) hZ (hw _ (List.mem_of_getElem? (i := 27) rfl)) (hw _ (List.mem_of_getElem? (i := 7) rfl)) (by decide) (by decide)) q140a q140c (g := (mkF m 338 #[.val (.int p0), .val (.int p1), .val (.int p2), .val (.int p3), .val (.int md), .val (.int le), .val (.int mo), .val (.int va), .val (.int vb), .val (.int vd), .val (.ref cc), .val (.ref dd), .val (.ref ee), .val (.int (1 : Int32)), .val (.int (0 : Int32)), .unset] [(.ref dd)])) rfl (by rw [hml]; rfl) (Steps.refl _) (argsL := []) (rest := []) (lenOf pd_6 rfl) rfl (by show 2 * 0 + _ ≤ _; exact Nat.le_of_eq rfl) (hb hby at_338) (fun _ _ => ⟨rfl, rfl, (by decide : 9 + 0 ≤ _), (by decide : 48 + 0 ≤ _)⟩)
      dsimp only [Pt.U, Pt.locs, Pt.cells, Pt.slots] at X140 l140 y140 z140 st140 hQ140
      subst l140 y140 z140
      obtain ⟨rfl, Nq140, hh140⟩ := hQ140
      have E_ee_140 : Exa Z T140.heap ee "com/example/fettle/fettle/regex/Counts" := by rw [hh140]; exact E_ee_115
      have F_oldest_ee_140 : Fld Z T140.heap ee "com/example/fettle/fettle/regex/Counts" "oldest" "[I" (.ref oee) := by rw [hh140]; exact F_oldest_ee_115
      have F_newest_ee_140 : Fld Z T140.heap ee "com/example/fettle/fettle/regex/Counts" "newest" "[I" (.ref xee) := by rw [hh140]; exact F_newest_ee_115
      have F_first_ee_140 : Fld Z T140.heap ee "com/example/fettle/fettle/regex/Counts" "first" "I" (.int 0) := by rw [hh140]; exact F_first_ee_115
      have F_runs_ee_140 : Fld Z T140.heap ee "com/example/fettle/fettle/regex/Counts" "runs" "I" (.int 0) := by rw [hh140]; exact F_runs_ee_115
      have F_clock_ee_140 : Fld Z T140.heap ee "com/example/fettle/fettle/regex/Counts" "clock" "I" (.int 0) := by rw [hh140]; exact F_clock_ee_115
      have F_starting_ee_140 : Fld Z T140.heap ee "com/example/fettle/fettle/regex/Counts" "starting" "Z" (.int 0) := by rw [hh140]; exact F_starting_ee_115
      have F_least_ee_140 : Fld Z T140.heap ee "com/example/fettle/fettle/regex/Counts" "least" "I" (.int le) := by rw [hh140]; exact F_least_ee_115
      have F_most_ee_140 : Fld Z T140.heap ee "com/example/fettle/fettle/regex/Counts" "most" "I" (.int mo) := by rw [hh140]; exact F_most_ee_115
      have V_o_ee_140 : Arv Z T140.heap oee koee .int (4 : Int32) [(.int (0 : Int32)), (.int (0 : Int32)), (.int (0 : Int32)), (.int (0 : Int32))] (.int (0 : Int32)) := by rw [hh140]; exact V_o_ee_115
      have V_w_ee_140 : Arv Z T140.heap xee kxee .int (4 : Int32) [(.int (0 : Int32)), (.int (0 : Int32)), (.int (0 : Int32)), (.int (0 : Int32))] (.int (0 : Int32)) := by rw [hh140]; exact V_w_ee_115
      have E_dd_140 : Exa Z T140.heap dd "com/example/fettle/fettle/regex/Counts" := by rw [hh140]; exact E_dd_115
      have F_oldest_dd_140 : Fld Z T140.heap dd "com/example/fettle/fettle/regex/Counts" "oldest" "[I" (.ref occ) := by rw [hh140]; exact F_oldest_dd_115
      have F_newest_dd_140 : Fld Z T140.heap dd "com/example/fettle/fettle/regex/Counts" "newest" "[I" (.ref xcc) := by rw [hh140]; exact F_newest_dd_115
      have F_first_dd_140 : Fld Z T140.heap dd "com/example/fettle/fettle/regex/Counts" "first" "I" (.int 0) := by rw [hh140]; exact F_first_dd_115
      have F_runs_dd_140 : Fld Z T140.heap dd "com/example/fettle/fettle/regex/Counts" "runs" "I" (.int 1) := by rw [hh140]; exact F_runs_dd_115
      have F_clock_dd_140 : Fld Z T140.heap dd "com/example/fettle/fettle/regex/Counts" "clock" "I" (.int (0 + 1)) := by rw [hh140]; exact F_clock_dd_115
      have Fx_starting_dd_140 : Fld Z T140.heap dd "com/example/fettle/fettle/regex/Counts" "starting" "Z" (.int 1) := by rw [hh140]; exact Fx_starting_dd
      have F_least_dd_140 : Fld Z T140.heap dd "com/example/fettle/fettle/regex/Counts" "least" "I" (.int le) := by rw [hh140]; exact F_least_dd_115
      have F_most_dd_140 : Fld Z T140.heap dd "com/example/fettle/fettle/regex/Counts" "most" "I" (.int mo) := by rw [hh140]; exact F_most_dd_115
      have V_o_dd_140 : Arv Z T140.heap occ kocc .int (4 : Int32) ([(.int (0 : Int32)), (.int (0 : Int32)), (.int (0 : Int32)), (.int (0 : Int32))].set (0 : Int32).toNatClampNeg (.int 0)) (.int (0 : Int32)) := by rw [hh140]; exact V_o_dd_115
      have V_w_dd_140 : Arv Z T140.heap xcc kxcc .int (4 : Int32) ([(.int (0 : Int32)), (.int (0 : Int32)), (.int (0 : Int32)), (.int (0 : Int32))].set (0 : Int32).toNatClampNeg (.int 0)) (.int (0 : Int32)) := by rw [hh140]; exact V_w_dd_115
      have E_cc_140 : Exa Z T140.heap cc "com/example/fettle/fettle/regex/Counts" := by rw [hh140]; exact E_cc_115
      have F_oldest_cc_140 : Fld Z T140.heap cc "com/example/fettle/fettle/regex/Counts" "oldest" "[I" (.ref odd) := by rw [hh140]; exact F_oldest_cc_115
      have F_newest_cc_140 : Fld Z T140.heap cc "com/example/fettle/fettle/regex/Counts" "newest" "[I" (.ref xdd) := by rw [hh140]; exact F_newest_cc_115
      have F_first_cc_140 : Fld Z T140.heap cc "com/example/fettle/fettle/regex/Counts" "first" "I" (.int 0) := by rw [hh140]; exact F_first_cc_115
      have F_runs_cc_140 : Fld Z T140.heap cc "com/example/fettle/fettle/regex/Counts" "runs" "I" (.int 0) := by rw [hh140]; exact F_runs_cc_115
      have F_clock_cc_140 : Fld Z T140.heap cc "com/example/fettle/fettle/regex/Counts" "clock" "I" (.int 0) := by rw [hh140]; exact F_clock_cc_115
      have F_starting_cc_140 : Fld Z T140.heap cc "com/example/fettle/fettle/regex/Counts" "starting" "Z" (.int 0) := by rw [hh140]; exact F_starting_cc_115
      have F_least_cc_140 : Fld Z T140.heap cc "com/example/fettle/fettle/regex/Counts" "least" "I" (.int le) := by rw [hh140]; exact F_least_cc_115
      have F_most_cc_140 : Fld Z T140.heap cc "com/example/fettle/fettle/regex/Counts" "most" "I" (.int mo) := by rw [hh140]; exact F_most_cc_115
      have V_o_cc_140 : Arv Z T140.heap odd kodd .int (4 : Int32) [(.int (0 : Int32)), (.int (0 : Int32)), (.int (0 : Int32)), (.int (0 : Int32))] (.int (0 : Int32)) := by rw [hh140]; exact V_o_cc_115
      have V_w_cc_140 : Arv Z T140.heap xdd kxdd .int (4 : Int32) [(.int (0 : Int32)), (.int (0 : Int32)), (.int (0 : Int32)), (.int (0 : Int32))] (.int (0 : Int32)) := by rw [hh140]; exact V_w_cc_115
      have Z140 : n0 ≤ T140.heap.size := by rw [hh140]; exact Z115
      have N140 := Fr.app N115 Nq140
      have pre141 := fun τ (κ : Steps p.tables e below (T140.setTop (mkF m 341 #[.val (.int p0), .val (.int p1), .val (.int p2), .val (.int p3), .val (.int md), .val (.int le), .val (.int mo), .val (.int va), .val (.int vb), .val (.int vd), .val (.ref cc), .val (.ref dd), .val (.ref ee), .val (.int (1 : Int32)), .val (.int (0 : Int32)), .unset] [(.int (own_emp 1 1))])) τ) => pre139 τ (st140.trans κ)
      have pre142 := fun τ (κ : Steps p.tables e below (T140.setTop (mkF m 362 #[.val (.int p0), .val (.int p1), .val (.int p2), .val (.int p3), .val (.int md), .val (.int le), .val (.int mo), .val (.int va), .val (.int vb), .val (.int vd), .val (.ref cc), .val (.ref dd), .val (.ref ee), .val (.int (1 : Int32)), .val (.int (0 : Int32)), .unset] [(.ref ee), (.ref dd)])) τ) => pre141 τ (by
        refine XS.iload X140.here hx rfl (hb hby at_341) rfl ?_
        show Steps p.tables e below (T140.setTop (mkF m 343 #[.val (.int p0), .val (.int p1), .val (.int p2), .val (.int p3), .val (.int md), .val (.int le), .val (.int mo), .val (.int va), .val (.int vb), .val (.int vd), .val (.ref cc), .val (.ref dd), .val (.ref ee), .val (.int (1 : Int32)), .val (.int (0 : Int32)), .unset] [(.int (0 : Int32)), (.int (own_emp 1 1))])) _
        refine XS.icmpNo X140.here hx rfl (hb hby at_343) rfl (teq own_empS).2 ?_
        show Steps p.tables e below (T140.setTop (mkF m 346 #[.val (.int p0), .val (.int p1), .val (.int p2), .val (.int p3), .val (.int md), .val (.int le), .val (.int mo), .val (.int va), .val (.int vb), .val (.int vd), .val (.ref cc), .val (.ref dd), .val (.ref ee), .val (.int (1 : Int32)), .val (.int (0 : Int32)), .unset] [])) _
        refine XS.iconst X140.here hx rfl (hb hby at_346) ?_
        show Steps p.tables e below (T140.setTop (mkF m 347 #[.val (.int p0), .val (.int p1), .val (.int p2), .val (.int p3), .val (.int md), .val (.int le), .val (.int mo), .val (.int va), .val (.int vb), .val (.int vd), .val (.ref cc), .val (.ref dd), .val (.ref ee), .val (.int (1 : Int32)), .val (.int (0 : Int32)), .unset] [(.int (1 : Int32))])) _
        refine XS.goto X140.here hx rfl (pc0 := 347) (pc' := 351) rfl (hb hby at_347) (by decide) (by decide) ?_
        show Steps p.tables e below (T140.setTop (mkF m 351 #[.val (.int p0), .val (.int p1), .val (.int p2), .val (.int p3), .val (.int md), .val (.int le), .val (.int mo), .val (.int va), .val (.int vb), .val (.int vd), .val (.ref cc), .val (.ref dd), .val (.ref ee), .val (.int (1 : Int32)), .val (.int (0 : Int32)), .unset] [(.int (1 : Int32))])) _
        refine XS.istore X140.here hx rfl (hb hby at_351) rfl (l' := #[.val (.int p0), .val (.int p1), .val (.int p2), .val (.int p3), .val (.int md), .val (.int le), .val (.int mo), .val (.int va), .val (.int vb), .val (.int vd), .val (.ref cc), .val (.ref dd), .val (.ref ee), .val (.int (1 : Int32)), .val (.int (0 : Int32)), .unset]) rfl ?_
        show Steps p.tables e below (T140.setTop (mkF m 353 #[.val (.int p0), .val (.int p1), .val (.int p2), .val (.int p3), .val (.int md), .val (.int le), .val (.int mo), .val (.int va), .val (.int vb), .val (.int vd), .val (.ref cc), .val (.ref dd), .val (.ref ee), .val (.int (1 : Int32)), .val (.int (0 : Int32)), .unset] [])) _
        refine XS.iload X140.here hx rfl (hb hby at_353) rfl ?_
        show Steps p.tables e below (T140.setTop (mkF m 355 #[.val (.int p0), .val (.int p1), .val (.int p2), .val (.int p3), .val (.int md), .val (.int le), .val (.int mo), .val (.int va), .val (.int vb), .val (.int vd), .val (.ref cc), .val (.ref dd), .val (.ref ee), .val (.int (1 : Int32)), .val (.int (0 : Int32)), .unset] [(.int (0 : Int32))])) _
        refine XS.ifNo X140.here hx rfl (hb hby at_355) rfl ((if0 _ _).trans (teq rfl).2) ?_
        show Steps p.tables e below (T140.setTop (mkF m 358 #[.val (.int p0), .val (.int p1), .val (.int p2), .val (.int p3), .val (.int md), .val (.int le), .val (.int mo), .val (.int va), .val (.int vb), .val (.int vd), .val (.ref cc), .val (.ref dd), .val (.ref ee), .val (.int (1 : Int32)), .val (.int (0 : Int32)), .unset] [])) _
        refine XS.aload X140.here hx rfl (hb hby at_358) rfl rfl ?_
        show Steps p.tables e below (T140.setTop (mkF m 360 #[.val (.int p0), .val (.int p1), .val (.int p2), .val (.int p3), .val (.int md), .val (.int le), .val (.int mo), .val (.int va), .val (.int vb), .val (.int vd), .val (.ref cc), .val (.ref dd), .val (.ref ee), .val (.int (1 : Int32)), .val (.int (0 : Int32)), .unset] [(.ref dd)])) _
        refine XS.aload X140.here hx rfl (hb hby at_360) rfl rfl ?_
        show Steps p.tables e below (T140.setTop (mkF m 362 #[.val (.int p0), .val (.int p1), .val (.int p2), .val (.int p3), .val (.int md), .val (.int le), .val (.int mo), .val (.int va), .val (.int vb), .val (.int vd), .val (.ref cc), .val (.ref dd), .val (.ref ee), .val (.int (1 : Int32)), .val (.int (0 : Int32)), .unset] [(.ref ee), (.ref dd)])) _
        exact κ)
      by_cases hl0 : le = 0
      · obtain ⟨cq143, kq143, q143a, q143b, q143c⟩ := isOf hZ rfl E_dd_140
        obtain ⟨_, _, ⟨T143, L143, k143, n143⟩, -, X143, ⟨Lc143, hQ143, l143, y143, z143⟩, st143⟩ := X140.virtualBack hx (y := (⟨"com/example/fettle/fettle/regex/Counts", "takeInto", "(Lcom/example/fettle/fettle/regex/Counts;)Z"⟩ : MethodName)) (z := (⟨"com/example/fettle/fettle/regex/Counts", "takeInto", "(Lcom/example/fettle/fettle/regex/Counts;)Z"⟩ : MethodName)) hown (mvT hZ (hw _ (List.mem_of_getElem? (i := 37) rfl))) (mvT hZ (hw _ (List.mem_of_getElem? (i := 38) rfl))) (notFace_of_selects (args := #[]) (mvT hZ (hw _ (List.mem_of_getElem? (i := 40) rfl)))) (mvT hZ (hw _ (List.mem_of_getElem? (i := 40) rfl))) (mvT hZ (hw _ (List.mem_of_getElem? (i := 39) rfl))) (by decide) (backOf (W := 0) (rm6a l Z a0 hw [] dd ee occ xcc kocc kxcc 0 1 (0 + 1) 1 le mo ([(.int (0 : Int32)), (.int (0 : Int32)), (.int (0 : Int32)), (.int (0 : Int32))].set (0 : Int32).toNatClampNeg (.int 0)) ([(.int (0 : Int32)), (.int (0 : Int32)), (.int (0 : Int32)), (.int (0 : Int32))].set (0 : Int32).toNatClampNeg (.int 0)) oee xee koee kxee 0 0 0 0 le mo [(.int (0 : Int32)), (.int (0 : Int32)), (.int (0 : Int32)), (.int (0 : Int32))] [(.int (0 : Int32)), (.int (0 : Int32)), (.int (0 : Int32)), (.int (0 : Int32))] T140.heap n0 Z140 ⟨E_dd_140, F_oldest_dd_140, F_newest_dd_140, F_first_dd_140, F_runs_dd_140, F_clock_dd_140, Fx_starting_dd_140, F_least_dd_140, F_most_dd_140, V_o_dd_140, V_w_dd_140⟩ ⟨E_ee_140, F_oldest_ee_140, F_newest_ee_140, F_first_ee_140, F_runs_ee_140, F_clock_ee_140, F_starting_ee_140, F_least_ee_140, F_most_ee_140, V_o_ee_140, V_w_ee_140⟩ rfl (Or.inl rfl) rfl rfl hle0 (Ne.symm ne_occ_dd) (Ne.symm ne_xcc_dd) nox31 ne_dd_ee ne_dd_oee ne_dd_xee (Ne.symm ne_occ_ee) (Ne.symm ne_xcc_ee) ne_ee_oee ne_ee_xee nox43 ne_occ_oee ne_occ_xee ne_xcc_oee ne_xcc_xee g_dd g_occ g_xcc g_ee rfl (Or.inl hl0)) hZ (hw _ (List.mem_of_getElem? (i := 41) rfl)) (hw _ (List.mem_of_getElem? (i := 7) rfl)) (by decide) (by decide)) q143a q143c (g := (mkF m 362 #[.val (.int p0), .val (.int p1), .val (.int p2), .val (.int p3), .val (.int md), .val (.int le), .val (.int mo), .val (.int va), .val (.int vb), .val (.int vd), .val (.ref cc), .val (.ref dd), .val (.ref ee), .val (.int (1 : Int32)), .val (.int (0 : Int32)), .unset] [(.ref ee), (.ref dd)])) rfl (by rw [hml]; rfl) (Steps.refl _) (argsL := [(.ref ee)]) (rest := []) (lenOf pd_7 rfl) rfl (by show 2 * 0 + _ ≤ _; exact Nat.le_of_eq rfl) (hb hby at_362) (fun _ _ => ⟨rfl, rfl, (by decide : 9 + 0 ≤ _), (by decide : 48 + 0 ≤ _)⟩)
        dsimp only [Pt.U, Pt.locs, Pt.cells, Pt.slots] at X143 l143 y143 z143 st143 hQ143
        subst l143 y143 z143
        obtain ⟨mx142, rfl, Nq143, K143, R143⟩ := hQ143
        have E_ee_143 : Exa Z T143.heap ee "com/example/fettle/fettle/regex/Counts" := E_ee_140.keep K143
        have V_o_ee_143 : Arv Z T143.heap oee koee .int (4 : Int32) [(.int (0 : Int32)), (.int (0 : Int32)), (.int (0 : Int32)), (.int (0 : Int32))] (.int (0 : Int32)) := V_o_ee_140.keep K143 (ninS (Ne.symm ne_dd_oee) (ninS (Ne.symm ne_occ_oee) (ninS (Ne.symm ne_xcc_oee) (ninS (Ne.symm ne_ee_oee) nin0))))
        have V_w_ee_143 : Arv Z T143.heap xee kxee .int (4 : Int32) [(.int (0 : Int32)), (.int (0 : Int32)), (.int (0 : Int32)), (.int (0 : Int32))] (.int (0 : Int32)) := V_w_ee_140.keep K143 (ninS (Ne.symm ne_dd_xee) (ninS (Ne.symm ne_occ_xee) (ninS (Ne.symm ne_xcc_xee) (ninS (Ne.symm ne_ee_xee) nin0))))
        have E_dd_143 : Exa Z T143.heap dd "com/example/fettle/fettle/regex/Counts" := E_dd_140.keep K143
        have E_cc_143 : Exa Z T143.heap cc "com/example/fettle/fettle/regex/Counts" := E_cc_140.keep K143
        have F_oldest_cc_143 : Fld Z T143.heap cc "com/example/fettle/fettle/regex/Counts" "oldest" "[I" (.ref odd) := F_oldest_cc_140.keep K143 (ninS ne_cc_dd (ninS ne_cc_occ (ninS ne_cc_xcc (ninS ne_cc_ee nin0))))
        have F_newest_cc_143 : Fld Z T143.heap cc "com/example/fettle/fettle/regex/Counts" "newest" "[I" (.ref xdd) := F_newest_cc_140.keep K143 (ninS ne_cc_dd (ninS ne_cc_occ (ninS ne_cc_xcc (ninS ne_cc_ee nin0))))
        have F_first_cc_143 : Fld Z T143.heap cc "com/example/fettle/fettle/regex/Counts" "first" "I" (.int 0) := F_first_cc_140.keep K143 (ninS ne_cc_dd (ninS ne_cc_occ (ninS ne_cc_xcc (ninS ne_cc_ee nin0))))
        have F_runs_cc_143 : Fld Z T143.heap cc "com/example/fettle/fettle/regex/Counts" "runs" "I" (.int 0) := F_runs_cc_140.keep K143 (ninS ne_cc_dd (ninS ne_cc_occ (ninS ne_cc_xcc (ninS ne_cc_ee nin0))))
        have F_clock_cc_143 : Fld Z T143.heap cc "com/example/fettle/fettle/regex/Counts" "clock" "I" (.int 0) := F_clock_cc_140.keep K143 (ninS ne_cc_dd (ninS ne_cc_occ (ninS ne_cc_xcc (ninS ne_cc_ee nin0))))
        have F_starting_cc_143 : Fld Z T143.heap cc "com/example/fettle/fettle/regex/Counts" "starting" "Z" (.int 0) := F_starting_cc_140.keep K143 (ninS ne_cc_dd (ninS ne_cc_occ (ninS ne_cc_xcc (ninS ne_cc_ee nin0))))
        have F_least_cc_143 : Fld Z T143.heap cc "com/example/fettle/fettle/regex/Counts" "least" "I" (.int le) := F_least_cc_140.keep K143 (ninS ne_cc_dd (ninS ne_cc_occ (ninS ne_cc_xcc (ninS ne_cc_ee nin0))))
        have F_most_cc_143 : Fld Z T143.heap cc "com/example/fettle/fettle/regex/Counts" "most" "I" (.int mo) := F_most_cc_140.keep K143 (ninS ne_cc_dd (ninS ne_cc_occ (ninS ne_cc_xcc (ninS ne_cc_ee nin0))))
        have V_o_cc_143 : Arv Z T143.heap odd kodd .int (4 : Int32) [(.int (0 : Int32)), (.int (0 : Int32)), (.int (0 : Int32)), (.int (0 : Int32))] (.int (0 : Int32)) := V_o_cc_140.keep K143 (ninS (Ne.symm ne_dd_odd) (ninS (Ne.symm ne_occ_odd) (ninS (Ne.symm ne_xcc_odd) (ninS ne_odd_ee nin0))))
        have V_w_cc_143 : Arv Z T143.heap xdd kxdd .int (4 : Int32) [(.int (0 : Int32)), (.int (0 : Int32)), (.int (0 : Int32)), (.int (0 : Int32))] (.int (0 : Int32)) := V_w_cc_140.keep K143 (ninS (Ne.symm ne_dd_xdd) (ninS (Ne.symm ne_occ_xdd) (ninS (Ne.symm ne_xcc_xdd) (ninS ne_xdd_ee nin0))))
        have Z143 : n0 ≤ T143.heap.size := Nat.le_trans Z140 K143.1
        have N143 := Fr.app N140 Nq143
        have pre144 := fun τ (κ : Steps p.tables e below (T143.setTop (mkF m 365 #[.val (.int p0), .val (.int p1), .val (.int p2), .val (.int p3), .val (.int md), .val (.int le), .val (.int mo), .val (.int va), .val (.int vb), .val (.int vd), .val (.ref cc), .val (.ref dd), .val (.ref ee), .val (.int (1 : Int32)), .val (.int (0 : Int32)), .unset] [(.int mx142)])) τ) => pre142 τ (st143.trans κ)
        obtain ⟨D143, S143⟩ := R143
        obtain ⟨-, De2⟩ := D143.resolve_left fun z => hmo z.1
        obtain ⟨u3, -, -, -, u5, -, u4, -⟩ := De2
        obtain ⟨u0, -, -, -, u1, -, u2, -⟩ := S143
        have pre145 := fun τ (κ : Steps p.tables e below (T143.setTop (mkF m 405 #[.val (.int p0), .val (.int p1), .val (.int p2), .val (.int p3), .val (.int md), .val (.int le), .val (.int mo), .val (.int va), .val (.int vb), .val (.int vd), .val (.ref cc), .val (.ref dd), .val (.ref ee), .val (.int (1 : Int32)), .val (.int (0 : Int32)), .val (.int (0 : Int32))] [(.ref ee)])) τ) => pre144 τ (by
          refine XS.pop X143.here hx rfl (hb hby at_365) rfl rfl ?_
          show Steps p.tables e below (T143.setTop (mkF m 366 #[.val (.int p0), .val (.int p1), .val (.int p2), .val (.int p3), .val (.int md), .val (.int le), .val (.int mo), .val (.int va), .val (.int vb), .val (.int vd), .val (.ref cc), .val (.ref dd), .val (.ref ee), .val (.int (1 : Int32)), .val (.int (0 : Int32)), .unset] [])) _
          refine XS.iload X143.here hx rfl (hb hby at_366) rfl ?_
          show Steps p.tables e below (T143.setTop (mkF m 368 #[.val (.int p0), .val (.int p1), .val (.int p2), .val (.int p3), .val (.int md), .val (.int le), .val (.int mo), .val (.int va), .val (.int vb), .val (.int vd), .val (.ref cc), .val (.ref dd), .val (.ref ee), .val (.int (1 : Int32)), .val (.int (0 : Int32)), .unset] [(.int vd)])) _
          refine XS.ifNo X143.here hx rfl (hb hby at_368) rfl ((if0 _ _).trans (feq qv).1) ?_
          show Steps p.tables e below (T143.setTop (mkF m 371 #[.val (.int p0), .val (.int p1), .val (.int p2), .val (.int p3), .val (.int md), .val (.int le), .val (.int mo), .val (.int va), .val (.int vb), .val (.int vd), .val (.ref cc), .val (.ref dd), .val (.ref ee), .val (.int (1 : Int32)), .val (.int (0 : Int32)), .unset] [])) _
          refine XS.iload X143.here hx rfl (hb hby at_371) rfl ?_
          show Steps p.tables e below (T143.setTop (mkF m 373 #[.val (.int p0), .val (.int p1), .val (.int p2), .val (.int p3), .val (.int md), .val (.int le), .val (.int mo), .val (.int va), .val (.int vb), .val (.int vd), .val (.ref cc), .val (.ref dd), .val (.ref ee), .val (.int (1 : Int32)), .val (.int (0 : Int32)), .unset] [(.int mo)])) _
          refine XS.iconst X143.here hx rfl (hb hby at_373) ?_
          show Steps p.tables e below (T143.setTop (mkF m 374 #[.val (.int p0), .val (.int p1), .val (.int p2), .val (.int p3), .val (.int md), .val (.int le), .val (.int mo), .val (.int va), .val (.int vb), .val (.int vd), .val (.ref cc), .val (.ref dd), .val (.ref ee), .val (.int (1 : Int32)), .val (.int (0 : Int32)), .unset] [(.int (1 : Int32)), (.int mo)])) _
          refine XS.icmpYes X143.here hx rfl (pc0 := 374) (pc' := 381) rfl (hb hby at_374) rfl (feq hmo).2 (by decide) (by decide) ?_
          show Steps p.tables e below (T143.setTop (mkF m 381 #[.val (.int p0), .val (.int p1), .val (.int p2), .val (.int p3), .val (.int md), .val (.int le), .val (.int mo), .val (.int va), .val (.int vb), .val (.int vd), .val (.ref cc), .val (.ref dd), .val (.ref ee), .val (.int (1 : Int32)), .val (.int (0 : Int32)), .unset] [])) _
          refine XS.iconst X143.here hx rfl (hb hby at_381) ?_
          show Steps p.tables e below (T143.setTop (mkF m 382 #[.val (.int p0), .val (.int p1), .val (.int p2), .val (.int p3), .val (.int md), .val (.int le), .val (.int mo), .val (.int va), .val (.int vb), .val (.int vd), .val (.ref cc), .val (.ref dd), .val (.ref ee), .val (.int (1 : Int32)), .val (.int (0 : Int32)), .unset] [(.int (0 : Int32))])) _
          refine XS.goto X143.here hx rfl (pc0 := 382) (pc' := 396) rfl (hb hby at_382) (by decide) (by decide) ?_
          show Steps p.tables e below (T143.setTop (mkF m 396 #[.val (.int p0), .val (.int p1), .val (.int p2), .val (.int p3), .val (.int md), .val (.int le), .val (.int mo), .val (.int va), .val (.int vb), .val (.int vd), .val (.ref cc), .val (.ref dd), .val (.ref ee), .val (.int (1 : Int32)), .val (.int (0 : Int32)), .unset] [(.int (0 : Int32))])) _
          refine XS.istore X143.here hx rfl (hb hby at_396) rfl (l' := #[.val (.int p0), .val (.int p1), .val (.int p2), .val (.int p3), .val (.int md), .val (.int le), .val (.int mo), .val (.int va), .val (.int vb), .val (.int vd), .val (.ref cc), .val (.ref dd), .val (.ref ee), .val (.int (1 : Int32)), .val (.int (0 : Int32)), .val (.int (0 : Int32))]) rfl ?_
          show Steps p.tables e below (T143.setTop (mkF m 398 #[.val (.int p0), .val (.int p1), .val (.int p2), .val (.int p3), .val (.int md), .val (.int le), .val (.int mo), .val (.int va), .val (.int vb), .val (.int vd), .val (.ref cc), .val (.ref dd), .val (.ref ee), .val (.int (1 : Int32)), .val (.int (0 : Int32)), .val (.int (0 : Int32))] [])) _
          refine XS.iload X143.here hx rfl (hb hby at_398) rfl ?_
          show Steps p.tables e below (T143.setTop (mkF m 400 #[.val (.int p0), .val (.int p1), .val (.int p2), .val (.int p3), .val (.int md), .val (.int le), .val (.int mo), .val (.int va), .val (.int vb), .val (.int vd), .val (.ref cc), .val (.ref dd), .val (.ref ee), .val (.int (1 : Int32)), .val (.int (0 : Int32)), .val (.int (0 : Int32))] [(.int (1 : Int32))])) _
          refine XS.ifNo X143.here hx rfl (hb hby at_400) rfl ((if0 _ _).trans (feq (by decide)).1) ?_
          show Steps p.tables e below (T143.setTop (mkF m 403 #[.val (.int p0), .val (.int p1), .val (.int p2), .val (.int p3), .val (.int md), .val (.int le), .val (.int mo), .val (.int va), .val (.int vb), .val (.int vd), .val (.ref cc), .val (.ref dd), .val (.ref ee), .val (.int (1 : Int32)), .val (.int (0 : Int32)), .val (.int (0 : Int32))] [])) _
          refine XS.aload X143.here hx rfl (hb hby at_403) rfl rfl ?_
          show Steps p.tables e below (T143.setTop (mkF m 405 #[.val (.int p0), .val (.int p1), .val (.int p2), .val (.int p3), .val (.int md), .val (.int le), .val (.int mo), .val (.int va), .val (.int vb), .val (.int vd), .val (.ref cc), .val (.ref dd), .val (.ref ee), .val (.int (1 : Int32)), .val (.int (0 : Int32)), .val (.int (0 : Int32))] [(.ref ee)])) _
          exact κ)
        obtain ⟨cq146, kq146, q146a, q146b, q146c⟩ := isOf hZ rfl u3
        obtain ⟨_, _, ⟨T146, L146, k146, n146⟩, -, X146, ⟨Lc146, hQ146, l146, y146, z146⟩, st146⟩ := X143.virtualBack hx (y := (⟨"com/example/fettle/fettle/regex/Counts", "isEmpty", "()Z"⟩ : MethodName)) (z := (⟨"com/example/fettle/fettle/regex/Counts", "isEmpty", "()Z"⟩ : MethodName)) hown (mvT hZ (hw _ (List.mem_of_getElem? (i := 23) rfl))) (mvT hZ (hw _ (List.mem_of_getElem? (i := 24) rfl))) (notFace_of_selects (args := #[]) (mvT hZ (hw _ (List.mem_of_getElem? (i := 26) rfl)))) (mvT hZ (hw _ (List.mem_of_getElem? (i := 26) rfl))) (mvT hZ (hw _ (List.mem_of_getElem? (i := 25) rfl))) (by decide) (backOf (W := 0) (rm4 l Z a0 hw [] ee 1 0 T143.heap n0 Z143 u5 u4) hZ (hw _ (List.mem_of_getElem? (i := 27) rfl)) (hw _ (List.mem_of_getElem? (i := 7) rfl)) (by decide) (by decide)) q146a q146c (g := (mkF m 405 #[.val (.int p0), .val (.int p1), .val (.int p2), .val (.int p3), .val (.int md), .val (.int le), .val (.int mo), .val (.int va), .val (.int vb), .val (.int vd), .val (.ref cc), .val (.ref dd), .val (.ref ee), .val (.int (1 : Int32)), .val (.int (0 : Int32)), .val (.int (0 : Int32))] [(.ref ee)])) rfl (by rw [hml]; rfl) (Steps.refl _) (argsL := []) (rest := []) (lenOf pd_6 rfl) rfl (by show 2 * 0 + _ ≤ _; exact Nat.le_of_eq rfl) (hb hby at_405) (fun _ _ => ⟨rfl, rfl, (by decide : 9 + 0 ≤ _), (by decide : 48 + 0 ≤ _)⟩)
        dsimp only [Pt.U, Pt.locs, Pt.cells, Pt.slots] at X146 l146 y146 z146 st146 hQ146
        subst l146 y146 z146
        obtain ⟨rfl, Nq146, hh146⟩ := hQ146
        have E_cc_146 : Exa Z T146.heap cc "com/example/fettle/fettle/regex/Counts" := by rw [hh146]; exact E_cc_143
        have F_oldest_cc_146 : Fld Z T146.heap cc "com/example/fettle/fettle/regex/Counts" "oldest" "[I" (.ref odd) := by rw [hh146]; exact F_oldest_cc_143
        have F_newest_cc_146 : Fld Z T146.heap cc "com/example/fettle/fettle/regex/Counts" "newest" "[I" (.ref xdd) := by rw [hh146]; exact F_newest_cc_143
        have F_first_cc_146 : Fld Z T146.heap cc "com/example/fettle/fettle/regex/Counts" "first" "I" (.int 0) := by rw [hh146]; exact F_first_cc_143
        have F_runs_cc_146 : Fld Z T146.heap cc "com/example/fettle/fettle/regex/Counts" "runs" "I" (.int 0) := by rw [hh146]; exact F_runs_cc_143
        have F_clock_cc_146 : Fld Z T146.heap cc "com/example/fettle/fettle/regex/Counts" "clock" "I" (.int 0) := by rw [hh146]; exact F_clock_cc_143
        have F_starting_cc_146 : Fld Z T146.heap cc "com/example/fettle/fettle/regex/Counts" "starting" "Z" (.int 0) := by rw [hh146]; exact F_starting_cc_143
        have F_least_cc_146 : Fld Z T146.heap cc "com/example/fettle/fettle/regex/Counts" "least" "I" (.int le) := by rw [hh146]; exact F_least_cc_143
        have F_most_cc_146 : Fld Z T146.heap cc "com/example/fettle/fettle/regex/Counts" "most" "I" (.int mo) := by rw [hh146]; exact F_most_cc_143
        have V_o_cc_146 : Arv Z T146.heap odd kodd .int (4 : Int32) [(.int (0 : Int32)), (.int (0 : Int32)), (.int (0 : Int32)), (.int (0 : Int32))] (.int (0 : Int32)) := by rw [hh146]; exact V_o_cc_143
        have V_w_cc_146 : Arv Z T146.heap xdd kxdd .int (4 : Int32) [(.int (0 : Int32)), (.int (0 : Int32)), (.int (0 : Int32)), (.int (0 : Int32))] (.int (0 : Int32)) := by rw [hh146]; exact V_w_cc_143
        have u0_146 : Exa Z T146.heap dd "com/example/fettle/fettle/regex/Counts" := by rw [hh146]; exact u0
        have u1_146 : Fld Z T146.heap dd "com/example/fettle/fettle/regex/Counts" "runs" "I" (.int 0) := by rw [hh146]; exact u1
        have u2_146 : Fld Z T146.heap dd "com/example/fettle/fettle/regex/Counts" "starting" "Z" (.int 0) := by rw [hh146]; exact u2
        have u3_146 : Exa Z T146.heap ee "com/example/fettle/fettle/regex/Counts" := by rw [hh146]; exact u3
        have u4_146 : Fld Z T146.heap ee "com/example/fettle/fettle/regex/Counts" "starting" "Z" (.int 0) := by rw [hh146]; exact u4
        have u5_146 : Fld Z T146.heap ee "com/example/fettle/fettle/regex/Counts" "runs" "I" (.int 1) := by rw [hh146]; exact u5
        have Z146 : n0 ≤ T146.heap.size := by rw [hh146]; exact Z143
        have N146 := Fr.app N143 Nq146
        have pre147 := fun τ (κ : Steps p.tables e below (T146.setTop (mkF m 408 #[.val (.int p0), .val (.int p1), .val (.int p2), .val (.int p3), .val (.int md), .val (.int le), .val (.int mo), .val (.int va), .val (.int vb), .val (.int vd), .val (.ref cc), .val (.ref dd), .val (.ref ee), .val (.int (1 : Int32)), .val (.int (0 : Int32)), .val (.int (0 : Int32))] [(.int (own_emp 1 0))])) τ) => pre145 τ (st146.trans κ)
        have pre148 := fun τ (κ : Steps p.tables e below (T146.setTop (mkF m 415 #[.val (.int p0), .val (.int p1), .val (.int p2), .val (.int p3), .val (.int md), .val (.int le), .val (.int mo), .val (.int va), .val (.int vb), .val (.int vd), .val (.ref cc), .val (.ref dd), .val (.ref ee), .val (.int (1 : Int32)), .val (.int (0 : Int32)), .val (.int (0 : Int32))] [(.ref dd)])) τ) => pre147 τ (by
          refine XS.iload X146.here hx rfl (hb hby at_408) rfl ?_
          show Steps p.tables e below (T146.setTop (mkF m 410 #[.val (.int p0), .val (.int p1), .val (.int p2), .val (.int p3), .val (.int md), .val (.int le), .val (.int mo), .val (.int va), .val (.int vb), .val (.int vd), .val (.ref cc), .val (.ref dd), .val (.ref ee), .val (.int (1 : Int32)), .val (.int (0 : Int32)), .val (.int (0 : Int32))] [(.int (0 : Int32)), (.int (own_emp 1 0))])) _
          refine XS.icmpNo X146.here hx rfl (hb hby at_410) rfl (teq own_empR).2 ?_
          show Steps p.tables e below (T146.setTop (mkF m 413 #[.val (.int p0), .val (.int p1), .val (.int p2), .val (.int p3), .val (.int md), .val (.int le), .val (.int mo), .val (.int va), .val (.int vb), .val (.int vd), .val (.ref cc), .val (.ref dd), .val (.ref ee), .val (.int (1 : Int32)), .val (.int (0 : Int32)), .val (.int (0 : Int32))] [])) _
          refine XS.aload X146.here hx rfl (hb hby at_413) rfl rfl ?_
          show Steps p.tables e below (T146.setTop (mkF m 415 #[.val (.int p0), .val (.int p1), .val (.int p2), .val (.int p3), .val (.int md), .val (.int le), .val (.int mo), .val (.int va), .val (.int vb), .val (.int vd), .val (.ref cc), .val (.ref dd), .val (.ref ee), .val (.int (1 : Int32)), .val (.int (0 : Int32)), .val (.int (0 : Int32))] [(.ref dd)])) _
          exact κ)
        obtain ⟨cq149, kq149, q149a, q149b, q149c⟩ := isOf hZ rfl u0_146
        obtain ⟨_, _, ⟨T149, L149, k149, n149⟩, -, X149, ⟨Lc149, hQ149, l149, y149, z149⟩, st149⟩ := X146.virtualBack hx (y := (⟨"com/example/fettle/fettle/regex/Counts", "isEmpty", "()Z"⟩ : MethodName)) (z := (⟨"com/example/fettle/fettle/regex/Counts", "isEmpty", "()Z"⟩ : MethodName)) hown (mvT hZ (hw _ (List.mem_of_getElem? (i := 23) rfl))) (mvT hZ (hw _ (List.mem_of_getElem? (i := 24) rfl))) (notFace_of_selects (args := #[]) (mvT hZ (hw _ (List.mem_of_getElem? (i := 26) rfl)))) (mvT hZ (hw _ (List.mem_of_getElem? (i := 26) rfl))) (mvT hZ (hw _ (List.mem_of_getElem? (i := 25) rfl))) (by decide) (backOf (W := 0) (rm4 l Z a0 hw [] dd 0 0 T146.heap n0 Z146 u1_146 u2_146) hZ (hw _ (List.mem_of_getElem? (i := 27) rfl)) (hw _ (List.mem_of_getElem? (i := 7) rfl)) (by decide) (by decide)) q149a q149c (g := (mkF m 415 #[.val (.int p0), .val (.int p1), .val (.int p2), .val (.int p3), .val (.int md), .val (.int le), .val (.int mo), .val (.int va), .val (.int vb), .val (.int vd), .val (.ref cc), .val (.ref dd), .val (.ref ee), .val (.int (1 : Int32)), .val (.int (0 : Int32)), .val (.int (0 : Int32))] [(.ref dd)])) rfl (by rw [hml]; rfl) (Steps.refl _) (argsL := []) (rest := []) (lenOf pd_6 rfl) rfl (by show 2 * 0 + _ ≤ _; exact Nat.le_of_eq rfl) (hb hby at_415) (fun _ _ => ⟨rfl, rfl, (by decide : 9 + 0 ≤ _), (by decide : 48 + 0 ≤ _)⟩)
        dsimp only [Pt.U, Pt.locs, Pt.cells, Pt.slots] at X149 l149 y149 z149 st149 hQ149
        subst l149 y149 z149
        obtain ⟨rfl, Nq149, hh149⟩ := hQ149
        have E_cc_149 : Exa Z T149.heap cc "com/example/fettle/fettle/regex/Counts" := by rw [hh149]; exact E_cc_146
        have F_oldest_cc_149 : Fld Z T149.heap cc "com/example/fettle/fettle/regex/Counts" "oldest" "[I" (.ref odd) := by rw [hh149]; exact F_oldest_cc_146
        have F_newest_cc_149 : Fld Z T149.heap cc "com/example/fettle/fettle/regex/Counts" "newest" "[I" (.ref xdd) := by rw [hh149]; exact F_newest_cc_146
        have F_first_cc_149 : Fld Z T149.heap cc "com/example/fettle/fettle/regex/Counts" "first" "I" (.int 0) := by rw [hh149]; exact F_first_cc_146
        have F_runs_cc_149 : Fld Z T149.heap cc "com/example/fettle/fettle/regex/Counts" "runs" "I" (.int 0) := by rw [hh149]; exact F_runs_cc_146
        have F_clock_cc_149 : Fld Z T149.heap cc "com/example/fettle/fettle/regex/Counts" "clock" "I" (.int 0) := by rw [hh149]; exact F_clock_cc_146
        have F_starting_cc_149 : Fld Z T149.heap cc "com/example/fettle/fettle/regex/Counts" "starting" "Z" (.int 0) := by rw [hh149]; exact F_starting_cc_146
        have F_least_cc_149 : Fld Z T149.heap cc "com/example/fettle/fettle/regex/Counts" "least" "I" (.int le) := by rw [hh149]; exact F_least_cc_146
        have F_most_cc_149 : Fld Z T149.heap cc "com/example/fettle/fettle/regex/Counts" "most" "I" (.int mo) := by rw [hh149]; exact F_most_cc_146
        have V_o_cc_149 : Arv Z T149.heap odd kodd .int (4 : Int32) [(.int (0 : Int32)), (.int (0 : Int32)), (.int (0 : Int32)), (.int (0 : Int32))] (.int (0 : Int32)) := by rw [hh149]; exact V_o_cc_146
        have V_w_cc_149 : Arv Z T149.heap xdd kxdd .int (4 : Int32) [(.int (0 : Int32)), (.int (0 : Int32)), (.int (0 : Int32)), (.int (0 : Int32))] (.int (0 : Int32)) := by rw [hh149]; exact V_w_cc_146
        have u0_149 : Exa Z T149.heap dd "com/example/fettle/fettle/regex/Counts" := by rw [hh149]; exact u0_146
        have u1_149 : Fld Z T149.heap dd "com/example/fettle/fettle/regex/Counts" "runs" "I" (.int 0) := by rw [hh149]; exact u1_146
        have u2_149 : Fld Z T149.heap dd "com/example/fettle/fettle/regex/Counts" "starting" "Z" (.int 0) := by rw [hh149]; exact u2_146
        have u3_149 : Exa Z T149.heap ee "com/example/fettle/fettle/regex/Counts" := by rw [hh149]; exact u3_146
        have u4_149 : Fld Z T149.heap ee "com/example/fettle/fettle/regex/Counts" "starting" "Z" (.int 0) := by rw [hh149]; exact u4_146
        have u5_149 : Fld Z T149.heap ee "com/example/fettle/fettle/regex/Counts" "runs" "I" (.int 1) := by rw [hh149]; exact u5_146
        have Z149 : n0 ≤ T149.heap.size := by rw [hh149]; exact Z146
        have N149 := Fr.app N146 Nq149
        have pre150 := fun τ (κ : Steps p.tables e below (T149.setTop (mkF m 418 #[.val (.int p0), .val (.int p1), .val (.int p2), .val (.int p3), .val (.int md), .val (.int le), .val (.int mo), .val (.int va), .val (.int vb), .val (.int vd), .val (.ref cc), .val (.ref dd), .val (.ref ee), .val (.int (1 : Int32)), .val (.int (0 : Int32)), .val (.int (0 : Int32))] [(.int (own_emp 0 0))])) τ) => pre148 τ (st149.trans κ)
        have pre151 := fun τ (κ : Steps p.tables e below (T149.setTop (mkF m 430 #[.val (.int p0), .val (.int p1), .val (.int p2), .val (.int p3), .val (.int md), .val (.int le), .val (.int mo), .val (.int va), .val (.int vb), .val (.int vd), .val (.ref cc), .val (.ref dd), .val (.ref ee), .val (.int (1 : Int32)), .val (.int (0 : Int32)), .val (.int (0 : Int32))] [(.int (1 : Int32))])) τ) => pre150 τ (by
          refine XS.ifNo X149.here hx rfl (hb hby at_418) rfl ((if0 _ _).trans (feq (by decide)).1) ?_
          show Steps p.tables e below (T149.setTop (mkF m 421 #[.val (.int p0), .val (.int p1), .val (.int p2), .val (.int p3), .val (.int md), .val (.int le), .val (.int mo), .val (.int va), .val (.int vb), .val (.int vd), .val (.ref cc), .val (.ref dd), .val (.ref ee), .val (.int (1 : Int32)), .val (.int (0 : Int32)), .val (.int (0 : Int32))] [])) _
          refine XS.iconst X149.here hx rfl (hb hby at_421) ?_
          show Steps p.tables e below (T149.setTop (mkF m 422 #[.val (.int p0), .val (.int p1), .val (.int p2), .val (.int p3), .val (.int md), .val (.int le), .val (.int mo), .val (.int va), .val (.int vb), .val (.int vd), .val (.ref cc), .val (.ref dd), .val (.ref ee), .val (.int (1 : Int32)), .val (.int (0 : Int32)), .val (.int (0 : Int32))] [(.int (1 : Int32))])) _
          refine XS.goto X149.here hx rfl (pc0 := 422) (pc' := 426) rfl (hb hby at_422) (by decide) (by decide) ?_
          show Steps p.tables e below (T149.setTop (mkF m 426 #[.val (.int p0), .val (.int p1), .val (.int p2), .val (.int p3), .val (.int md), .val (.int le), .val (.int mo), .val (.int va), .val (.int vb), .val (.int vd), .val (.ref cc), .val (.ref dd), .val (.ref ee), .val (.int (1 : Int32)), .val (.int (0 : Int32)), .val (.int (0 : Int32))] [(.int (1 : Int32))])) _
          refine XS.istore X149.here hx rfl (hb hby at_426) rfl (l' := #[.val (.int p0), .val (.int p1), .val (.int p2), .val (.int p3), .val (.int md), .val (.int le), .val (.int mo), .val (.int va), .val (.int vb), .val (.int vd), .val (.ref cc), .val (.ref dd), .val (.ref ee), .val (.int (1 : Int32)), .val (.int (0 : Int32)), .val (.int (0 : Int32))]) rfl ?_
          show Steps p.tables e below (T149.setTop (mkF m 428 #[.val (.int p0), .val (.int p1), .val (.int p2), .val (.int p3), .val (.int md), .val (.int le), .val (.int mo), .val (.int va), .val (.int vb), .val (.int vd), .val (.ref cc), .val (.ref dd), .val (.ref ee), .val (.int (1 : Int32)), .val (.int (0 : Int32)), .val (.int (0 : Int32))] [])) _
          refine XS.iload X149.here hx rfl (hb hby at_428) rfl ?_
          show Steps p.tables e below (T149.setTop (mkF m 430 #[.val (.int p0), .val (.int p1), .val (.int p2), .val (.int p3), .val (.int md), .val (.int le), .val (.int mo), .val (.int va), .val (.int vb), .val (.int vd), .val (.ref cc), .val (.ref dd), .val (.ref ee), .val (.int (1 : Int32)), .val (.int (0 : Int32)), .val (.int (0 : Int32))] [(.int (1 : Int32))])) _
          exact κ)
        obtain ⟨fs, hr, hrun, hended, hW, hsame⟩ := X149.leave (v := some (.int (1 : Int32))) (fun h => by rw [Bd.returns] at h; cases h)
        refine ⟨_, _, pre151 _ ?_, hrun, hended, _, _, rfl, ?_, ⟨_, rfl⟩, hW, hsame.mono (by decide) (by decide)⟩
        · exact retN X149 hx (t := .boolean) Bd.returns (by simp) (hb hby at_430) hr
        · show Q0 Z p0 p1 p2 p3 h0 n0 _ T149.heap _
          exact ⟨rfl, N149⟩
      · obtain ⟨cq152, kq152, q152a, q152b, q152c⟩ := isOf hZ rfl E_dd_140
        obtain ⟨_, _, ⟨T152, L152, k152, n152⟩, -, X152, ⟨Lc152, hQ152, l152, y152, z152⟩, st152⟩ := X140.virtualBack hx (y := (⟨"com/example/fettle/fettle/regex/Counts", "takeInto", "(Lcom/example/fettle/fettle/regex/Counts;)Z"⟩ : MethodName)) (z := (⟨"com/example/fettle/fettle/regex/Counts", "takeInto", "(Lcom/example/fettle/fettle/regex/Counts;)Z"⟩ : MethodName)) hown (mvT hZ (hw _ (List.mem_of_getElem? (i := 37) rfl))) (mvT hZ (hw _ (List.mem_of_getElem? (i := 38) rfl))) (notFace_of_selects (args := #[]) (mvT hZ (hw _ (List.mem_of_getElem? (i := 40) rfl)))) (mvT hZ (hw _ (List.mem_of_getElem? (i := 40) rfl))) (mvT hZ (hw _ (List.mem_of_getElem? (i := 39) rfl))) (by decide) (backOf (W := 0) (rm6b l Z a0 hw [] dd ee occ xcc kocc kxcc 0 1 (0 + 1) 1 le mo ([(.int (0 : Int32)), (.int (0 : Int32)), (.int (0 : Int32)), (.int (0 : Int32))].set (0 : Int32).toNatClampNeg (.int 0)) ([(.int (0 : Int32)), (.int (0 : Int32)), (.int (0 : Int32)), (.int (0 : Int32))].set (0 : Int32).toNatClampNeg (.int 0)) oee xee koee kxee 0 0 0 0 le mo [(.int (0 : Int32)), (.int (0 : Int32)), (.int (0 : Int32)), (.int (0 : Int32))] [(.int (0 : Int32)), (.int (0 : Int32)), (.int (0 : Int32)), (.int (0 : Int32))] 0 T140.heap n0 Z140 ⟨E_dd_140, F_oldest_dd_140, F_newest_dd_140, F_first_dd_140, F_runs_dd_140, F_clock_dd_140, Fx_starting_dd_140, F_least_dd_140, F_most_dd_140, V_o_dd_140, V_w_dd_140⟩ ⟨E_ee_140, F_oldest_ee_140, F_newest_ee_140, F_first_ee_140, F_runs_ee_140, F_clock_ee_140, F_starting_ee_140, F_least_ee_140, F_most_ee_140, V_o_ee_140, V_w_ee_140⟩ rfl (Or.inl rfl) rfl rfl hle0 (Ne.symm ne_occ_dd) (Ne.symm ne_xcc_dd) nox31 ne_dd_ee ne_dd_oee ne_dd_xee (Ne.symm ne_occ_ee) (Ne.symm ne_xcc_ee) ne_ee_oee ne_ee_xee nox43 ne_occ_oee ne_occ_xee ne_xcc_oee ne_xcc_xee g_dd g_occ g_xcc g_ee rfl rfl hl0 rfl rfl (by decide)) hZ (hw _ (List.mem_of_getElem? (i := 41) rfl)) (hw _ (List.mem_of_getElem? (i := 7) rfl)) (by decide) (by decide)) q152a q152c (g := (mkF m 362 #[.val (.int p0), .val (.int p1), .val (.int p2), .val (.int p3), .val (.int md), .val (.int le), .val (.int mo), .val (.int va), .val (.int vb), .val (.int vd), .val (.ref cc), .val (.ref dd), .val (.ref ee), .val (.int (1 : Int32)), .val (.int (0 : Int32)), .unset] [(.ref ee), (.ref dd)])) rfl (by rw [hml]; rfl) (Steps.refl _) (argsL := [(.ref ee)]) (rest := []) (lenOf pd_7 rfl) rfl (by show 2 * 0 + _ ≤ _; exact Nat.le_of_eq rfl) (hb hby at_362) (fun _ _ => ⟨rfl, rfl, (by decide : 9 + 0 ≤ _), (by decide : 48 + 0 ≤ _)⟩)
        dsimp only [Pt.U, Pt.locs, Pt.cells, Pt.slots] at X152 l152 y152 z152 st152 hQ152
        subst l152 y152 z152
        obtain ⟨mx151, rfl, Nq152, K152, R152⟩ := hQ152
        have E_ee_152 : Exa Z T152.heap ee "com/example/fettle/fettle/regex/Counts" := E_ee_140.keep K152
        have V_o_ee_152 : Arv Z T152.heap oee koee .int (4 : Int32) [(.int (0 : Int32)), (.int (0 : Int32)), (.int (0 : Int32)), (.int (0 : Int32))] (.int (0 : Int32)) := V_o_ee_140.keep K152 (ninS (Ne.symm ne_dd_oee) (ninS (Ne.symm ne_occ_oee) (ninS (Ne.symm ne_xcc_oee) (ninS (Ne.symm ne_ee_oee) nin0))))
        have V_w_ee_152 : Arv Z T152.heap xee kxee .int (4 : Int32) [(.int (0 : Int32)), (.int (0 : Int32)), (.int (0 : Int32)), (.int (0 : Int32))] (.int (0 : Int32)) := V_w_ee_140.keep K152 (ninS (Ne.symm ne_dd_xee) (ninS (Ne.symm ne_occ_xee) (ninS (Ne.symm ne_xcc_xee) (ninS (Ne.symm ne_ee_xee) nin0))))
        have E_dd_152 : Exa Z T152.heap dd "com/example/fettle/fettle/regex/Counts" := E_dd_140.keep K152
        have E_cc_152 : Exa Z T152.heap cc "com/example/fettle/fettle/regex/Counts" := E_cc_140.keep K152
        have F_oldest_cc_152 : Fld Z T152.heap cc "com/example/fettle/fettle/regex/Counts" "oldest" "[I" (.ref odd) := F_oldest_cc_140.keep K152 (ninS ne_cc_dd (ninS ne_cc_occ (ninS ne_cc_xcc (ninS ne_cc_ee nin0))))
        have F_newest_cc_152 : Fld Z T152.heap cc "com/example/fettle/fettle/regex/Counts" "newest" "[I" (.ref xdd) := F_newest_cc_140.keep K152 (ninS ne_cc_dd (ninS ne_cc_occ (ninS ne_cc_xcc (ninS ne_cc_ee nin0))))
        have F_first_cc_152 : Fld Z T152.heap cc "com/example/fettle/fettle/regex/Counts" "first" "I" (.int 0) := F_first_cc_140.keep K152 (ninS ne_cc_dd (ninS ne_cc_occ (ninS ne_cc_xcc (ninS ne_cc_ee nin0))))
        have F_runs_cc_152 : Fld Z T152.heap cc "com/example/fettle/fettle/regex/Counts" "runs" "I" (.int 0) := F_runs_cc_140.keep K152 (ninS ne_cc_dd (ninS ne_cc_occ (ninS ne_cc_xcc (ninS ne_cc_ee nin0))))
        have F_clock_cc_152 : Fld Z T152.heap cc "com/example/fettle/fettle/regex/Counts" "clock" "I" (.int 0) := F_clock_cc_140.keep K152 (ninS ne_cc_dd (ninS ne_cc_occ (ninS ne_cc_xcc (ninS ne_cc_ee nin0))))
        have F_starting_cc_152 : Fld Z T152.heap cc "com/example/fettle/fettle/regex/Counts" "starting" "Z" (.int 0) := F_starting_cc_140.keep K152 (ninS ne_cc_dd (ninS ne_cc_occ (ninS ne_cc_xcc (ninS ne_cc_ee nin0))))
        have F_least_cc_152 : Fld Z T152.heap cc "com/example/fettle/fettle/regex/Counts" "least" "I" (.int le) := F_least_cc_140.keep K152 (ninS ne_cc_dd (ninS ne_cc_occ (ninS ne_cc_xcc (ninS ne_cc_ee nin0))))
        have F_most_cc_152 : Fld Z T152.heap cc "com/example/fettle/fettle/regex/Counts" "most" "I" (.int mo) := F_most_cc_140.keep K152 (ninS ne_cc_dd (ninS ne_cc_occ (ninS ne_cc_xcc (ninS ne_cc_ee nin0))))
        have V_o_cc_152 : Arv Z T152.heap odd kodd .int (4 : Int32) [(.int (0 : Int32)), (.int (0 : Int32)), (.int (0 : Int32)), (.int (0 : Int32))] (.int (0 : Int32)) := V_o_cc_140.keep K152 (ninS (Ne.symm ne_dd_odd) (ninS (Ne.symm ne_occ_odd) (ninS (Ne.symm ne_xcc_odd) (ninS ne_odd_ee nin0))))
        have V_w_cc_152 : Arv Z T152.heap xdd kxdd .int (4 : Int32) [(.int (0 : Int32)), (.int (0 : Int32)), (.int (0 : Int32)), (.int (0 : Int32))] (.int (0 : Int32)) := V_w_cc_140.keep K152 (ninS (Ne.symm ne_dd_xdd) (ninS (Ne.symm ne_occ_xdd) (ninS (Ne.symm ne_xcc_xdd) (ninS ne_xdd_ee nin0))))
        have Z152 : n0 ≤ T152.heap.size := Nat.le_trans Z140 K152.1
        have N152 := Fr.app N140 Nq152
        have pre153 := fun τ (κ : Steps p.tables e below (T152.setTop (mkF m 365 #[.val (.int p0), .val (.int p1), .val (.int p2), .val (.int p3), .val (.int md), .val (.int le), .val (.int mo), .val (.int va), .val (.int vb), .val (.int vd), .val (.ref cc), .val (.ref dd), .val (.ref ee), .val (.int (1 : Int32)), .val (.int (0 : Int32)), .unset] [(.int mx151)])) τ) => pre142 τ (st152.trans κ)
        obtain ⟨u0, u1, u2, u3, u4, u5⟩ := R152
        have pre154 := fun τ (κ : Steps p.tables e below (T152.setTop (mkF m 405 #[.val (.int p0), .val (.int p1), .val (.int p2), .val (.int p3), .val (.int md), .val (.int le), .val (.int mo), .val (.int va), .val (.int vb), .val (.int vd), .val (.ref cc), .val (.ref dd), .val (.ref ee), .val (.int (1 : Int32)), .val (.int (0 : Int32)), .val (.int (0 : Int32))] [(.ref ee)])) τ) => pre153 τ (by
          refine XS.pop X152.here hx rfl (hb hby at_365) rfl rfl ?_
          show Steps p.tables e below (T152.setTop (mkF m 366 #[.val (.int p0), .val (.int p1), .val (.int p2), .val (.int p3), .val (.int md), .val (.int le), .val (.int mo), .val (.int va), .val (.int vb), .val (.int vd), .val (.ref cc), .val (.ref dd), .val (.ref ee), .val (.int (1 : Int32)), .val (.int (0 : Int32)), .unset] [])) _
          refine XS.iload X152.here hx rfl (hb hby at_366) rfl ?_
          show Steps p.tables e below (T152.setTop (mkF m 368 #[.val (.int p0), .val (.int p1), .val (.int p2), .val (.int p3), .val (.int md), .val (.int le), .val (.int mo), .val (.int va), .val (.int vb), .val (.int vd), .val (.ref cc), .val (.ref dd), .val (.ref ee), .val (.int (1 : Int32)), .val (.int (0 : Int32)), .unset] [(.int vd)])) _
          refine XS.ifNo X152.here hx rfl (hb hby at_368) rfl ((if0 _ _).trans (feq qv).1) ?_
          show Steps p.tables e below (T152.setTop (mkF m 371 #[.val (.int p0), .val (.int p1), .val (.int p2), .val (.int p3), .val (.int md), .val (.int le), .val (.int mo), .val (.int va), .val (.int vb), .val (.int vd), .val (.ref cc), .val (.ref dd), .val (.ref ee), .val (.int (1 : Int32)), .val (.int (0 : Int32)), .unset] [])) _
          refine XS.iload X152.here hx rfl (hb hby at_371) rfl ?_
          show Steps p.tables e below (T152.setTop (mkF m 373 #[.val (.int p0), .val (.int p1), .val (.int p2), .val (.int p3), .val (.int md), .val (.int le), .val (.int mo), .val (.int va), .val (.int vb), .val (.int vd), .val (.ref cc), .val (.ref dd), .val (.ref ee), .val (.int (1 : Int32)), .val (.int (0 : Int32)), .unset] [(.int mo)])) _
          refine XS.iconst X152.here hx rfl (hb hby at_373) ?_
          show Steps p.tables e below (T152.setTop (mkF m 374 #[.val (.int p0), .val (.int p1), .val (.int p2), .val (.int p3), .val (.int md), .val (.int le), .val (.int mo), .val (.int va), .val (.int vb), .val (.int vd), .val (.ref cc), .val (.ref dd), .val (.ref ee), .val (.int (1 : Int32)), .val (.int (0 : Int32)), .unset] [(.int (1 : Int32)), (.int mo)])) _
          refine XS.icmpYes X152.here hx rfl (pc0 := 374) (pc' := 381) rfl (hb hby at_374) rfl (feq hmo).2 (by decide) (by decide) ?_
          show Steps p.tables e below (T152.setTop (mkF m 381 #[.val (.int p0), .val (.int p1), .val (.int p2), .val (.int p3), .val (.int md), .val (.int le), .val (.int mo), .val (.int va), .val (.int vb), .val (.int vd), .val (.ref cc), .val (.ref dd), .val (.ref ee), .val (.int (1 : Int32)), .val (.int (0 : Int32)), .unset] [])) _
          refine XS.iconst X152.here hx rfl (hb hby at_381) ?_
          show Steps p.tables e below (T152.setTop (mkF m 382 #[.val (.int p0), .val (.int p1), .val (.int p2), .val (.int p3), .val (.int md), .val (.int le), .val (.int mo), .val (.int va), .val (.int vb), .val (.int vd), .val (.ref cc), .val (.ref dd), .val (.ref ee), .val (.int (1 : Int32)), .val (.int (0 : Int32)), .unset] [(.int (0 : Int32))])) _
          refine XS.goto X152.here hx rfl (pc0 := 382) (pc' := 396) rfl (hb hby at_382) (by decide) (by decide) ?_
          show Steps p.tables e below (T152.setTop (mkF m 396 #[.val (.int p0), .val (.int p1), .val (.int p2), .val (.int p3), .val (.int md), .val (.int le), .val (.int mo), .val (.int va), .val (.int vb), .val (.int vd), .val (.ref cc), .val (.ref dd), .val (.ref ee), .val (.int (1 : Int32)), .val (.int (0 : Int32)), .unset] [(.int (0 : Int32))])) _
          refine XS.istore X152.here hx rfl (hb hby at_396) rfl (l' := #[.val (.int p0), .val (.int p1), .val (.int p2), .val (.int p3), .val (.int md), .val (.int le), .val (.int mo), .val (.int va), .val (.int vb), .val (.int vd), .val (.ref cc), .val (.ref dd), .val (.ref ee), .val (.int (1 : Int32)), .val (.int (0 : Int32)), .val (.int (0 : Int32))]) rfl ?_
          show Steps p.tables e below (T152.setTop (mkF m 398 #[.val (.int p0), .val (.int p1), .val (.int p2), .val (.int p3), .val (.int md), .val (.int le), .val (.int mo), .val (.int va), .val (.int vb), .val (.int vd), .val (.ref cc), .val (.ref dd), .val (.ref ee), .val (.int (1 : Int32)), .val (.int (0 : Int32)), .val (.int (0 : Int32))] [])) _
          refine XS.iload X152.here hx rfl (hb hby at_398) rfl ?_
          show Steps p.tables e below (T152.setTop (mkF m 400 #[.val (.int p0), .val (.int p1), .val (.int p2), .val (.int p3), .val (.int md), .val (.int le), .val (.int mo), .val (.int va), .val (.int vb), .val (.int vd), .val (.ref cc), .val (.ref dd), .val (.ref ee), .val (.int (1 : Int32)), .val (.int (0 : Int32)), .val (.int (0 : Int32))] [(.int (1 : Int32))])) _
          refine XS.ifNo X152.here hx rfl (hb hby at_400) rfl ((if0 _ _).trans (feq (by decide)).1) ?_
          show Steps p.tables e below (T152.setTop (mkF m 403 #[.val (.int p0), .val (.int p1), .val (.int p2), .val (.int p3), .val (.int md), .val (.int le), .val (.int mo), .val (.int va), .val (.int vb), .val (.int vd), .val (.ref cc), .val (.ref dd), .val (.ref ee), .val (.int (1 : Int32)), .val (.int (0 : Int32)), .val (.int (0 : Int32))] [])) _
          refine XS.aload X152.here hx rfl (hb hby at_403) rfl rfl ?_
          show Steps p.tables e below (T152.setTop (mkF m 405 #[.val (.int p0), .val (.int p1), .val (.int p2), .val (.int p3), .val (.int md), .val (.int le), .val (.int mo), .val (.int va), .val (.int vb), .val (.int vd), .val (.ref cc), .val (.ref dd), .val (.ref ee), .val (.int (1 : Int32)), .val (.int (0 : Int32)), .val (.int (0 : Int32))] [(.ref ee)])) _
          exact κ)
        obtain ⟨cq155, kq155, q155a, q155b, q155c⟩ := isOf hZ rfl u3
        obtain ⟨_, _, ⟨T155, L155, k155, n155⟩, -, X155, ⟨Lc155, hQ155, l155, y155, z155⟩, st155⟩ := X152.virtualBack hx (y := (⟨"com/example/fettle/fettle/regex/Counts", "isEmpty", "()Z"⟩ : MethodName)) (z := (⟨"com/example/fettle/fettle/regex/Counts", "isEmpty", "()Z"⟩ : MethodName)) hown (mvT hZ (hw _ (List.mem_of_getElem? (i := 23) rfl))) (mvT hZ (hw _ (List.mem_of_getElem? (i := 24) rfl))) (notFace_of_selects (args := #[]) (mvT hZ (hw _ (List.mem_of_getElem? (i := 26) rfl)))) (mvT hZ (hw _ (List.mem_of_getElem? (i := 26) rfl))) (mvT hZ (hw _ (List.mem_of_getElem? (i := 25) rfl))) (by decide) (backOf (W := 0) (rm4 l Z a0 hw [] ee 1 0 T152.heap n0 Z152 u5 u4) hZ (hw _ (List.mem_of_getElem? (i := 27) rfl)) (hw _ (List.mem_of_getElem? (i := 7) rfl)) (by decide) (by decide)) q155a q155c (g := (mkF m 405 #[.val (.int p0), .val (.int p1), .val (.int p2), .val (.int p3), .val (.int md), .val (.int le), .val (.int mo), .val (.int va), .val (.int vb), .val (.int vd), .val (.ref cc), .val (.ref dd), .val (.ref ee), .val (.int (1 : Int32)), .val (.int (0 : Int32)), .val (.int (0 : Int32))] [(.ref ee)])) rfl (by rw [hml]; rfl) (Steps.refl _) (argsL := []) (rest := []) (lenOf pd_6 rfl) rfl (by show 2 * 0 + _ ≤ _; exact Nat.le_of_eq rfl) (hb hby at_405) (fun _ _ => ⟨rfl, rfl, (by decide : 9 + 0 ≤ _), (by decide : 48 + 0 ≤ _)⟩)
        dsimp only [Pt.U, Pt.locs, Pt.cells, Pt.slots] at X155 l155 y155 z155 st155 hQ155
        subst l155 y155 z155
        obtain ⟨rfl, Nq155, hh155⟩ := hQ155
        have E_cc_155 : Exa Z T155.heap cc "com/example/fettle/fettle/regex/Counts" := by rw [hh155]; exact E_cc_152
        have F_oldest_cc_155 : Fld Z T155.heap cc "com/example/fettle/fettle/regex/Counts" "oldest" "[I" (.ref odd) := by rw [hh155]; exact F_oldest_cc_152
        have F_newest_cc_155 : Fld Z T155.heap cc "com/example/fettle/fettle/regex/Counts" "newest" "[I" (.ref xdd) := by rw [hh155]; exact F_newest_cc_152
        have F_first_cc_155 : Fld Z T155.heap cc "com/example/fettle/fettle/regex/Counts" "first" "I" (.int 0) := by rw [hh155]; exact F_first_cc_152
        have F_runs_cc_155 : Fld Z T155.heap cc "com/example/fettle/fettle/regex/Counts" "runs" "I" (.int 0) := by rw [hh155]; exact F_runs_cc_152
        have F_clock_cc_155 : Fld Z T155.heap cc "com/example/fettle/fettle/regex/Counts" "clock" "I" (.int 0) := by rw [hh155]; exact F_clock_cc_152
        have F_starting_cc_155 : Fld Z T155.heap cc "com/example/fettle/fettle/regex/Counts" "starting" "Z" (.int 0) := by rw [hh155]; exact F_starting_cc_152
        have F_least_cc_155 : Fld Z T155.heap cc "com/example/fettle/fettle/regex/Counts" "least" "I" (.int le) := by rw [hh155]; exact F_least_cc_152
        have F_most_cc_155 : Fld Z T155.heap cc "com/example/fettle/fettle/regex/Counts" "most" "I" (.int mo) := by rw [hh155]; exact F_most_cc_152
        have V_o_cc_155 : Arv Z T155.heap odd kodd .int (4 : Int32) [(.int (0 : Int32)), (.int (0 : Int32)), (.int (0 : Int32)), (.int (0 : Int32))] (.int (0 : Int32)) := by rw [hh155]; exact V_o_cc_152
        have V_w_cc_155 : Arv Z T155.heap xdd kxdd .int (4 : Int32) [(.int (0 : Int32)), (.int (0 : Int32)), (.int (0 : Int32)), (.int (0 : Int32))] (.int (0 : Int32)) := by rw [hh155]; exact V_w_cc_152
        have u0_155 : Exa Z T155.heap dd "com/example/fettle/fettle/regex/Counts" := by rw [hh155]; exact u0
        have u1_155 : Fld Z T155.heap dd "com/example/fettle/fettle/regex/Counts" "runs" "I" (.int 0) := by rw [hh155]; exact u1
        have u2_155 : Fld Z T155.heap dd "com/example/fettle/fettle/regex/Counts" "starting" "Z" (.int 0) := by rw [hh155]; exact u2
        have u3_155 : Exa Z T155.heap ee "com/example/fettle/fettle/regex/Counts" := by rw [hh155]; exact u3
        have u4_155 : Fld Z T155.heap ee "com/example/fettle/fettle/regex/Counts" "starting" "Z" (.int 0) := by rw [hh155]; exact u4
        have u5_155 : Fld Z T155.heap ee "com/example/fettle/fettle/regex/Counts" "runs" "I" (.int 1) := by rw [hh155]; exact u5
        have Z155 : n0 ≤ T155.heap.size := by rw [hh155]; exact Z152
        have N155 := Fr.app N152 Nq155
        have pre156 := fun τ (κ : Steps p.tables e below (T155.setTop (mkF m 408 #[.val (.int p0), .val (.int p1), .val (.int p2), .val (.int p3), .val (.int md), .val (.int le), .val (.int mo), .val (.int va), .val (.int vb), .val (.int vd), .val (.ref cc), .val (.ref dd), .val (.ref ee), .val (.int (1 : Int32)), .val (.int (0 : Int32)), .val (.int (0 : Int32))] [(.int (own_emp 1 0))])) τ) => pre154 τ (st155.trans κ)
        have pre157 := fun τ (κ : Steps p.tables e below (T155.setTop (mkF m 415 #[.val (.int p0), .val (.int p1), .val (.int p2), .val (.int p3), .val (.int md), .val (.int le), .val (.int mo), .val (.int va), .val (.int vb), .val (.int vd), .val (.ref cc), .val (.ref dd), .val (.ref ee), .val (.int (1 : Int32)), .val (.int (0 : Int32)), .val (.int (0 : Int32))] [(.ref dd)])) τ) => pre156 τ (by
          refine XS.iload X155.here hx rfl (hb hby at_408) rfl ?_
          show Steps p.tables e below (T155.setTop (mkF m 410 #[.val (.int p0), .val (.int p1), .val (.int p2), .val (.int p3), .val (.int md), .val (.int le), .val (.int mo), .val (.int va), .val (.int vb), .val (.int vd), .val (.ref cc), .val (.ref dd), .val (.ref ee), .val (.int (1 : Int32)), .val (.int (0 : Int32)), .val (.int (0 : Int32))] [(.int (0 : Int32)), (.int (own_emp 1 0))])) _
          refine XS.icmpNo X155.here hx rfl (hb hby at_410) rfl (teq own_empR).2 ?_
          show Steps p.tables e below (T155.setTop (mkF m 413 #[.val (.int p0), .val (.int p1), .val (.int p2), .val (.int p3), .val (.int md), .val (.int le), .val (.int mo), .val (.int va), .val (.int vb), .val (.int vd), .val (.ref cc), .val (.ref dd), .val (.ref ee), .val (.int (1 : Int32)), .val (.int (0 : Int32)), .val (.int (0 : Int32))] [])) _
          refine XS.aload X155.here hx rfl (hb hby at_413) rfl rfl ?_
          show Steps p.tables e below (T155.setTop (mkF m 415 #[.val (.int p0), .val (.int p1), .val (.int p2), .val (.int p3), .val (.int md), .val (.int le), .val (.int mo), .val (.int va), .val (.int vb), .val (.int vd), .val (.ref cc), .val (.ref dd), .val (.ref ee), .val (.int (1 : Int32)), .val (.int (0 : Int32)), .val (.int (0 : Int32))] [(.ref dd)])) _
          exact κ)
        obtain ⟨cq158, kq158, q158a, q158b, q158c⟩ := isOf hZ rfl u0_155
        obtain ⟨_, _, ⟨T158, L158, k158, n158⟩, -, X158, ⟨Lc158, hQ158, l158, y158, z158⟩, st158⟩ := X155.virtualBack hx (y := (⟨"com/example/fettle/fettle/regex/Counts", "isEmpty", "()Z"⟩ : MethodName)) (z := (⟨"com/example/fettle/fettle/regex/Counts", "isEmpty", "()Z"⟩ : MethodName)) hown (mvT hZ (hw _ (List.mem_of_getElem? (i := 23) rfl))) (mvT hZ (hw _ (List.mem_of_getElem? (i := 24) rfl))) (notFace_of_selects (args := #[]) (mvT hZ (hw _ (List.mem_of_getElem? (i := 26) rfl)))) (mvT hZ (hw _ (List.mem_of_getElem? (i := 26) rfl))) (mvT hZ (hw _ (List.mem_of_getElem? (i := 25) rfl))) (by decide) (backOf (W := 0) (rm4 l Z a0 hw [] dd 0 0 T155.heap n0 Z155 u1_155 u2_155) hZ (hw _ (List.mem_of_getElem? (i := 27) rfl)) (hw _ (List.mem_of_getElem? (i := 7) rfl)) (by decide) (by decide)) q158a q158c (g := (mkF m 415 #[.val (.int p0), .val (.int p1), .val (.int p2), .val (.int p3), .val (.int md), .val (.int le), .val (.int mo), .val (.int va), .val (.int vb), .val (.int vd), .val (.ref cc), .val (.ref dd), .val (.ref ee), .val (.int (1 : Int32)), .val (.int (0 : Int32)), .val (.int (0 : Int32))] [(.ref dd)])) rfl (by rw [hml]; rfl) (Steps.refl _) (argsL := []) (rest := []) (lenOf pd_6 rfl) rfl (by show 2 * 0 + _ ≤ _; exact Nat.le_of_eq rfl) (hb hby at_415) (fun _ _ => ⟨rfl, rfl, (by decide : 9 + 0 ≤ _), (by decide : 48 + 0 ≤ _)⟩)
        dsimp only [Pt.U, Pt.locs, Pt.cells, Pt.slots] at X158 l158 y158 z158 st158 hQ158
        subst l158 y158 z158
        obtain ⟨rfl, Nq158, hh158⟩ := hQ158
        have E_cc_158 : Exa Z T158.heap cc "com/example/fettle/fettle/regex/Counts" := by rw [hh158]; exact E_cc_155
        have F_oldest_cc_158 : Fld Z T158.heap cc "com/example/fettle/fettle/regex/Counts" "oldest" "[I" (.ref odd) := by rw [hh158]; exact F_oldest_cc_155
        have F_newest_cc_158 : Fld Z T158.heap cc "com/example/fettle/fettle/regex/Counts" "newest" "[I" (.ref xdd) := by rw [hh158]; exact F_newest_cc_155
        have F_first_cc_158 : Fld Z T158.heap cc "com/example/fettle/fettle/regex/Counts" "first" "I" (.int 0) := by rw [hh158]; exact F_first_cc_155
        have F_runs_cc_158 : Fld Z T158.heap cc "com/example/fettle/fettle/regex/Counts" "runs" "I" (.int 0) := by rw [hh158]; exact F_runs_cc_155
        have F_clock_cc_158 : Fld Z T158.heap cc "com/example/fettle/fettle/regex/Counts" "clock" "I" (.int 0) := by rw [hh158]; exact F_clock_cc_155
        have F_starting_cc_158 : Fld Z T158.heap cc "com/example/fettle/fettle/regex/Counts" "starting" "Z" (.int 0) := by rw [hh158]; exact F_starting_cc_155
        have F_least_cc_158 : Fld Z T158.heap cc "com/example/fettle/fettle/regex/Counts" "least" "I" (.int le) := by rw [hh158]; exact F_least_cc_155
        have F_most_cc_158 : Fld Z T158.heap cc "com/example/fettle/fettle/regex/Counts" "most" "I" (.int mo) := by rw [hh158]; exact F_most_cc_155
        have V_o_cc_158 : Arv Z T158.heap odd kodd .int (4 : Int32) [(.int (0 : Int32)), (.int (0 : Int32)), (.int (0 : Int32)), (.int (0 : Int32))] (.int (0 : Int32)) := by rw [hh158]; exact V_o_cc_155
        have V_w_cc_158 : Arv Z T158.heap xdd kxdd .int (4 : Int32) [(.int (0 : Int32)), (.int (0 : Int32)), (.int (0 : Int32)), (.int (0 : Int32))] (.int (0 : Int32)) := by rw [hh158]; exact V_w_cc_155
        have u0_158 : Exa Z T158.heap dd "com/example/fettle/fettle/regex/Counts" := by rw [hh158]; exact u0_155
        have u1_158 : Fld Z T158.heap dd "com/example/fettle/fettle/regex/Counts" "runs" "I" (.int 0) := by rw [hh158]; exact u1_155
        have u2_158 : Fld Z T158.heap dd "com/example/fettle/fettle/regex/Counts" "starting" "Z" (.int 0) := by rw [hh158]; exact u2_155
        have u3_158 : Exa Z T158.heap ee "com/example/fettle/fettle/regex/Counts" := by rw [hh158]; exact u3_155
        have u4_158 : Fld Z T158.heap ee "com/example/fettle/fettle/regex/Counts" "starting" "Z" (.int 0) := by rw [hh158]; exact u4_155
        have u5_158 : Fld Z T158.heap ee "com/example/fettle/fettle/regex/Counts" "runs" "I" (.int 1) := by rw [hh158]; exact u5_155
        have Z158 : n0 ≤ T158.heap.size := by rw [hh158]; exact Z155
        have N158 := Fr.app N155 Nq158
        have pre159 := fun τ (κ : Steps p.tables e below (T158.setTop (mkF m 418 #[.val (.int p0), .val (.int p1), .val (.int p2), .val (.int p3), .val (.int md), .val (.int le), .val (.int mo), .val (.int va), .val (.int vb), .val (.int vd), .val (.ref cc), .val (.ref dd), .val (.ref ee), .val (.int (1 : Int32)), .val (.int (0 : Int32)), .val (.int (0 : Int32))] [(.int (own_emp 0 0))])) τ) => pre157 τ (st158.trans κ)
        have pre160 := fun τ (κ : Steps p.tables e below (T158.setTop (mkF m 430 #[.val (.int p0), .val (.int p1), .val (.int p2), .val (.int p3), .val (.int md), .val (.int le), .val (.int mo), .val (.int va), .val (.int vb), .val (.int vd), .val (.ref cc), .val (.ref dd), .val (.ref ee), .val (.int (1 : Int32)), .val (.int (0 : Int32)), .val (.int (0 : Int32))] [(.int (1 : Int32))])) τ) => pre159 τ (by
          refine XS.ifNo X158.here hx rfl (hb hby at_418) rfl ((if0 _ _).trans (feq (by decide)).1) ?_
          show Steps p.tables e below (T158.setTop (mkF m 421 #[.val (.int p0), .val (.int p1), .val (.int p2), .val (.int p3), .val (.int md), .val (.int le), .val (.int mo), .val (.int va), .val (.int vb), .val (.int vd), .val (.ref cc), .val (.ref dd), .val (.ref ee), .val (.int (1 : Int32)), .val (.int (0 : Int32)), .val (.int (0 : Int32))] [])) _
          refine XS.iconst X158.here hx rfl (hb hby at_421) ?_
          show Steps p.tables e below (T158.setTop (mkF m 422 #[.val (.int p0), .val (.int p1), .val (.int p2), .val (.int p3), .val (.int md), .val (.int le), .val (.int mo), .val (.int va), .val (.int vb), .val (.int vd), .val (.ref cc), .val (.ref dd), .val (.ref ee), .val (.int (1 : Int32)), .val (.int (0 : Int32)), .val (.int (0 : Int32))] [(.int (1 : Int32))])) _
          refine XS.goto X158.here hx rfl (pc0 := 422) (pc' := 426) rfl (hb hby at_422) (by decide) (by decide) ?_
          show Steps p.tables e below (T158.setTop (mkF m 426 #[.val (.int p0), .val (.int p1), .val (.int p2), .val (.int p3), .val (.int md), .val (.int le), .val (.int mo), .val (.int va), .val (.int vb), .val (.int vd), .val (.ref cc), .val (.ref dd), .val (.ref ee), .val (.int (1 : Int32)), .val (.int (0 : Int32)), .val (.int (0 : Int32))] [(.int (1 : Int32))])) _
          refine XS.istore X158.here hx rfl (hb hby at_426) rfl (l' := #[.val (.int p0), .val (.int p1), .val (.int p2), .val (.int p3), .val (.int md), .val (.int le), .val (.int mo), .val (.int va), .val (.int vb), .val (.int vd), .val (.ref cc), .val (.ref dd), .val (.ref ee), .val (.int (1 : Int32)), .val (.int (0 : Int32)), .val (.int (0 : Int32))]) rfl ?_
          show Steps p.tables e below (T158.setTop (mkF m 428 #[.val (.int p0), .val (.int p1), .val (.int p2), .val (.int p3), .val (.int md), .val (.int le), .val (.int mo), .val (.int va), .val (.int vb), .val (.int vd), .val (.ref cc), .val (.ref dd), .val (.ref ee), .val (.int (1 : Int32)), .val (.int (0 : Int32)), .val (.int (0 : Int32))] [])) _
          refine XS.iload X158.here hx rfl (hb hby at_428) rfl ?_
          show Steps p.tables e below (T158.setTop (mkF m 430 #[.val (.int p0), .val (.int p1), .val (.int p2), .val (.int p3), .val (.int md), .val (.int le), .val (.int mo), .val (.int va), .val (.int vb), .val (.int vd), .val (.ref cc), .val (.ref dd), .val (.ref ee), .val (.int (1 : Int32)), .val (.int (0 : Int32)), .val (.int (0 : Int32))] [(.int (1 : Int32))])) _
          exact κ)
        obtain ⟨fs, hr, hrun, hended, hW, hsame⟩ := X158.leave (v := some (.int (1 : Int32))) (fun h => by rw [Bd.returns] at h; cases h)
        refine ⟨_, _, pre160 _ ?_, hrun, hended, _, _, rfl, ?_, ⟨_, rfl⟩, hW, hsame.mono (by decide) (by decide)⟩
        · exact retN X158 hx (t := .boolean) Bd.returns (by simp) (hb hby at_430) hr
        · show Q0 Z p0 p1 p2 p3 h0 n0 _ T158.heap _
          exact ⟨rfl, N158⟩
set_option maxRecDepth 65536 in
set_option maxHeartbeats 40000000 in
theorem comes_1 {Post : Tables → Env → Array Value → State → Outcome → State → Prop} (hpost : ∀ tb e args s v u, (limb_1_1.after args s (.returned v) u = true ∧ limb_1_2.after args s (.returned v) u = true ∧ True) → FrameEnd s (.returned v) u (Jvm.fieldLocs frame_1_writes args s ++ Jvm.arrayLocs frame_1_arrays args s ++ Jvm.staticLocs frame_1_statics s) 32 192 → Post tb e args s (.returned v) u) :
    ArmFor flags0 classFile x code maxLocals ret World_1 tables_1 room_1 Calls_1 rest_1 Pre_1 Post := by
  intro l hfl _ _ p e ha hc hk s m args below hf hA hF happ hP
  obtain ⟨hcalls, hrest, hpre⟩ := hP
  obtain ⟨-, -, -, hnamed, -, -, -, hat⟩ := (Spec.applies_iff hf).mp happ
  obtain ⟨hg, hn⟩ := and_e (Cond.before_iff.mp (show (Jvm.Cond.and given_1 narrow_1).before args s = true from hpre))
  obtain ⟨gc, ga⟩ := and_e hg
  obtain ⟨ga0, gr0⟩ := and_e ga
  obtain ⟨ga1, gr1⟩ := and_e gr0
  obtain ⟨ga2, gr2⟩ := and_e gr1
  obtain ⟨w0, w1, w2, w3, rfl⟩ : ∃ w0 w1 w2 w3 : Value, args = #[w0, w1, w2, w3] := by
    have hs : args.size = 4 := by simpa [Cond.value, given_1] using gc
    obtain ⟨L⟩ := args
    match L, hs with
    | [w0, w1, w2, w3], _ => exact ⟨w0, w1, w2, w3, rfl⟩
  have hw := fun d (hd : d ∈ tables_1) => atoms_spec (ws := Jvm.Cond.code x code maxLocals ret :: tables_1) hat d (List.mem_cons_of_mem _ hd)
  have hfit : Fit s := fun {y c} hc i hi => by
    obtain ⟨ha, rfl⟩ := Array.getElem?_eq_some_iff.mp hc
    have q := List.all_eq_true.mp ((Array.all_eq_true_iff_forall_mem.mp hF) _ (Array.getElem_mem ha)) i (List.mem_range.mpr hi)
    simpa [Array.getElem?_eq_getElem hi] using q
  obtain ⟨i0, ei0⟩ := is_v ga0
  obtain rfl : w0 = (.int i0) := Option.some.inj ei0
  obtain ⟨i1, ei1⟩ := is_v ga1
  obtain rfl : w1 = (.int i1) := Option.some.inj ei1
  obtain ⟨i2, ei2⟩ := is_v ga2
  obtain rfl : w2 = (.int i2) := Option.some.inj ei2
  obtain ⟨i3, ei3⟩ := is_v gr2
  obtain rfl : w3 = (.int i3) := Option.some.inj ei3
  obtain ⟨n, o, h1, h2, h3, _, L, rfl, ⟨rfl, N⟩, hq⟩ := rm0 l s _ hw tables_1 i0 i1 i2 i3 s.heap s.heap.size (Nat.le_refl _) p e ha hc hk s m _ below hf ((Spec.applies_iff_loose hf).mp happ).1 ⟨rfl, State.Warmed39.refl s, rfl⟩ trivial
  refine ⟨n, _, h1, h2, h3, hpost _ _ _ _ _ _ ⟨Cond.after_iff.mpr rfl, Cond.after_iff.mpr (eq_i res_at (Term.int_eval (1)) rfl), trivial⟩ ⟨hq.1, hq.2.1, (hq.2.2.sift fun y hy => Or.inr (N y hy)).mono (by decide) (by decide)⟩⟩
theorem main_1_1 : Claimed_1_1 := comes_1 fun _ _ _ _ _ _ h hF => ⟨h.1, hF⟩
theorem main_1_2 : Claimed_1_2 := comes_1 fun _ _ _ _ _ _ h hF => ⟨h.2.1, hF⟩
end Jvm.Pilot.@@N@@
namespace Jvm.Pilot.@@N@@
open Jvm Jvm.ClassFile Sem Op Lib Jvm.Free Jvm.Stand Jvm.Pilot.@@N@@.Jvm.D
/-! MADE BY PROGRAM (witnessworld.py) out of the Statement's table words and the real class files: 10 classes; the members and pool entries that the words name. The judged class is class 1, her method 1. -/
namespace start1
open Jvm.ClassFile
def u (s : String) : CpInfo := .utf8 (stringToUtf16 s)
/-- a pool by its gaps: so many unusable entries, then the entry; so many at the end -/
def gap : Nat → List CpInfo → List CpInfo
  | 0, r => r
  | n + 1, r => .unusable :: gap n r
def poolList (es : List (Nat × CpInfo)) (last : Nat) : List CpInfo := es.foldr (fun e r => gap e.1 (e.2 :: r)) (gap last [])
def pool (es : List (Nat × CpInfo)) (last : Nat) : Array CpInfo := ⟨poolList es last⟩
def fileOf (pool : Array CpInfo) (this : Nat) (attrs : Array Attribute := #[]) (ms : Array MethodInfo := #[]) (fl : Nat := 33) (sup : Nat := 0) (ifs : Array Nat := #[]) (fds : Array FieldInfo := #[]) : ClassFile where
  minorVersion := 0
  majorVersion := 65
  constantPool := pool
  accessFlags := fl
  thisClass := this
  superClass := sup
  interfaces := ifs
  fields := fds
  methods := ms
  attributes := attrs
def plain (name : String) (sup : Option ClassId) : Class where
  name := name
  kind := .ordinary
  loader := none
  accessFlags := 33
  super := sup
  interfaces := #[]
  cf := none
  fields := #[]
  methods := #[]
  instanceTypes := #[]
  staticTypes := #[]
  resolved := #[]
  callSites := []
  init := .initialized
  statics := none
  mirror := none

def pool0 : Array CpInfo := pool [(5, u "<init>"), (0, u "()V"), (1, .class_ 10), (1, u "java/lang/Object")] 113

def k0c0 : Code := { maxStack := 0, maxLocals := 1, code := object_method_1_code, exceptionTable := #[], attributes := #[] }
def k0m0 : Method := { name := "<init>", desc := "()V", sig := { parameters := [], returnType := none }, accessFlags := 1, code := some k0c0 }
/-- java/lang/Object -/
def k0 : Class := { plain "java/lang/Object" none with
  accessFlags := 33
  interfaces := #[]
  cf := some (fileOf pool0 8 #[] #[{ accessFlags := 1, nameIndex := 5, descriptorIndex := 6, attributes := #[] }] 33 0 #[] #[])
  fields := #[]
  methods := #[k0m0]
  instanceTypes := #[]
  staticTypes := #[]
  resolved := Array.replicate 124 none
  statics := none }

def pool1 : Array CpInfo := pool [(2, .class_ 4), (1, u "java/lang/Object"), (0, u "<init>"), (0, u "()V"), (0, .integer 2147483647), (2, .methodref 11 12), (0, .class_ 13), (0, .nameAndType 14 15), (0, u "java/lang/Math"), (0, u "max"), (0, u "(II)I"), (0, .class_ 17), (0, u "com/example/fettle/fettle/regex/Counts"), (0, .methodref 16 19), (0, .nameAndType 5 20), (0, u "(II)V"), (0, .methodref 16 22), (0, .nameAndType 23 24), (0, u "isEmpty"), (0, u "()Z"), (0, .methodref 16 26), (0, .nameAndType 27 6), (0, u "start"), (0, .methodref 16 29), (0, .nameAndType 30 6), (0, u "clear"), (0, .methodref 16 32), (0, .nameAndType 33 34), (0, u "takeInto"), (0, u "(Lcom/example/fettle/fettle/regex/Counts;)Z"), (0, .class_ 36), (0, u "com/example/fettle/fettle/regex/CountsIsEmptyPinLaw"), (2, u "law"), (0, u "(IIII)Z")] 3

def k1m0 : Method := { name := "<init>", desc := "()V", sig := { parameters := [], returnType := none }, accessFlags := 1, code := none }
def k1c1 : Code := { maxStack := 4, maxLocals := 16, code := code, exceptionTable := #[], attributes := #[] }
def k1m1 : Method := { name := "law", desc := "(IIII)Z", sig := { parameters := [.int, .int, .int, .int], returnType := some .boolean }, accessFlags := 9, code := some k1c1 }
/-- com/example/fettle/fettle/regex/CountsIsEmptyPinLaw -/
def k1 : Class := { plain "com/example/fettle/fettle/regex/CountsIsEmptyPinLaw" (some 0) with
  accessFlags := 49
  interfaces := #[]
  cf := some (fileOf pool1 35 #[] #[{ accessFlags := 1, nameIndex := 5, descriptorIndex := 6, attributes := #[] }, { accessFlags := 9, nameIndex := 39, descriptorIndex := 40, attributes := #[] }] 49 2 #[] #[])
  fields := #[]
  methods := #[k1m0, k1m1]
  instanceTypes := #[]
  staticTypes := #[]
  resolved := Array.replicate 44 none
  statics := none }

def pool2 : Array CpInfo := pool [(1, .class_ 2), (0, u "java/lang/Math"), (1, .class_ 6), (1, u "java/lang/Object"), (0, u "<init>"), (0, u "()V"), (89, .class_ 100), (1, u "java/lang/Math$RandomNumberGeneratorHolder"), (71, u "negativeZeroFloatBits"), (0, u "J"), (2, u "negativeZeroDoubleBits"), (21, u "max"), (46, u "$assertionsDisabled"), (0, u "Z"), (88, u "(II)I"), (2, u "twoToTheDoubleScaleDown"), (0, u "D"), (4, u "twoToTheDoubleScaleUp"), (9, u "E"), (3, u "PI"), (2, u "TAU"), (2, u "DEGREES_TO_RADIANS"), (0, u "RADIANS_TO_DEGREES")] 94

def k2m0 : Method := { name := "<init>", desc := "()V", sig := { parameters := [], returnType := none }, accessFlags := 2, code := none }
def k2c1 : Code := { maxStack := 2, maxLocals := 2, code := jdk_29_method_65_code, exceptionTable := #[], attributes := #[] }
def k2m1 : Method := { name := "max", desc := "(II)I", sig := { parameters := [.int, .int], returnType := some .int }, accessFlags := 9, code := some k2c1 }
/-- java/lang/Math -/
def k2 : Class := { plain "java/lang/Math" (some 0) with
  accessFlags := 49
  interfaces := #[]
  cf := some (fileOf pool2 1 #[.nestMembers #[98]] #[{ accessFlags := 2, nameIndex := 7, descriptorIndex := 8, attributes := #[] }, { accessFlags := 9, nameIndex := 198, descriptorIndex := 335, attributes := #[] }] 49 4 #[] #[{ accessFlags := 25, nameIndex := 354, descriptorIndex := 339, attributes := #[] }, { accessFlags := 25, nameIndex := 358, descriptorIndex := 339, attributes := #[] }, { accessFlags := 25, nameIndex := 361, descriptorIndex := 339, attributes := #[] }, { accessFlags := 26, nameIndex := 364, descriptorIndex := 339, attributes := #[] }, { accessFlags := 26, nameIndex := 365, descriptorIndex := 339, attributes := #[] }, { accessFlags := 26, nameIndex := 172, descriptorIndex := 173, attributes := #[] }, { accessFlags := 26, nameIndex := 176, descriptorIndex := 173, attributes := #[] }, { accessFlags := 8, nameIndex := 344, descriptorIndex := 339, attributes := #[] }, { accessFlags := 8, nameIndex := 338, descriptorIndex := 339, attributes := #[] }, { accessFlags := 4120, nameIndex := 245, descriptorIndex := 246, attributes := #[] }])
  fields := #[{ name := "E", type := .double, accessFlags := 25, slot := 0, constantValue := 0 }, { name := "PI", type := .double, accessFlags := 25, slot := 1, constantValue := 0 }, { name := "TAU", type := .double, accessFlags := 25, slot := 2, constantValue := 0 }, { name := "DEGREES_TO_RADIANS", type := .double, accessFlags := 26, slot := 3, constantValue := 0 }, { name := "RADIANS_TO_DEGREES", type := .double, accessFlags := 26, slot := 4, constantValue := 0 }, { name := "negativeZeroFloatBits", type := .long, accessFlags := 26, slot := 5, constantValue := 0 }, { name := "negativeZeroDoubleBits", type := .long, accessFlags := 26, slot := 6, constantValue := 0 }, { name := "twoToTheDoubleScaleUp", type := .double, accessFlags := 8, slot := 7, constantValue := 0 }, { name := "twoToTheDoubleScaleDown", type := .double, accessFlags := 8, slot := 8, constantValue := 0 }, { name := "$assertionsDisabled", type := .boolean, accessFlags := 4120, slot := 9, constantValue := 0 }]
  methods := #[k2m0, k2m1]
  instanceTypes := #[]
  staticTypes := #[.double, .double, .double, .double, .double, .long, .long, .double, .double, .boolean]
  resolved := Array.replicate 460 none
  statics := none }

def pool3 : Array CpInfo := pool [(1, .methodref 2 3), (0, .class_ 4), (0, .nameAndType 5 6), (0, u "java/lang/Object"), (0, u "<init>"), (0, u "()V"), (0, .fieldref 8 9), (0, .class_ 10), (0, .nameAndType 11 12), (0, u "com/example/fettle/fettle/regex/Counts"), (0, u "oldest"), (0, u "[I"), (0, .fieldref 8 14), (0, .nameAndType 15 12), (0, u "newest"), (0, .fieldref 8 17), (0, .nameAndType 18 19), (0, u "least"), (0, u "I"), (0, .fieldref 8 21), (0, .nameAndType 22 19), (0, u "most"), (0, .fieldref 8 24), (0, .nameAndType 25 19), (0, u "runs"), (0, .fieldref 8 27), (0, .nameAndType 28 29), (0, u "starting"), (0, u "Z"), (0, .methodref 8 31), (0, .nameAndType 32 6), (0, u "addStarted"), (0, .fieldref 8 34), (0, .nameAndType 35 19), (0, u "clock"), (0, .methodref 8 37), (0, .nameAndType 38 39), (0, u "largest"), (0, u "()I"), (2, .methodref 8 43), (0, .nameAndType 44 39), (0, u "secondLargest"), (0, .methodref 8 46), (0, .nameAndType 47 6), (0, u "dropLargest"), (0, .methodref 8 49), (0, .nameAndType 50 51), (0, u "join"), (0, u "(Lcom/example/fettle/fettle/regex/Counts;)V"), (0, .methodref 8 53), (0, .nameAndType 54 55), (0, u "index"), (0, u "(I)I"), (0, .methodref 8 57), (0, .nameAndType 58 59), (0, u "addRun"), (0, u "(II)V"), (0, .methodref 8 61), (0, .nameAndType 62 51), (0, u "takeRunsOf"), (0, .methodref 64 65), (0, .class_ 66), (0, .nameAndType 67 68), (0, u "java/lang/Math"), (0, u "max"), (0, u "(II)I"), (0, .fieldref 8 70), (0, .nameAndType 71 19), (0, u "first"), (2, u "isEmpty"), (0, u "()Z"), (1, u "start"), (0, u "clear"), (0, u "takeInto"), (0, u "(Lcom/example/fettle/fettle/regex/Counts;)Z")] 3

def k3c0 : Code := { maxStack := 2, maxLocals := 3, code := prog_24_method_1_code, exceptionTable := #[], attributes := #[] }
def k3m0 : Method := { name := "<init>", desc := "(II)V", sig := { parameters := [.int, .int], returnType := none }, accessFlags := 0, code := some k3c0 }
def k3c1 : Code := { maxStack := 1, maxLocals := 1, code := prog_24_method_2_code, exceptionTable := #[], attributes := #[] }
def k3m1 : Method := { name := "isEmpty", desc := "()Z", sig := { parameters := [], returnType := some .boolean }, accessFlags := 0, code := some k3c1 }
def k3c2 : Code := { maxStack := 2, maxLocals := 1, code := prog_24_method_3_code, exceptionTable := #[], attributes := #[] }
def k3m2 : Method := { name := "start", desc := "()V", sig := { parameters := [], returnType := none }, accessFlags := 0, code := some k3c2 }
def k3c3 : Code := { maxStack := 2, maxLocals := 1, code := prog_24_method_4_code, exceptionTable := #[], attributes := #[] }
def k3m3 : Method := { name := "clear", desc := "()V", sig := { parameters := [], returnType := none }, accessFlags := 0, code := some k3c3 }
def k3c4 : Code := { maxStack := 3, maxLocals := 3, code := prog_24_method_5_code, exceptionTable := #[], attributes := #[] }
def k3m4 : Method := { name := "takeInto", desc := "(Lcom/example/fettle/fettle/regex/Counts;)Z", sig := { parameters := [(.object "com/example/fettle/fettle/regex/Counts")], returnType := some .boolean }, accessFlags := 0, code := some k3c4 }
def k3c5 : Code := { maxStack := 4, maxLocals := 1, code := prog_24_method_6_code, exceptionTable := #[], attributes := #[] }
def k3m5 : Method := { name := "addStarted", desc := "()V", sig := { parameters := [], returnType := none }, accessFlags := 2, code := some k3c5 }
def k3c6 : Code := { maxStack := 3, maxLocals := 8, code := prog_24_method_7_code, exceptionTable := #[], attributes := #[] }
def k3m6 : Method := { name := "join", desc := "(Lcom/example/fettle/fettle/regex/Counts;)V", sig := { parameters := [(.object "com/example/fettle/fettle/regex/Counts")], returnType := none }, accessFlags := 2, code := some k3c6 }
def k3c7 : Code := { maxStack := 3, maxLocals := 1, code := prog_24_method_8_code, exceptionTable := #[], attributes := #[] }
def k3m7 : Method := { name := "largest", desc := "()I", sig := { parameters := [], returnType := some .int }, accessFlags := 2, code := some k3c7 }
def k3c8 : Code := { maxStack := 4, maxLocals := 1, code := prog_24_method_9_code, exceptionTable := #[], attributes := #[] }
def k3m8 : Method := { name := "secondLargest", desc := "()I", sig := { parameters := [], returnType := some .int }, accessFlags := 2, code := some k3c8 }
def k3c9 : Code := { maxStack := 4, maxLocals := 1, code := prog_24_method_10_code, exceptionTable := #[], attributes := #[] }
def k3m9 : Method := { name := "dropLargest", desc := "()V", sig := { parameters := [], returnType := none }, accessFlags := 2, code := some k3c9 }
def k3c10 : Code := { maxStack := 5, maxLocals := 6, code := prog_24_method_11_code, exceptionTable := #[], attributes := #[] }
def k3m10 : Method := { name := "addRun", desc := "(II)V", sig := { parameters := [.int, .int], returnType := none }, accessFlags := 2, code := some k3c10 }
def k3c11 : Code := { maxStack := 3, maxLocals := 2, code := prog_24_method_12_code, exceptionTable := #[], attributes := #[] }
def k3m11 : Method := { name := "index", desc := "(I)I", sig := { parameters := [.int], returnType := some .int }, accessFlags := 2, code := some k3c11 }
def k3c12 : Code := { maxStack := 2, maxLocals := 5, code := prog_24_method_13_code, exceptionTable := #[], attributes := #[] }
def k3m12 : Method := { name := "takeRunsOf", desc := "(Lcom/example/fettle/fettle/regex/Counts;)V", sig := { parameters := [(.object "com/example/fettle/fettle/regex/Counts")], returnType := none }, accessFlags := 2, code := some k3c12 }
/-- com/example/fettle/fettle/regex/Counts -/
def k3 : Class := { plain "com/example/fettle/fettle/regex/Counts" (some 0) with
  accessFlags := 48
  interfaces := #[]
  cf := some (fileOf pool3 8 #[] #[{ accessFlags := 0, nameIndex := 5, descriptorIndex := 59, attributes := #[] }, { accessFlags := 0, nameIndex := 74, descriptorIndex := 75, attributes := #[] }, { accessFlags := 0, nameIndex := 77, descriptorIndex := 6, attributes := #[] }, { accessFlags := 0, nameIndex := 78, descriptorIndex := 6, attributes := #[] }, { accessFlags := 0, nameIndex := 79, descriptorIndex := 80, attributes := #[] }, { accessFlags := 2, nameIndex := 32, descriptorIndex := 6, attributes := #[] }, { accessFlags := 2, nameIndex := 50, descriptorIndex := 51, attributes := #[] }, { accessFlags := 2, nameIndex := 38, descriptorIndex := 39, attributes := #[] }, { accessFlags := 2, nameIndex := 44, descriptorIndex := 39, attributes := #[] }, { accessFlags := 2, nameIndex := 47, descriptorIndex := 6, attributes := #[] }, { accessFlags := 2, nameIndex := 58, descriptorIndex := 59, attributes := #[] }, { accessFlags := 2, nameIndex := 54, descriptorIndex := 55, attributes := #[] }, { accessFlags := 2, nameIndex := 62, descriptorIndex := 51, attributes := #[] }] 48 2 #[] #[{ accessFlags := 18, nameIndex := 18, descriptorIndex := 19, attributes := #[] }, { accessFlags := 18, nameIndex := 22, descriptorIndex := 19, attributes := #[] }, { accessFlags := 2, nameIndex := 11, descriptorIndex := 12, attributes := #[] }, { accessFlags := 2, nameIndex := 15, descriptorIndex := 12, attributes := #[] }, { accessFlags := 2, nameIndex := 71, descriptorIndex := 19, attributes := #[] }, { accessFlags := 2, nameIndex := 25, descriptorIndex := 19, attributes := #[] }, { accessFlags := 2, nameIndex := 35, descriptorIndex := 19, attributes := #[] }, { accessFlags := 2, nameIndex := 28, descriptorIndex := 29, attributes := #[] }])
  fields := #[{ name := "least", type := .int, accessFlags := 18, slot := 0, constantValue := 0 }, { name := "most", type := .int, accessFlags := 18, slot := 1, constantValue := 0 }, { name := "oldest", type := (.array .int), accessFlags := 2, slot := 2, constantValue := 0 }, { name := "newest", type := (.array .int), accessFlags := 2, slot := 3, constantValue := 0 }, { name := "first", type := .int, accessFlags := 2, slot := 4, constantValue := 0 }, { name := "runs", type := .int, accessFlags := 2, slot := 5, constantValue := 0 }, { name := "clock", type := .int, accessFlags := 2, slot := 6, constantValue := 0 }, { name := "starting", type := .boolean, accessFlags := 2, slot := 7, constantValue := 0 }]
  methods := #[k3m0, k3m1, k3m2, k3m3, k3m4, k3m5, k3m6, k3m7, k3m8, k3m9, k3m10, k3m11, k3m12]
  instanceTypes := #[.int, .int, (.array .int), (.array .int), .int, .int, .int, .boolean]
  staticTypes := #[]
  resolved := Array.replicate 84 none
  statics := none }

def pool4 : Array CpInfo := pool [(1, u "java/lang/Cloneable"), (0, .class_ 1), (0, u "java/lang/Object"), (0, .class_ 3)] 3

/-- java/lang/Cloneable -/
def k4 : Class := { plain "java/lang/Cloneable" (some 0) with
  accessFlags := 1537
  interfaces := #[]
  cf := some (fileOf pool4 2 #[] #[] 1537 4 #[] #[])
  fields := #[]
  methods := #[]
  instanceTypes := #[]
  staticTypes := #[]
  resolved := Array.replicate 8 none
  statics := none }

def pool5 : Array CpInfo := pool [(1, u "java/io/Serializable"), (0, .class_ 1), (0, u "java/lang/Object"), (0, .class_ 3)] 3

/-- java/io/Serializable -/
def k5 : Class := { plain "java/io/Serializable" (some 0) with
  accessFlags := 1537
  interfaces := #[]
  cf := some (fileOf pool5 2 #[] #[] 1537 4 #[] #[])
  fields := #[]
  methods := #[]
  instanceTypes := #[]
  staticTypes := #[]
  resolved := Array.replicate 8 none
  statics := none }

/-- the primitive byte -/
def k6 : Class := { plain "byte" none with kind := .primitive 'B', accessFlags := 0x411 }
/-- [B -/
def k7 : Class := { plain "[B" (some 0) with kind := .array 6 .byte, interfaces := #[4, 5], accessFlags := 1041 }

/-- the primitive int -/
def k8 : Class := { plain "int" none with kind := .primitive 'I', accessFlags := 0x411 }
/-- [I -/
def k9 : Class := { plain "[I" (some 0) with kind := .array 8 .int, interfaces := #[4, 5], accessFlags := 1041 }

def heap : Heap := #[]
def classes : Array Class := #[k0, k1, k2, k3, k4, k5, k6, k7, k8, k9]
def interned : List (Array UInt16 × Addr) := []
def slotsUsed : Nat := 0
def theMethod : MethodId := ⟨1, 1⟩
def args0 : Array Value := #[.int 5, .int 3, .int 2, .int 1]
def aboutOver (below : List Frame) : State where
  vm := { classes := classes, interned := interned.toArray }
  heap := heap
  slotsUsed := slotsUsed
  threads := #[{ frames := .invoking theMethod args0 :: below }]
def below0 : List Frame := [.native { method := ⟨0, 0⟩, args := #[] }]
def about1 : State := aboutOver below0
def p0 : Program := .bare "" "" ""
def e0 : Env := launch0.env 0 0 0
theorem w_frames : about1.frames = Frame.invoking theMethod args0 :: below0 := rfl
set_option maxRecDepth 65536 in
theorem w_args : argsFit about1.vm theMethod args0 = true := by decide +kernel
set_option maxRecDepth 65536 in
theorem w_heap : heapFits about1 = true := by decide +kernel
set_option maxRecDepth 65536 in
theorem w_runnable : about1.curStatus? = some .runnable := by decide +kernel
set_option maxRecDepth 65536 in
theorem w_alone : about1.alone = true := by decide +kernel
set_option maxRecDepth 65536 in
theorem w_named : about1.methodNamed? x = some theMethod := by decide +kernel
set_option maxRecDepth 65536 in
theorem w_hears : about1.hears theMethod below0 = true := by decide +kernel
set_option maxRecDepth 65536 in
theorem w_ripe : about1.ripe theMethod args0 below0 = true := by decide +kernel
theorem w_running : about1.status = .running := rfl
set_option maxRecDepth 65536 in
theorem w_room : about1.hasRoom e0.platform room_1 = true :=
  launch0.hasRoom_least _ room_1 (by decide +kernel) (by decide +kernel) (by decide +kernel) (by decide +kernel) (by decide +kernel) (by decide +kernel)
theorem allAtoms_all (ts : List Jvm.Cond) (a : Array Jvm.Value) (st : Jvm.State) : (allAtoms ts).before a st = ts.all (fun c => c.before a st) := by
  induction ts with
  | nil => rfl
  | cons c t ih =>
    show (Jvm.Cond.and c (allAtoms t)).before a st = _
    rw [Jvm.Cond.before_and, ih, List.all_cons]
def words1 : List Jvm.Cond := Jvm.Cond.code x code maxLocals ret :: tables_1
/-- a 'code' word, met by the world's own term for the bytes: nothing is compared byte by byte -/
theorem code_word {y : MethodName} {bytes : ByteArray} {mx : Nat} {rt : Option FieldType} {a : Array Value} {s : State} {m : MethodId} {meth : Method} {c : Code} (h1 : s.methodNamed? y = some m) (h2 : s.vm.method? m = some meth) (h3 : meth.code = some c) (h4 : c.code = bytes)
    (h5 : (c.maxLocals == mx && c.exceptionTable.isEmpty && decide (c.maxStack ≤ mostOperands) && decide (meth.sig.returnType = rt) && !meth.locks && decide (parseMethodDescriptor y.desc = some meth.sig)) = true) : (Jvm.Cond.code y bytes mx rt).before a s = true := by
  simp only [Bool.and_eq_true, beq_iff_eq, Bool.not_eq_true', decide_eq_true_eq] at h5
  obtain ⟨⟨⟨⟨⟨g1, g2⟩, g3⟩, g4⟩, g5⟩, g6⟩ := h5
  simp [Cond.before, Cond.holds, Cond.value, h1, h2, h3, h4, g1, g2, g3, g4, g5, g6]
def isCode : Jvm.Cond → Bool
  | .code _ _ _ _ => true
  | _ => false
theorem all_split {L : List Jvm.Cond} {P : Jvm.Cond → Bool} (h1 : L.all (fun c => isCode c || P c) = true) (h2 : ∀ c ∈ L.filter isCode, P c = true) : L.all P = true := by
  refine List.all_eq_true.mpr fun c hc => ?_
  have h := List.all_eq_true.mp h1 c hc
  rcases Bool.eq_false_or_eq_true (isCode c) with hi | hi
  · exact h2 c (List.mem_filter.mpr ⟨hc, hi⟩)
  · simpa [hi] using h
set_option maxRecDepth 65536 in
theorem w_c0 : (Jvm.Cond.code x code maxLocals ret).before args0 about1 = true := code_word (m := ⟨1, 1⟩) (meth := k1m1) (c := k1c1) (by decide +kernel) rfl rfl rfl (by decide +kernel)
set_option maxRecDepth 65536 in
theorem w_c1 : (Jvm.Cond.code ({ cls := "java/lang/Math", name := "max", desc := "(II)I" } : Jvm.MethodName) jdk_29_method_65_code (2 : Nat) (Option.some Jvm.ClassFile.FieldType.int)).before args0 about1 = true := code_word (m := ⟨2, 1⟩) (meth := k2m1) (c := k2c1) (by decide +kernel) rfl rfl rfl (by decide +kernel)
set_option maxRecDepth 65536 in
theorem w_c2 : (Jvm.Cond.code ({ cls := "com/example/fettle/fettle/regex/Counts", name := "<init>", desc := "(II)V" } : Jvm.MethodName) prog_24_method_1_code (3 : Nat) (Option.none : Option Jvm.ClassFile.FieldType)).before args0 about1 = true := code_word (m := ⟨3, 0⟩) (meth := k3m0) (c := k3c0) (by decide +kernel) rfl rfl rfl (by decide +kernel)
set_option maxRecDepth 65536 in
theorem w_c3 : (Jvm.Cond.code ({ cls := "java/lang/Object", name := "<init>", desc := "()V" } : Jvm.MethodName) object_method_1_code (1 : Nat) (Option.none : Option Jvm.ClassFile.FieldType)).before args0 about1 = true := code_word (m := ⟨0, 0⟩) (meth := k0m0) (c := k0c0) (by decide +kernel) rfl rfl rfl (by decide +kernel)
set_option maxRecDepth 65536 in
theorem w_c4 : (Jvm.Cond.code ({ cls := "com/example/fettle/fettle/regex/Counts", name := "isEmpty", desc := "()Z" } : Jvm.MethodName) prog_24_method_2_code (1 : Nat) (Option.some Jvm.ClassFile.FieldType.boolean)).before args0 about1 = true := code_word (m := ⟨3, 1⟩) (meth := k3m1) (c := k3c1) (by decide +kernel) rfl rfl rfl (by decide +kernel)
set_option maxRecDepth 65536 in
theorem w_c5 : (Jvm.Cond.code ({ cls := "com/example/fettle/fettle/regex/Counts", name := "start", desc := "()V" } : Jvm.MethodName) prog_24_method_3_code (1 : Nat) (Option.none : Option Jvm.ClassFile.FieldType)).before args0 about1 = true := code_word (m := ⟨3, 2⟩) (meth := k3m2) (c := k3c2) (by decide +kernel) rfl rfl rfl (by decide +kernel)
set_option maxRecDepth 65536 in
theorem w_c6 : (Jvm.Cond.code ({ cls := "com/example/fettle/fettle/regex/Counts", name := "takeInto", desc := "(Lcom/example/fettle/fettle/regex/Counts;)Z" } : Jvm.MethodName) prog_24_method_5_code (3 : Nat) (Option.some Jvm.ClassFile.FieldType.boolean)).before args0 about1 = true := code_word (m := ⟨3, 4⟩) (meth := k3m4) (c := k3c4) (by decide +kernel) rfl rfl rfl (by decide +kernel)
set_option maxRecDepth 65536 in
theorem w_c7 : (Jvm.Cond.code ({ cls := "com/example/fettle/fettle/regex/Counts", name := "addStarted", desc := "()V" } : Jvm.MethodName) prog_24_method_6_code (1 : Nat) (Option.none : Option Jvm.ClassFile.FieldType)).before args0 about1 = true := code_word (m := ⟨3, 5⟩) (meth := k3m5) (c := k3c5) (by decide +kernel) rfl rfl rfl (by decide +kernel)
set_option maxRecDepth 65536 in
theorem w_c8 : (Jvm.Cond.code ({ cls := "com/example/fettle/fettle/regex/Counts", name := "addRun", desc := "(II)V" } : Jvm.MethodName) prog_24_method_11_code (6 : Nat) (Option.none : Option Jvm.ClassFile.FieldType)).before args0 about1 = true := code_word (m := ⟨3, 10⟩) (meth := k3m10) (c := k3c10) (by decide +kernel) rfl rfl rfl (by decide +kernel)
set_option maxRecDepth 65536 in
theorem w_c9 : (Jvm.Cond.code ({ cls := "com/example/fettle/fettle/regex/Counts", name := "index", desc := "(I)I" } : Jvm.MethodName) prog_24_method_12_code (2 : Nat) (Option.some Jvm.ClassFile.FieldType.int)).before args0 about1 = true := code_word (m := ⟨3, 11⟩) (meth := k3m11) (c := k3c11) (by decide +kernel) rfl rfl rfl (by decide +kernel)
set_option maxRecDepth 65536 in
theorem w_c10 : (Jvm.Cond.code ({ cls := "com/example/fettle/fettle/regex/Counts", name := "largest", desc := "()I" } : Jvm.MethodName) prog_24_method_8_code (1 : Nat) (Option.some Jvm.ClassFile.FieldType.int)).before args0 about1 = true := code_word (m := ⟨3, 7⟩) (meth := k3m7) (c := k3c7) (by decide +kernel) rfl rfl rfl (by decide +kernel)
set_option maxRecDepth 65536 in
theorem w_c11 : (Jvm.Cond.code ({ cls := "com/example/fettle/fettle/regex/Counts", name := "secondLargest", desc := "()I" } : Jvm.MethodName) prog_24_method_9_code (1 : Nat) (Option.some Jvm.ClassFile.FieldType.int)).before args0 about1 = true := code_word (m := ⟨3, 8⟩) (meth := k3m8) (c := k3c8) (by decide +kernel) rfl rfl rfl (by decide +kernel)
set_option maxRecDepth 65536 in
theorem w_c12 : (Jvm.Cond.code ({ cls := "com/example/fettle/fettle/regex/Counts", name := "join", desc := "(Lcom/example/fettle/fettle/regex/Counts;)V" } : Jvm.MethodName) prog_24_method_7_code (8 : Nat) (Option.none : Option Jvm.ClassFile.FieldType)).before args0 about1 = true := code_word (m := ⟨3, 6⟩) (meth := k3m6) (c := k3c6) (by decide +kernel) rfl rfl rfl (by decide +kernel)
set_option maxRecDepth 65536 in
theorem w_c13 : (Jvm.Cond.code ({ cls := "com/example/fettle/fettle/regex/Counts", name := "takeRunsOf", desc := "(Lcom/example/fettle/fettle/regex/Counts;)V" } : Jvm.MethodName) prog_24_method_13_code (5 : Nat) (Option.none : Option Jvm.ClassFile.FieldType)).before args0 about1 = true := code_word (m := ⟨3, 12⟩) (meth := k3m12) (c := k3c12) (by decide +kernel) rfl rfl rfl (by decide +kernel)
set_option maxRecDepth 65536 in
theorem w_c14 : (Jvm.Cond.code ({ cls := "com/example/fettle/fettle/regex/Counts", name := "dropLargest", desc := "()V" } : Jvm.MethodName) prog_24_method_10_code (1 : Nat) (Option.none : Option Jvm.ClassFile.FieldType)).before args0 about1 = true := code_word (m := ⟨3, 9⟩) (meth := k3m9) (c := k3c9) (by decide +kernel) rfl rfl rfl (by decide +kernel)
set_option maxRecDepth 65536 in
theorem w_c15 : (Jvm.Cond.code ({ cls := "com/example/fettle/fettle/regex/Counts", name := "clear", desc := "()V" } : Jvm.MethodName) prog_24_method_4_code (1 : Nat) (Option.none : Option Jvm.ClassFile.FieldType)).before args0 about1 = true := code_word (m := ⟨3, 3⟩) (meth := k3m3) (c := k3c3) (by decide +kernel) rfl rfl rfl (by decide +kernel)
def codes1 : List Jvm.Cond := [Jvm.Cond.code x code maxLocals ret, Jvm.Cond.code ({ cls := "java/lang/Math", name := "max", desc := "(II)I" } : Jvm.MethodName) jdk_29_method_65_code (2 : Nat) (Option.some Jvm.ClassFile.FieldType.int), Jvm.Cond.code ({ cls := "com/example/fettle/fettle/regex/Counts", name := "<init>", desc := "(II)V" } : Jvm.MethodName) prog_24_method_1_code (3 : Nat) (Option.none : Option Jvm.ClassFile.FieldType), Jvm.Cond.code ({ cls := "java/lang/Object", name := "<init>", desc := "()V" } : Jvm.MethodName) object_method_1_code (1 : Nat) (Option.none : Option Jvm.ClassFile.FieldType), Jvm.Cond.code ({ cls := "com/example/fettle/fettle/regex/Counts", name := "isEmpty", desc := "()Z" } : Jvm.MethodName) prog_24_method_2_code (1 : Nat) (Option.some Jvm.ClassFile.FieldType.boolean), Jvm.Cond.code ({ cls := "com/example/fettle/fettle/regex/Counts", name := "start", desc := "()V" } : Jvm.MethodName) prog_24_method_3_code (1 : Nat) (Option.none : Option Jvm.ClassFile.FieldType), Jvm.Cond.code ({ cls := "com/example/fettle/fettle/regex/Counts", name := "takeInto", desc := "(Lcom/example/fettle/fettle/regex/Counts;)Z" } : Jvm.MethodName) prog_24_method_5_code (3 : Nat) (Option.some Jvm.ClassFile.FieldType.boolean), Jvm.Cond.code ({ cls := "com/example/fettle/fettle/regex/Counts", name := "addStarted", desc := "()V" } : Jvm.MethodName) prog_24_method_6_code (1 : Nat) (Option.none : Option Jvm.ClassFile.FieldType), Jvm.Cond.code ({ cls := "com/example/fettle/fettle/regex/Counts", name := "addRun", desc := "(II)V" } : Jvm.MethodName) prog_24_method_11_code (6 : Nat) (Option.none : Option Jvm.ClassFile.FieldType), Jvm.Cond.code ({ cls := "com/example/fettle/fettle/regex/Counts", name := "index", desc := "(I)I" } : Jvm.MethodName) prog_24_method_12_code (2 : Nat) (Option.some Jvm.ClassFile.FieldType.int), Jvm.Cond.code ({ cls := "com/example/fettle/fettle/regex/Counts", name := "largest", desc := "()I" } : Jvm.MethodName) prog_24_method_8_code (1 : Nat) (Option.some Jvm.ClassFile.FieldType.int), Jvm.Cond.code ({ cls := "com/example/fettle/fettle/regex/Counts", name := "secondLargest", desc := "()I" } : Jvm.MethodName) prog_24_method_9_code (1 : Nat) (Option.some Jvm.ClassFile.FieldType.int), Jvm.Cond.code ({ cls := "com/example/fettle/fettle/regex/Counts", name := "join", desc := "(Lcom/example/fettle/fettle/regex/Counts;)V" } : Jvm.MethodName) prog_24_method_7_code (8 : Nat) (Option.none : Option Jvm.ClassFile.FieldType), Jvm.Cond.code ({ cls := "com/example/fettle/fettle/regex/Counts", name := "takeRunsOf", desc := "(Lcom/example/fettle/fettle/regex/Counts;)V" } : Jvm.MethodName) prog_24_method_13_code (5 : Nat) (Option.none : Option Jvm.ClassFile.FieldType), Jvm.Cond.code ({ cls := "com/example/fettle/fettle/regex/Counts", name := "dropLargest", desc := "()V" } : Jvm.MethodName) prog_24_method_10_code (1 : Nat) (Option.none : Option Jvm.ClassFile.FieldType), Jvm.Cond.code ({ cls := "com/example/fettle/fettle/regex/Counts", name := "clear", desc := "()V" } : Jvm.MethodName) prog_24_method_4_code (1 : Nat) (Option.none : Option Jvm.ClassFile.FieldType)]
set_option maxRecDepth 65536 in
theorem codes_eq : words1.filter isCode = codes1 := rfl
theorem w_codes : ∀ c ∈ words1.filter isCode, c.before args0 about1 = true := by
  rw [codes_eq]
  intro c hc
  simp only [codes1, List.mem_cons, List.not_mem_nil, or_false] at hc
  rcases hc with rfl | rfl | rfl | rfl | rfl | rfl | rfl | rfl | rfl | rfl | rfl | rfl | rfl | rfl | rfl | rfl
  · exact w_c0
  · exact w_c1
  · exact w_c2
  · exact w_c3
  · exact w_c4
  · exact w_c5
  · exact w_c6
  · exact w_c7
  · exact w_c8
  · exact w_c9
  · exact w_c10
  · exact w_c11
  · exact w_c12
  · exact w_c13
  · exact w_c14
  · exact w_c15
set_option maxRecDepth 65536 in
theorem w_t1 : (words1.take 24).all (fun c => isCode c || c.before args0 about1) = true := by decide +kernel
set_option maxRecDepth 65536 in
theorem w_t2 : ((words1.drop 24).take 24).all (fun c => isCode c || c.before args0 about1) = true := by decide +kernel
set_option maxRecDepth 65536 in
theorem w_t3 : (((words1.drop 24).drop 24).take 24).all (fun c => isCode c || c.before args0 about1) = true := by decide +kernel
set_option maxRecDepth 65536 in
theorem w_t4 : (((words1.drop 24).drop 24).drop 24).all (fun c => isCode c || c.before args0 about1) = true := by decide +kernel
theorem w_tables : (allAtoms (Jvm.Cond.code x code maxLocals ret :: tables_1)).before args0 about1 = true := by
  rw [allAtoms_all]
  show words1.all (fun c => c.before args0 about1) = true
  refine all_split ?_ w_codes
  rw [← List.take_append_drop 24 words1, List.all_append, w_t1, ← List.take_append_drop 24 (words1.drop 24), List.all_append, w_t2, ← List.take_append_drop 24 ((words1.drop 24).drop 24), List.all_append, w_t3, w_t4]
  rfl
set_option maxRecDepth 65536 in
theorem w_case : (Jvm.Cond.and given_1 narrow_1).before args0 about1 = true := by decide +kernel
theorem w_applies : (headSpec (Jvm.Cond.code x code maxLocals ret :: tables_1) room_1).applies x e0.platform about1 = true :=
  (Spec.applies_iff w_frames).mpr ⟨w_running, w_runnable, w_alone, w_named, w_hears, w_ripe, w_room, w_tables⟩
theorem atStart : AtStart classFile x code maxLocals ret World_1 tables_1 room_1 Calls_1 rest_1 Pre_1 launch0 p0 e0 about1 theMethod args0 below0 :=
  ⟨lists_1, trivial, launch0.admits_env _ _ _, launch0.least_env, fairChoices_fair.cas, fairChoices_fair.clock, w_frames, w_args, w_heap, w_applies, trivial, trivial, w_case⟩
end start1
theorem witness_1 : WitnessClaimed_1 := ⟨start1.p0, start1.e0, start1.about1, start1.theMethod, start1.args0, start1.below0, start1.atStart⟩
end Jvm.Pilot.@@N@@
