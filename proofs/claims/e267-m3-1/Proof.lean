import JvmDerived
import JvmDerived.Pilot.@@N@@Statement
import JvmDerived.Pilot.@@N@@Code
set_option linter.unusedVariables false
set_option linter.unusedSimpArgs false
namespace Jvm.RoadKit
open Sem ClassFile Op Lib Jvm.Stand Jvm.Free Jvm.LawKit
section New
variable {p : Program} {l : Launch} {e : Env} {R : Room} {s : State} {m : MethodId} {args : Array Value} {below : List Frame} {meth : Method} {c : Code} {T : State} {locs : List Loc} {cells slots : Nat}
theorem retI (X : Stand p l e R s m args below meth c T locs cells slots) (hx : p.tables.exec = Jvm.exec) {pc : Nat} {Ls : Array Slot} {z : Int32} {rest : List Value} (hret : meth.sig.returnType = some .int) (hd : decode c.code pc = .ok (.ireturn, 1)) {fs : List Frame}
    (hl : ∀ (f : JFrame) (acts : List Action), f.method = m → f.locked = none → f.entered = [] → (doReturn e (T.setTop f) acts (some (.int z))).1 = T.setFrames fs) : Steps p.tables e below (T.setTop (mkF m pc Ls (.int z :: rest))) (T.setFrames fs) := by
  have hm' : T.vm.method? m = some meth := X.method'
  have hn : narrow .int (.int z) = .int z := rfl
  show Steps p.tables e below (T.setTop { method := m, pc := pc, locals := Ls, stack := _ :: rest, locked := none }) _
  jvm_step X.here [X.here.top, hx, hd, hm', hret, hn]
  first | (intro acts; rw [hl _ acts rfl rfl rfl]) | rw [hl _ _ rfl rfl rfl]
  exact Steps.refl _
end New
end Jvm.RoadKit
namespace Jvm.Pilot.@@N@@
open Jvm Jvm.ClassFile Sem Op Lib Jvm.Free Jvm.Stand Jvm.LawKit Jvm.RoadKit Bundle Jvm.Pilot.@@N@@.Jvm.D
theorem own_stJ {p : Program} {l : Launch} {e : Env} {R : Room} {s : State} {m : MethodId} {args : Array Value} {below : List Frame} {meth : Method} {c : Code} {T : State} {locs : List Loc} {cells slots : Nat} {Z : State} {h : Heap} {a : Addr} {k : ClassId} {z : Int32} {vs : List Value} {dv : Value}
    (X : Stand p l e R s m args below meth c T locs cells slots) (hx : p.tables.exec = Jvm.exec) (hZ : Z.Warmed39 s.vm) (eT : T.heap = h) (V : Arv Z h a k .long z vs dv) {j : Int32} (i : Nat) (hj : j.toNatClampNeg = i) (hb : ¬ j < 0 ∧ j < z) (hi : i < vs.length) {x : Int64} {g : JFrame} (hg : g.method = m) {rest : List Value} (hs : g.stack = .long x :: .int j :: .ref a :: rest) (hd : decode c.code g.pc = .ok (.lastore, 1)) :
    ∃ T' h', Stand p l e R s m args below meth c T' (locs ++ [⟨a, j.toNatClampNeg⟩]) cells slots ∧ T'.heap = h' ∧ Wr h h' a j.toNatClampNeg (.long x) ∧ Arv Z h' a k .long z (vs.set i (.long x)) dv ∧ ∀ target, Steps p.tables e below (T'.setTop { g with pc := g.pc + 1, stack := rest }) target → Steps p.tables e below (T.setTop g) target := by
  obtain ⟨cl, Ar, q, S, M, H, G⟩ := V
  obtain ⟨T', h', X', e', W, st⟩ := Jvm.RoadKit.stJ X hx hZ eT Ar (j := j) (inb_of S hb) hg hs hd
  exact ⟨T', h', X', e', W, Arv.set Ar q S M H G rfl W i hj hi, st⟩
theorem own_ldJ {p : Program} {l : Launch} {e : Env} {R : Room} {s : State} {m : MethodId} {args : Array Value} {below : List Frame} {meth : Method} {c : Code} {T : State} {locs : List Loc} {cells slots : Nat} {Z : State} {h : Heap} {a : Addr} {k : ClassId} {z : Int32} {vs : List Value} {dv : Value}
    (X : Stand p l e R s m args below meth c T locs cells slots) (hx : p.tables.exec = Jvm.exec) (hZ : Z.Warmed39 s.vm) (eT : T.heap = h) (V : Arv Z h a k .long z vs dv) {j : Int32} (hb : ¬ j < 0 ∧ j < z) {g : JFrame} (hg : g.method = m) {rest : List Value} (hs : g.stack = .int j :: .ref a :: rest) (hd : decode c.code g.pc = .ok (.laload, 1)) :
    ∃ w, vs.getD j.toNatClampNeg dv = .long w ∧ ∀ target, Steps p.tables e below (T.setTop { g with pc := g.pc + 1, stack := .long w :: rest }) target → Steps p.tables e below (T.setTop g) target := by
  obtain ⟨cl, Ar, q, S, M, H, G⟩ := V
  have hin := inb_of S hb
  have hlt : j.toNatClampNeg < cl.slots.size := Nat.lt_of_not_le fun q => hin (Or.inr q)
  obtain ⟨w, hw⟩ := fit_J (G _ hlt)
  exact ⟨w, hw, X.laload hx (j := j) (v := .long w) (by rw [eT]; exact Ar.1) (State.isArrayOf_alike hZ.alike Ar.2.1) Ar.2.2 hin (by rw [H _ hlt, hw]) hg hs hd⟩
theorem d2_0 : decode method_3_code 0 = .ok (.iload_n 0, 1) := by decide +kernel
theorem d2_1 : decode method_3_code 1 = .ok (.ifCond .eq 10, 3) := by decide +kernel
theorem d2_4 : decode method_3_code 4 = .ok (.iload_n 0, 1) := by decide +kernel
theorem d2_5 : decode method_3_code 5 = .ok (.bipush 100, 2) := by decide +kernel
theorem d2_7 : decode method_3_code 7 = .ok (.irem, 1) := by decide +kernel
theorem d2_8 : decode method_3_code 8 = .ok (.ifCond .eq 8, 3) := by decide +kernel
theorem d2_11 : decode method_3_code 11 = .ok (.iload_n 0, 1) := by decide +kernel
theorem d2_12 : decode method_3_code 12 = .ok (.i2l, 1) := by decide +kernel
theorem d2_13 : decode method_3_code 13 = .ok (.iconst 3, 1) := by decide +kernel
theorem d2_14 : decode method_3_code 14 = .ok (.lshl, 1) := by decide +kernel
theorem d2_15 : decode method_3_code 15 = .ok (.lreturn, 1) := by decide +kernel
theorem d2_16 : decode method_3_code 16 = .ok (.iload_n 0, 1) := by decide +kernel
theorem d2_17 : decode method_3_code 17 = .ok (.ldc 37, 2) := by decide +kernel
theorem d2_19 : decode method_3_code 19 = .ok (.irem, 1) := by decide +kernel
theorem d2_20 : decode method_3_code 20 = .ok (.ifCond .ne 15, 3) := by decide +kernel
theorem d2_23 : decode method_3_code 23 = .ok (.iload_n 0, 1) := by decide +kernel
theorem d2_24 : decode method_3_code 24 = .ok (.ldc 37, 2) := by decide +kernel
theorem d2_26 : decode method_3_code 26 = .ok (.idiv, 1) := by decide +kernel
theorem d2_27 : decode method_3_code 27 = .ok (.i2l, 1) := by decide +kernel
theorem d2_28 : decode method_3_code 28 = .ok (.iconst 3, 1) := by decide +kernel
theorem d2_29 : decode method_3_code 29 = .ok (.lshl, 1) := by decide +kernel
theorem d2_30 : decode method_3_code 30 = .ok (.ldc2_w 38, 3) := by decide +kernel
theorem d2_33 : decode method_3_code 33 = .ok (.lor, 1) := by decide +kernel
theorem d2_34 : decode method_3_code 34 = .ok (.lreturn, 1) := by decide +kernel
theorem d2_35 : decode method_3_code 35 = .ok (.iload_n 0, 1) := by decide +kernel
theorem d2_36 : decode method_3_code 36 = .ok (.ldc 40, 2) := by decide +kernel
theorem d2_38 : decode method_3_code 38 = .ok (.irem, 1) := by decide +kernel
theorem d2_39 : decode method_3_code 39 = .ok (.ifCond .ne 15, 3) := by decide +kernel
theorem d2_42 : decode method_3_code 42 = .ok (.iload_n 0, 1) := by decide +kernel
theorem d2_43 : decode method_3_code 43 = .ok (.ldc 40, 2) := by decide +kernel
theorem d2_45 : decode method_3_code 45 = .ok (.idiv, 1) := by decide +kernel
theorem d2_46 : decode method_3_code 46 = .ok (.i2l, 1) := by decide +kernel
theorem d2_47 : decode method_3_code 47 = .ok (.iconst 3, 1) := by decide +kernel
theorem d2_48 : decode method_3_code 48 = .ok (.lshl, 1) := by decide +kernel
theorem d2_49 : decode method_3_code 49 = .ok (.ldc2_w 41, 3) := by decide +kernel
theorem d2_52 : decode method_3_code 52 = .ok (.lor, 1) := by decide +kernel
theorem d2_53 : decode method_3_code 53 = .ok (.lreturn, 1) := by decide +kernel
theorem d2_54 : decode method_3_code 54 = .ok (.iload_n 0, 1) := by decide +kernel
theorem d2_55 : decode method_3_code 55 = .ok (.ldc 43, 2) := by decide +kernel
theorem d2_57 : decode method_3_code 57 = .ok (.irem, 1) := by decide +kernel
theorem d2_58 : decode method_3_code 58 = .ok (.ifCond .ne 15, 3) := by decide +kernel
theorem d2_61 : decode method_3_code 61 = .ok (.iload_n 0, 1) := by decide +kernel
theorem d2_62 : decode method_3_code 62 = .ok (.ldc 43, 2) := by decide +kernel
theorem d2_64 : decode method_3_code 64 = .ok (.idiv, 1) := by decide +kernel
theorem d2_65 : decode method_3_code 65 = .ok (.i2l, 1) := by decide +kernel
theorem d2_66 : decode method_3_code 66 = .ok (.iconst 3, 1) := by decide +kernel
theorem d2_67 : decode method_3_code 67 = .ok (.lshl, 1) := by decide +kernel
theorem d2_68 : decode method_3_code 68 = .ok (.ldc2_w 44, 3) := by decide +kernel
theorem d2_71 : decode method_3_code 71 = .ok (.lor, 1) := by decide +kernel
theorem d2_72 : decode method_3_code 72 = .ok (.lreturn, 1) := by decide +kernel
theorem d2_73 : decode method_3_code 73 = .ok (.iload_n 0, 1) := by decide +kernel
theorem d2_74 : decode method_3_code 74 = .ok (.ldc 46, 2) := by decide +kernel
theorem d2_76 : decode method_3_code 76 = .ok (.irem, 1) := by decide +kernel
theorem d2_77 : decode method_3_code 77 = .ok (.ifCond .ne 15, 3) := by decide +kernel
theorem d2_80 : decode method_3_code 80 = .ok (.iload_n 0, 1) := by decide +kernel
theorem d2_81 : decode method_3_code 81 = .ok (.ldc 46, 2) := by decide +kernel
theorem d2_83 : decode method_3_code 83 = .ok (.idiv, 1) := by decide +kernel
theorem d2_84 : decode method_3_code 84 = .ok (.i2l, 1) := by decide +kernel
theorem d2_85 : decode method_3_code 85 = .ok (.iconst 3, 1) := by decide +kernel
theorem d2_86 : decode method_3_code 86 = .ok (.lshl, 1) := by decide +kernel
theorem d2_87 : decode method_3_code 87 = .ok (.ldc2_w 47, 3) := by decide +kernel
theorem d2_90 : decode method_3_code 90 = .ok (.lor, 1) := by decide +kernel
theorem d2_91 : decode method_3_code 91 = .ok (.lreturn, 1) := by decide +kernel
theorem d2_92 : decode method_3_code 92 = .ok (.iload_n 0, 1) := by decide +kernel
theorem d2_93 : decode method_3_code 93 = .ok (.sipush 10000, 3) := by decide +kernel
theorem d2_96 : decode method_3_code 96 = .ok (.irem, 1) := by decide +kernel
theorem d2_97 : decode method_3_code 97 = .ok (.ifCond .ne 16, 3) := by decide +kernel
theorem d2_100 : decode method_3_code 100 = .ok (.iload_n 0, 1) := by decide +kernel
theorem d2_101 : decode method_3_code 101 = .ok (.sipush 10000, 3) := by decide +kernel
theorem d2_104 : decode method_3_code 104 = .ok (.idiv, 1) := by decide +kernel
theorem d2_105 : decode method_3_code 105 = .ok (.i2l, 1) := by decide +kernel
theorem d2_106 : decode method_3_code 106 = .ok (.iconst 3, 1) := by decide +kernel
theorem d2_107 : decode method_3_code 107 = .ok (.lshl, 1) := by decide +kernel
theorem d2_108 : decode method_3_code 108 = .ok (.ldc2_w 49, 3) := by decide +kernel
theorem d2_111 : decode method_3_code 111 = .ok (.lor, 1) := by decide +kernel
theorem d2_112 : decode method_3_code 112 = .ok (.lreturn, 1) := by decide +kernel
theorem d2_113 : decode method_3_code 113 = .ok (.iload_n 0, 1) := by decide +kernel
theorem d2_114 : decode method_3_code 114 = .ok (.sipush 1000, 3) := by decide +kernel
theorem d2_117 : decode method_3_code 117 = .ok (.irem, 1) := by decide +kernel
theorem d2_118 : decode method_3_code 118 = .ok (.ifCond .ne 16, 3) := by decide +kernel
theorem d2_121 : decode method_3_code 121 = .ok (.iload_n 0, 1) := by decide +kernel
theorem d2_122 : decode method_3_code 122 = .ok (.sipush 1000, 3) := by decide +kernel
theorem d2_125 : decode method_3_code 125 = .ok (.idiv, 1) := by decide +kernel
theorem d2_126 : decode method_3_code 126 = .ok (.i2l, 1) := by decide +kernel
theorem d2_127 : decode method_3_code 127 = .ok (.iconst 3, 1) := by decide +kernel
theorem d2_128 : decode method_3_code 128 = .ok (.lshl, 1) := by decide +kernel
theorem d2_129 : decode method_3_code 129 = .ok (.ldc2_w 51, 3) := by decide +kernel
theorem d2_132 : decode method_3_code 132 = .ok (.lor, 1) := by decide +kernel
theorem d2_133 : decode method_3_code 133 = .ok (.lreturn, 1) := by decide +kernel
theorem d2_134 : decode method_3_code 134 = .ok (.iload_n 0, 1) := by decide +kernel
theorem d2_135 : decode method_3_code 135 = .ok (.bipush 100, 2) := by decide +kernel
theorem d2_137 : decode method_3_code 137 = .ok (.idiv, 1) := by decide +kernel
theorem d2_138 : decode method_3_code 138 = .ok (.i2l, 1) := by decide +kernel
theorem d2_139 : decode method_3_code 139 = .ok (.iconst 3, 1) := by decide +kernel
theorem d2_140 : decode method_3_code 140 = .ok (.lshl, 1) := by decide +kernel
theorem d2_141 : decode method_3_code 141 = .ok (.lconst 1, 1) := by decide +kernel
theorem d2_142 : decode method_3_code 142 = .ok (.lor, 1) := by decide +kernel
theorem d2_143 : decode method_3_code 143 = .ok (.lreturn, 1) := by decide +kernel
def own_f2_11 (p1 : Int32) : Int64 := ((p1.toInt64) <<< ((3 : Int32) &&& 0x3f).toInt64)
set_option maxRecDepth 65536 in
set_option maxHeartbeats 4000000 in
theorem own_b2_11 {p : Program} {l : Launch} {e : Env} {R : Room} {s : State} {m : MethodId} {args : Array Value} {below : List Frame} {meth : Method} {c : Code} {T : State} {locs : List Loc} {cells slots : Nat} {Z : State} {a0 : Array Value} (X : Stand p l e R s m args below meth c T locs cells slots) (hx : p.tables.exec = Jvm.exec) (hby : c.code = method_3_code) (hown : s.vm.findClass "com/example/bitrun/bitrun/orc/timestamp/TimestampLayoutSecondaryNumberPinLaw" = some m.cls) (hZ : Z.Warmed39 s.vm) (hw : ∀ d ∈ tables_1, d.before a0 Z = true) (hret : meth.sig.returnType = some .long) (p1 : Int32) (v : Int64) (hv : own_f2_11 p1 = v) {fs : List Frame} (hr : ∀ (f : JFrame) (acts : List Action), f.method = m → f.locked = none → f.entered = [] → (doReturn e (T.setTop f) acts (some (.long v))).1 = T.setFrames fs) :
    Steps p.tables e below (T.setTop (mkF m 11 #[.val (.int p1)] [])) (T.setFrames fs) := by
  unfold own_f2_11 at hv
  show Steps p.tables e below (T.setTop (mkF m 11 #[.val (.int p1)] [])) _
  refine XS.iloadN X.here hx rfl (hb hby d2_11) rfl ?_
  show Steps p.tables e below (T.setTop (mkF m 12 #[.val (.int p1)] [(.int p1)])) _
  refine XS.i2l X.here hx rfl (hb hby d2_12) rfl ?_
  show Steps p.tables e below (T.setTop (mkF m 13 #[.val (.int p1)] [(.long (p1.toInt64))])) _
  refine XS.iconst X.here hx rfl (hb hby d2_13) ?_
  show Steps p.tables e below (T.setTop (mkF m 14 #[.val (.int p1)] [(.int (3 : Int32)), (.long (p1.toInt64))])) _
  refine XS.lshl X.here hx rfl (hb hby d2_14) rfl ?_
  show Steps p.tables e below (T.setTop (mkF m 15 #[.val (.int p1)] [(.long ((p1.toInt64) <<< ((3 : Int32) &&& 0x3f).toInt64))])) _
  subst hv
  exact X.lreturnOut hx hret (hb hby d2_15) hr
def own_f2_0 (p1 : Int32) : Int64 := (if p1 = (0 : Int32) then own_f2_11 p1 else (if (p1 % (100 : Int32)) = (0 : Int32) then (if (p1 % (100000000 : Int32)) = (0 : Int32) then ((((p1 / (100000000 : Int32)).toInt64) <<< ((3 : Int32) &&& 0x3f).toInt64) ||| (7 : Int64)) else (if (p1 % (10000000 : Int32)) = (0 : Int32) then ((((p1 / (10000000 : Int32)).toInt64) <<< ((3 : Int32) &&& 0x3f).toInt64) ||| (6 : Int64)) else (if (p1 % (1000000 : Int32)) = (0 : Int32) then ((((p1 / (1000000 : Int32)).toInt64) <<< ((3 : Int32) &&& 0x3f).toInt64) ||| (5 : Int64)) else (if (p1 % (100000 : Int32)) = (0 : Int32) then ((((p1 / (100000 : Int32)).toInt64) <<< ((3 : Int32) &&& 0x3f).toInt64) ||| (4 : Int64)) else (if (p1 % (10000 : Int32)) = (0 : Int32) then ((((p1 / (10000 : Int32)).toInt64) <<< ((3 : Int32) &&& 0x3f).toInt64) ||| (3 : Int64)) else (if (p1 % (1000 : Int32)) = (0 : Int32) then ((((p1 / (1000 : Int32)).toInt64) <<< ((3 : Int32) &&& 0x3f).toInt64) ||| (2 : Int64)) else ((((p1 / (100 : Int32)).toInt64) <<< ((3 : Int32) &&& 0x3f).toInt64) ||| (1 : Int64)))))))) else own_f2_11 p1))
set_option maxRecDepth 65536 in
set_option maxHeartbeats 4000000 in
theorem own_b2_0 {p : Program} {l : Launch} {e : Env} {R : Room} {s : State} {m : MethodId} {args : Array Value} {below : List Frame} {meth : Method} {c : Code} {T : State} {locs : List Loc} {cells slots : Nat} {Z : State} {a0 : Array Value} (X : Stand p l e R s m args below meth c T locs cells slots) (hx : p.tables.exec = Jvm.exec) (hby : c.code = method_3_code) (hown : s.vm.findClass "com/example/bitrun/bitrun/orc/timestamp/TimestampLayoutSecondaryNumberPinLaw" = some m.cls) (hZ : Z.Warmed39 s.vm) (hw : ∀ d ∈ tables_1, d.before a0 Z = true) (hret : meth.sig.returnType = some .long) (p1 : Int32) (v : Int64) (hv : own_f2_0 p1 = v) {fs : List Frame} (hr : ∀ (f : JFrame) (acts : List Action), f.method = m → f.locked = none → f.entered = [] → (doReturn e (T.setTop f) acts (some (.long v))).1 = T.setFrames fs) :
    Steps p.tables e below (T.setTop (mkF m 0 #[.val (.int p1)] [])) (T.setFrames fs) := by
  unfold own_f2_0 at hv
  show Steps p.tables e below (T.setTop (mkF m 0 #[.val (.int p1)] [])) _
  refine XS.iloadN X.here hx rfl (hb hby d2_0) rfl ?_
  show Steps p.tables e below (T.setTop (mkF m 1 #[.val (.int p1)] [(.int p1)])) _
  by_cases hc1 : p1 = (0 : Int32)
  · rw [if_pos hc1] at hv
    refine XS.ifYes X.here hx rfl (pc0 := 1) (pc' := 11) rfl (hb hby d2_1) rfl ((if0 _ _).trans (teq hc1).1) (by decide) (by decide) ?_
    show Steps p.tables e below (T.setTop (mkF m 11 #[.val (.int p1)] [])) _
    exact own_b2_11 X hx hby hown hZ hw hret p1 v hv hr
  · rw [if_neg hc1] at hv
    refine XS.ifNo X.here hx rfl (hb hby d2_1) rfl ((if0 _ _).trans (feq hc1).1) ?_
    show Steps p.tables e below (T.setTop (mkF m 4 #[.val (.int p1)] [])) _
    refine XS.iloadN X.here hx rfl (hb hby d2_4) rfl ?_
    show Steps p.tables e below (T.setTop (mkF m 5 #[.val (.int p1)] [(.int p1)])) _
    refine XS.bipush X.here hx rfl (hb hby d2_5) ?_
    show Steps p.tables e below (T.setTop (mkF m 7 #[.val (.int p1)] [(.int (100 : Int32)), (.int p1)])) _
    refine XS.irem X.here hx rfl (hb hby d2_7) rfl (by decide) ?_
    rw [Jvm.irem_eq_mod p1 (100 : Int32)]
    show Steps p.tables e below (T.setTop (mkF m 8 #[.val (.int p1)] [(.int (p1 % (100 : Int32)))])) _
    by_cases hc8 : (p1 % (100 : Int32)) = (0 : Int32)
    · rw [if_pos hc8] at hv
      refine XS.ifYes X.here hx rfl (pc0 := 8) (pc' := 16) rfl (hb hby d2_8) rfl ((if0 _ _).trans (teq hc8).1) (by decide) (by decide) ?_
      show Steps p.tables e below (T.setTop (mkF m 16 #[.val (.int p1)] [])) _
      refine XS.iloadN X.here hx rfl (hb hby d2_16) rfl ?_
      show Steps p.tables e below (T.setTop (mkF m 17 #[.val (.int p1)] [(.int p1)])) _
      refine X.ldcInt hx hown (mvT hZ (hw _ (List.mem_of_getElem? (i := 19) rfl))) (g := (mkF m 17 #[.val (.int p1)] [(.int p1)])) rfl (hb hby d2_17) _ ?_
      show Steps p.tables e below (T.setTop (mkF m 19 #[.val (.int p1)] [(.int (100000000 : Int32)), (.int p1)])) _
      refine XS.irem X.here hx rfl (hb hby d2_19) rfl (by decide) ?_
      rw [Jvm.irem_eq_mod p1 (100000000 : Int32)]
      show Steps p.tables e below (T.setTop (mkF m 20 #[.val (.int p1)] [(.int (p1 % (100000000 : Int32)))])) _
      by_cases hc20 : (p1 % (100000000 : Int32)) = (0 : Int32)
      · rw [if_pos hc20] at hv
        refine XS.ifNo X.here hx rfl (hb hby d2_20) rfl ((if0 _ _).trans (teq hc20).2) ?_
        show Steps p.tables e below (T.setTop (mkF m 23 #[.val (.int p1)] [])) _
        refine XS.iloadN X.here hx rfl (hb hby d2_23) rfl ?_
        show Steps p.tables e below (T.setTop (mkF m 24 #[.val (.int p1)] [(.int p1)])) _
        refine X.ldcInt hx hown (mvT hZ (hw _ (List.mem_of_getElem? (i := 19) rfl))) (g := (mkF m 24 #[.val (.int p1)] [(.int p1)])) rfl (hb hby d2_24) _ ?_
        show Steps p.tables e below (T.setTop (mkF m 26 #[.val (.int p1)] [(.int (100000000 : Int32)), (.int p1)])) _
        refine XS.idiv X.here hx rfl (hb hby d2_26) rfl (by decide) ?_
        show Steps p.tables e below (T.setTop (mkF m 27 #[.val (.int p1)] [(.int (p1 / (100000000 : Int32)))])) _
        refine XS.i2l X.here hx rfl (hb hby d2_27) rfl ?_
        show Steps p.tables e below (T.setTop (mkF m 28 #[.val (.int p1)] [(.long ((p1 / (100000000 : Int32)).toInt64))])) _
        refine XS.iconst X.here hx rfl (hb hby d2_28) ?_
        show Steps p.tables e below (T.setTop (mkF m 29 #[.val (.int p1)] [(.int (3 : Int32)), (.long ((p1 / (100000000 : Int32)).toInt64))])) _
        refine XS.lshl X.here hx rfl (hb hby d2_29) rfl ?_
        show Steps p.tables e below (T.setTop (mkF m 30 #[.val (.int p1)] [(.long (((p1 / (100000000 : Int32)).toInt64) <<< ((3 : Int32) &&& 0x3f).toInt64))])) _
        refine X.ldc2Long hx hown (mvT hZ (hw _ (List.mem_of_getElem? (i := 26) rfl))) (g := (mkF m 30 #[.val (.int p1)] [(.long (((p1 / (100000000 : Int32)).toInt64) <<< ((3 : Int32) &&& 0x3f).toInt64))])) rfl (hb hby d2_30) _ ?_
        show Steps p.tables e below (T.setTop (mkF m 33 #[.val (.int p1)] [(.long (7 : Int64)), (.long (((p1 / (100000000 : Int32)).toInt64) <<< ((3 : Int32) &&& 0x3f).toInt64))])) _
        refine XS.lor X.here hx rfl (hb hby d2_33) rfl ?_
        show Steps p.tables e below (T.setTop (mkF m 34 #[.val (.int p1)] [(.long ((((p1 / (100000000 : Int32)).toInt64) <<< ((3 : Int32) &&& 0x3f).toInt64) ||| (7 : Int64)))])) _
        subst hv
        exact X.lreturnOut hx hret (hb hby d2_34) hr
      · rw [if_neg hc20] at hv
        refine XS.ifYes X.here hx rfl (pc0 := 20) (pc' := 35) rfl (hb hby d2_20) rfl ((if0 _ _).trans (feq hc20).2) (by decide) (by decide) ?_
        show Steps p.tables e below (T.setTop (mkF m 35 #[.val (.int p1)] [])) _
        refine XS.iloadN X.here hx rfl (hb hby d2_35) rfl ?_
        show Steps p.tables e below (T.setTop (mkF m 36 #[.val (.int p1)] [(.int p1)])) _
        refine X.ldcInt hx hown (mvT hZ (hw _ (List.mem_of_getElem? (i := 20) rfl))) (g := (mkF m 36 #[.val (.int p1)] [(.int p1)])) rfl (hb hby d2_36) _ ?_
        show Steps p.tables e below (T.setTop (mkF m 38 #[.val (.int p1)] [(.int (10000000 : Int32)), (.int p1)])) _
        refine XS.irem X.here hx rfl (hb hby d2_38) rfl (by decide) ?_
        rw [Jvm.irem_eq_mod p1 (10000000 : Int32)]
        show Steps p.tables e below (T.setTop (mkF m 39 #[.val (.int p1)] [(.int (p1 % (10000000 : Int32)))])) _
        by_cases hc39 : (p1 % (10000000 : Int32)) = (0 : Int32)
        · rw [if_pos hc39] at hv
          refine XS.ifNo X.here hx rfl (hb hby d2_39) rfl ((if0 _ _).trans (teq hc39).2) ?_
          show Steps p.tables e below (T.setTop (mkF m 42 #[.val (.int p1)] [])) _
          refine XS.iloadN X.here hx rfl (hb hby d2_42) rfl ?_
          show Steps p.tables e below (T.setTop (mkF m 43 #[.val (.int p1)] [(.int p1)])) _
          refine X.ldcInt hx hown (mvT hZ (hw _ (List.mem_of_getElem? (i := 20) rfl))) (g := (mkF m 43 #[.val (.int p1)] [(.int p1)])) rfl (hb hby d2_43) _ ?_
          show Steps p.tables e below (T.setTop (mkF m 45 #[.val (.int p1)] [(.int (10000000 : Int32)), (.int p1)])) _
          refine XS.idiv X.here hx rfl (hb hby d2_45) rfl (by decide) ?_
          show Steps p.tables e below (T.setTop (mkF m 46 #[.val (.int p1)] [(.int (p1 / (10000000 : Int32)))])) _
          refine XS.i2l X.here hx rfl (hb hby d2_46) rfl ?_
          show Steps p.tables e below (T.setTop (mkF m 47 #[.val (.int p1)] [(.long ((p1 / (10000000 : Int32)).toInt64))])) _
          refine XS.iconst X.here hx rfl (hb hby d2_47) ?_
          show Steps p.tables e below (T.setTop (mkF m 48 #[.val (.int p1)] [(.int (3 : Int32)), (.long ((p1 / (10000000 : Int32)).toInt64))])) _
          refine XS.lshl X.here hx rfl (hb hby d2_48) rfl ?_
          show Steps p.tables e below (T.setTop (mkF m 49 #[.val (.int p1)] [(.long (((p1 / (10000000 : Int32)).toInt64) <<< ((3 : Int32) &&& 0x3f).toInt64))])) _
          refine X.ldc2Long hx hown (mvT hZ (hw _ (List.mem_of_getElem? (i := 28) rfl))) (g := (mkF m 49 #[.val (.int p1)] [(.long (((p1 / (10000000 : Int32)).toInt64) <<< ((3 : Int32) &&& 0x3f).toInt64))])) rfl (hb hby d2_49) _ ?_
          show Steps p.tables e below (T.setTop (mkF m 52 #[.val (.int p1)] [(.long (6 : Int64)), (.long (((p1 / (10000000 : Int32)).toInt64) <<< ((3 : Int32) &&& 0x3f).toInt64))])) _
          refine XS.lor X.here hx rfl (hb hby d2_52) rfl ?_
          show Steps p.tables e below (T.setTop (mkF m 53 #[.val (.int p1)] [(.long ((((p1 / (10000000 : Int32)).toInt64) <<< ((3 : Int32) &&& 0x3f).toInt64) ||| (6 : Int64)))])) _
          subst hv
          exact X.lreturnOut hx hret (hb hby d2_53) hr
        · rw [if_neg hc39] at hv
          refine XS.ifYes X.here hx rfl (pc0 := 39) (pc' := 54) rfl (hb hby d2_39) rfl ((if0 _ _).trans (feq hc39).2) (by decide) (by decide) ?_
          show Steps p.tables e below (T.setTop (mkF m 54 #[.val (.int p1)] [])) _
          refine XS.iloadN X.here hx rfl (hb hby d2_54) rfl ?_
          show Steps p.tables e below (T.setTop (mkF m 55 #[.val (.int p1)] [(.int p1)])) _
          refine X.ldcInt hx hown (mvT hZ (hw _ (List.mem_of_getElem? (i := 21) rfl))) (g := (mkF m 55 #[.val (.int p1)] [(.int p1)])) rfl (hb hby d2_55) _ ?_
          show Steps p.tables e below (T.setTop (mkF m 57 #[.val (.int p1)] [(.int (1000000 : Int32)), (.int p1)])) _
          refine XS.irem X.here hx rfl (hb hby d2_57) rfl (by decide) ?_
          rw [Jvm.irem_eq_mod p1 (1000000 : Int32)]
          show Steps p.tables e below (T.setTop (mkF m 58 #[.val (.int p1)] [(.int (p1 % (1000000 : Int32)))])) _
          by_cases hc58 : (p1 % (1000000 : Int32)) = (0 : Int32)
          · rw [if_pos hc58] at hv
            refine XS.ifNo X.here hx rfl (hb hby d2_58) rfl ((if0 _ _).trans (teq hc58).2) ?_
            show Steps p.tables e below (T.setTop (mkF m 61 #[.val (.int p1)] [])) _
            refine XS.iloadN X.here hx rfl (hb hby d2_61) rfl ?_
            show Steps p.tables e below (T.setTop (mkF m 62 #[.val (.int p1)] [(.int p1)])) _
            refine X.ldcInt hx hown (mvT hZ (hw _ (List.mem_of_getElem? (i := 21) rfl))) (g := (mkF m 62 #[.val (.int p1)] [(.int p1)])) rfl (hb hby d2_62) _ ?_
            show Steps p.tables e below (T.setTop (mkF m 64 #[.val (.int p1)] [(.int (1000000 : Int32)), (.int p1)])) _
            refine XS.idiv X.here hx rfl (hb hby d2_64) rfl (by decide) ?_
            show Steps p.tables e below (T.setTop (mkF m 65 #[.val (.int p1)] [(.int (p1 / (1000000 : Int32)))])) _
            refine XS.i2l X.here hx rfl (hb hby d2_65) rfl ?_
            show Steps p.tables e below (T.setTop (mkF m 66 #[.val (.int p1)] [(.long ((p1 / (1000000 : Int32)).toInt64))])) _
            refine XS.iconst X.here hx rfl (hb hby d2_66) ?_
            show Steps p.tables e below (T.setTop (mkF m 67 #[.val (.int p1)] [(.int (3 : Int32)), (.long ((p1 / (1000000 : Int32)).toInt64))])) _
            refine XS.lshl X.here hx rfl (hb hby d2_67) rfl ?_
            show Steps p.tables e below (T.setTop (mkF m 68 #[.val (.int p1)] [(.long (((p1 / (1000000 : Int32)).toInt64) <<< ((3 : Int32) &&& 0x3f).toInt64))])) _
            refine X.ldc2Long hx hown (mvT hZ (hw _ (List.mem_of_getElem? (i := 25) rfl))) (g := (mkF m 68 #[.val (.int p1)] [(.long (((p1 / (1000000 : Int32)).toInt64) <<< ((3 : Int32) &&& 0x3f).toInt64))])) rfl (hb hby d2_68) _ ?_
            show Steps p.tables e below (T.setTop (mkF m 71 #[.val (.int p1)] [(.long (5 : Int64)), (.long (((p1 / (1000000 : Int32)).toInt64) <<< ((3 : Int32) &&& 0x3f).toInt64))])) _
            refine XS.lor X.here hx rfl (hb hby d2_71) rfl ?_
            show Steps p.tables e below (T.setTop (mkF m 72 #[.val (.int p1)] [(.long ((((p1 / (1000000 : Int32)).toInt64) <<< ((3 : Int32) &&& 0x3f).toInt64) ||| (5 : Int64)))])) _
            subst hv
            exact X.lreturnOut hx hret (hb hby d2_72) hr
          · rw [if_neg hc58] at hv
            refine XS.ifYes X.here hx rfl (pc0 := 58) (pc' := 73) rfl (hb hby d2_58) rfl ((if0 _ _).trans (feq hc58).2) (by decide) (by decide) ?_
            show Steps p.tables e below (T.setTop (mkF m 73 #[.val (.int p1)] [])) _
            refine XS.iloadN X.here hx rfl (hb hby d2_73) rfl ?_
            show Steps p.tables e below (T.setTop (mkF m 74 #[.val (.int p1)] [(.int p1)])) _
            refine X.ldcInt hx hown (mvT hZ (hw _ (List.mem_of_getElem? (i := 22) rfl))) (g := (mkF m 74 #[.val (.int p1)] [(.int p1)])) rfl (hb hby d2_74) _ ?_
            show Steps p.tables e below (T.setTop (mkF m 76 #[.val (.int p1)] [(.int (100000 : Int32)), (.int p1)])) _
            refine XS.irem X.here hx rfl (hb hby d2_76) rfl (by decide) ?_
            rw [Jvm.irem_eq_mod p1 (100000 : Int32)]
            show Steps p.tables e below (T.setTop (mkF m 77 #[.val (.int p1)] [(.int (p1 % (100000 : Int32)))])) _
            by_cases hc77 : (p1 % (100000 : Int32)) = (0 : Int32)
            · rw [if_pos hc77] at hv
              refine XS.ifNo X.here hx rfl (hb hby d2_77) rfl ((if0 _ _).trans (teq hc77).2) ?_
              show Steps p.tables e below (T.setTop (mkF m 80 #[.val (.int p1)] [])) _
              refine XS.iloadN X.here hx rfl (hb hby d2_80) rfl ?_
              show Steps p.tables e below (T.setTop (mkF m 81 #[.val (.int p1)] [(.int p1)])) _
              refine X.ldcInt hx hown (mvT hZ (hw _ (List.mem_of_getElem? (i := 22) rfl))) (g := (mkF m 81 #[.val (.int p1)] [(.int p1)])) rfl (hb hby d2_81) _ ?_
              show Steps p.tables e below (T.setTop (mkF m 83 #[.val (.int p1)] [(.int (100000 : Int32)), (.int p1)])) _
              refine XS.idiv X.here hx rfl (hb hby d2_83) rfl (by decide) ?_
              show Steps p.tables e below (T.setTop (mkF m 84 #[.val (.int p1)] [(.int (p1 / (100000 : Int32)))])) _
              refine XS.i2l X.here hx rfl (hb hby d2_84) rfl ?_
              show Steps p.tables e below (T.setTop (mkF m 85 #[.val (.int p1)] [(.long ((p1 / (100000 : Int32)).toInt64))])) _
              refine XS.iconst X.here hx rfl (hb hby d2_85) ?_
              show Steps p.tables e below (T.setTop (mkF m 86 #[.val (.int p1)] [(.int (3 : Int32)), (.long ((p1 / (100000 : Int32)).toInt64))])) _
              refine XS.lshl X.here hx rfl (hb hby d2_86) rfl ?_
              show Steps p.tables e below (T.setTop (mkF m 87 #[.val (.int p1)] [(.long (((p1 / (100000 : Int32)).toInt64) <<< ((3 : Int32) &&& 0x3f).toInt64))])) _
              refine X.ldc2Long hx hown (mvT hZ (hw _ (List.mem_of_getElem? (i := 23) rfl))) (g := (mkF m 87 #[.val (.int p1)] [(.long (((p1 / (100000 : Int32)).toInt64) <<< ((3 : Int32) &&& 0x3f).toInt64))])) rfl (hb hby d2_87) _ ?_
              show Steps p.tables e below (T.setTop (mkF m 90 #[.val (.int p1)] [(.long (4 : Int64)), (.long (((p1 / (100000 : Int32)).toInt64) <<< ((3 : Int32) &&& 0x3f).toInt64))])) _
              refine XS.lor X.here hx rfl (hb hby d2_90) rfl ?_
              show Steps p.tables e below (T.setTop (mkF m 91 #[.val (.int p1)] [(.long ((((p1 / (100000 : Int32)).toInt64) <<< ((3 : Int32) &&& 0x3f).toInt64) ||| (4 : Int64)))])) _
              subst hv
              exact X.lreturnOut hx hret (hb hby d2_91) hr
            · rw [if_neg hc77] at hv
              refine XS.ifYes X.here hx rfl (pc0 := 77) (pc' := 92) rfl (hb hby d2_77) rfl ((if0 _ _).trans (feq hc77).2) (by decide) (by decide) ?_
              show Steps p.tables e below (T.setTop (mkF m 92 #[.val (.int p1)] [])) _
              refine XS.iloadN X.here hx rfl (hb hby d2_92) rfl ?_
              show Steps p.tables e below (T.setTop (mkF m 93 #[.val (.int p1)] [(.int p1)])) _
              refine XS.sipush X.here hx rfl (hb hby d2_93) ?_
              show Steps p.tables e below (T.setTop (mkF m 96 #[.val (.int p1)] [(.int (10000 : Int32)), (.int p1)])) _
              refine XS.irem X.here hx rfl (hb hby d2_96) rfl (by decide) ?_
              rw [Jvm.irem_eq_mod p1 (10000 : Int32)]
              show Steps p.tables e below (T.setTop (mkF m 97 #[.val (.int p1)] [(.int (p1 % (10000 : Int32)))])) _
              by_cases hc97 : (p1 % (10000 : Int32)) = (0 : Int32)
              · rw [if_pos hc97] at hv
                refine XS.ifNo X.here hx rfl (hb hby d2_97) rfl ((if0 _ _).trans (teq hc97).2) ?_
                show Steps p.tables e below (T.setTop (mkF m 100 #[.val (.int p1)] [])) _
                refine XS.iloadN X.here hx rfl (hb hby d2_100) rfl ?_
                show Steps p.tables e below (T.setTop (mkF m 101 #[.val (.int p1)] [(.int p1)])) _
                refine XS.sipush X.here hx rfl (hb hby d2_101) ?_
                show Steps p.tables e below (T.setTop (mkF m 104 #[.val (.int p1)] [(.int (10000 : Int32)), (.int p1)])) _
                refine XS.idiv X.here hx rfl (hb hby d2_104) rfl (by decide) ?_
                show Steps p.tables e below (T.setTop (mkF m 105 #[.val (.int p1)] [(.int (p1 / (10000 : Int32)))])) _
                refine XS.i2l X.here hx rfl (hb hby d2_105) rfl ?_
                show Steps p.tables e below (T.setTop (mkF m 106 #[.val (.int p1)] [(.long ((p1 / (10000 : Int32)).toInt64))])) _
                refine XS.iconst X.here hx rfl (hb hby d2_106) ?_
                show Steps p.tables e below (T.setTop (mkF m 107 #[.val (.int p1)] [(.int (3 : Int32)), (.long ((p1 / (10000 : Int32)).toInt64))])) _
                refine XS.lshl X.here hx rfl (hb hby d2_107) rfl ?_
                show Steps p.tables e below (T.setTop (mkF m 108 #[.val (.int p1)] [(.long (((p1 / (10000 : Int32)).toInt64) <<< ((3 : Int32) &&& 0x3f).toInt64))])) _
                refine X.ldc2Long hx hown (mvT hZ (hw _ (List.mem_of_getElem? (i := 24) rfl))) (g := (mkF m 108 #[.val (.int p1)] [(.long (((p1 / (10000 : Int32)).toInt64) <<< ((3 : Int32) &&& 0x3f).toInt64))])) rfl (hb hby d2_108) _ ?_
                show Steps p.tables e below (T.setTop (mkF m 111 #[.val (.int p1)] [(.long (3 : Int64)), (.long (((p1 / (10000 : Int32)).toInt64) <<< ((3 : Int32) &&& 0x3f).toInt64))])) _
                refine XS.lor X.here hx rfl (hb hby d2_111) rfl ?_
                show Steps p.tables e below (T.setTop (mkF m 112 #[.val (.int p1)] [(.long ((((p1 / (10000 : Int32)).toInt64) <<< ((3 : Int32) &&& 0x3f).toInt64) ||| (3 : Int64)))])) _
                subst hv
                exact X.lreturnOut hx hret (hb hby d2_112) hr
              · rw [if_neg hc97] at hv
                refine XS.ifYes X.here hx rfl (pc0 := 97) (pc' := 113) rfl (hb hby d2_97) rfl ((if0 _ _).trans (feq hc97).2) (by decide) (by decide) ?_
                show Steps p.tables e below (T.setTop (mkF m 113 #[.val (.int p1)] [])) _
                refine XS.iloadN X.here hx rfl (hb hby d2_113) rfl ?_
                show Steps p.tables e below (T.setTop (mkF m 114 #[.val (.int p1)] [(.int p1)])) _
                refine XS.sipush X.here hx rfl (hb hby d2_114) ?_
                show Steps p.tables e below (T.setTop (mkF m 117 #[.val (.int p1)] [(.int (1000 : Int32)), (.int p1)])) _
                refine XS.irem X.here hx rfl (hb hby d2_117) rfl (by decide) ?_
                rw [Jvm.irem_eq_mod p1 (1000 : Int32)]
                show Steps p.tables e below (T.setTop (mkF m 118 #[.val (.int p1)] [(.int (p1 % (1000 : Int32)))])) _
                by_cases hc118 : (p1 % (1000 : Int32)) = (0 : Int32)
                · rw [if_pos hc118] at hv
                  refine XS.ifNo X.here hx rfl (hb hby d2_118) rfl ((if0 _ _).trans (teq hc118).2) ?_
                  show Steps p.tables e below (T.setTop (mkF m 121 #[.val (.int p1)] [])) _
                  refine XS.iloadN X.here hx rfl (hb hby d2_121) rfl ?_
                  show Steps p.tables e below (T.setTop (mkF m 122 #[.val (.int p1)] [(.int p1)])) _
                  refine XS.sipush X.here hx rfl (hb hby d2_122) ?_
                  show Steps p.tables e below (T.setTop (mkF m 125 #[.val (.int p1)] [(.int (1000 : Int32)), (.int p1)])) _
                  refine XS.idiv X.here hx rfl (hb hby d2_125) rfl (by decide) ?_
                  show Steps p.tables e below (T.setTop (mkF m 126 #[.val (.int p1)] [(.int (p1 / (1000 : Int32)))])) _
                  refine XS.i2l X.here hx rfl (hb hby d2_126) rfl ?_
                  show Steps p.tables e below (T.setTop (mkF m 127 #[.val (.int p1)] [(.long ((p1 / (1000 : Int32)).toInt64))])) _
                  refine XS.iconst X.here hx rfl (hb hby d2_127) ?_
                  show Steps p.tables e below (T.setTop (mkF m 128 #[.val (.int p1)] [(.int (3 : Int32)), (.long ((p1 / (1000 : Int32)).toInt64))])) _
                  refine XS.lshl X.here hx rfl (hb hby d2_128) rfl ?_
                  show Steps p.tables e below (T.setTop (mkF m 129 #[.val (.int p1)] [(.long (((p1 / (1000 : Int32)).toInt64) <<< ((3 : Int32) &&& 0x3f).toInt64))])) _
                  refine X.ldc2Long hx hown (mvT hZ (hw _ (List.mem_of_getElem? (i := 27) rfl))) (g := (mkF m 129 #[.val (.int p1)] [(.long (((p1 / (1000 : Int32)).toInt64) <<< ((3 : Int32) &&& 0x3f).toInt64))])) rfl (hb hby d2_129) _ ?_
                  show Steps p.tables e below (T.setTop (mkF m 132 #[.val (.int p1)] [(.long (2 : Int64)), (.long (((p1 / (1000 : Int32)).toInt64) <<< ((3 : Int32) &&& 0x3f).toInt64))])) _
                  refine XS.lor X.here hx rfl (hb hby d2_132) rfl ?_
                  show Steps p.tables e below (T.setTop (mkF m 133 #[.val (.int p1)] [(.long ((((p1 / (1000 : Int32)).toInt64) <<< ((3 : Int32) &&& 0x3f).toInt64) ||| (2 : Int64)))])) _
                  subst hv
                  exact X.lreturnOut hx hret (hb hby d2_133) hr
                · rw [if_neg hc118] at hv
                  refine XS.ifYes X.here hx rfl (pc0 := 118) (pc' := 134) rfl (hb hby d2_118) rfl ((if0 _ _).trans (feq hc118).2) (by decide) (by decide) ?_
                  show Steps p.tables e below (T.setTop (mkF m 134 #[.val (.int p1)] [])) _
                  refine XS.iloadN X.here hx rfl (hb hby d2_134) rfl ?_
                  show Steps p.tables e below (T.setTop (mkF m 135 #[.val (.int p1)] [(.int p1)])) _
                  refine XS.bipush X.here hx rfl (hb hby d2_135) ?_
                  show Steps p.tables e below (T.setTop (mkF m 137 #[.val (.int p1)] [(.int (100 : Int32)), (.int p1)])) _
                  refine XS.idiv X.here hx rfl (hb hby d2_137) rfl (by decide) ?_
                  show Steps p.tables e below (T.setTop (mkF m 138 #[.val (.int p1)] [(.int (p1 / (100 : Int32)))])) _
                  refine XS.i2l X.here hx rfl (hb hby d2_138) rfl ?_
                  show Steps p.tables e below (T.setTop (mkF m 139 #[.val (.int p1)] [(.long ((p1 / (100 : Int32)).toInt64))])) _
                  refine XS.iconst X.here hx rfl (hb hby d2_139) ?_
                  show Steps p.tables e below (T.setTop (mkF m 140 #[.val (.int p1)] [(.int (3 : Int32)), (.long ((p1 / (100 : Int32)).toInt64))])) _
                  refine XS.lshl X.here hx rfl (hb hby d2_140) rfl ?_
                  show Steps p.tables e below (T.setTop (mkF m 141 #[.val (.int p1)] [(.long (((p1 / (100 : Int32)).toInt64) <<< ((3 : Int32) &&& 0x3f).toInt64))])) _
                  refine XS.lconst X.here hx rfl (hb hby d2_141) ?_
                  show Steps p.tables e below (T.setTop (mkF m 142 #[.val (.int p1)] [(.long (1 : Int64)), (.long (((p1 / (100 : Int32)).toInt64) <<< ((3 : Int32) &&& 0x3f).toInt64))])) _
                  refine XS.lor X.here hx rfl (hb hby d2_142) rfl ?_
                  show Steps p.tables e below (T.setTop (mkF m 143 #[.val (.int p1)] [(.long ((((p1 / (100 : Int32)).toInt64) <<< ((3 : Int32) &&& 0x3f).toInt64) ||| (1 : Int64)))])) _
                  subst hv
                  exact X.lreturnOut hx hret (hb hby d2_143) hr
    · rw [if_neg hc8] at hv
      refine XS.ifNo X.here hx rfl (hb hby d2_8) rfl ((if0 _ _).trans (feq hc8).1) ?_
      show Steps p.tables e below (T.setTop (mkF m 11 #[.val (.int p1)] [])) _
      exact own_b2_11 X hx hby hown hZ hw hret p1 v hv hr
theorem ef_2 (m : MethodId) (x0 : Int32) : entryFrame m #[(.int x0)] 1 = mkF m 0 #[.val (.int x0)] [] := by first | (simp [entryFrame, mkF, argsToLocals, Value.category, maxLocals]; done) | rfl
theorem pn_2 : plainName "com/example/bitrun/bitrun/orc/timestamp/TimestampLayoutSecondaryNumberPinLaw" = true := by first | (simp [plainName, overriddenIn]; done) | decide +kernel
def Q_rm2 (Z : State) (p1 : Int32)  (h0 : Heap) (n0 : Nat) (v : Option Value) (h : Heap) (L : List Loc) : Prop := v = some (.long (own_f2_0 p1)) ∧ Fr n0 L ∧ h = h0
set_option maxRecDepth 65536 in
set_option maxHeartbeats 40000000 in
theorem rm2 (l : Launch) (Z : State) (a0 : Array Value) (hw : ∀ d ∈ tables_1, d.before a0 Z = true) (ws : List Jvm.Cond) (p1 : Int32)  (h0 : Heap) (n0 : Nat) (Z0 : n0 ≤ h0.size)  :
    MetFree l (⟨"com/example/bitrun/bitrun/orc/timestamp/TimestampLayoutSecondaryNumberPinLaw", "expected", "(I)J"⟩ : MethodName) (head1 (Jvm.Cond.code (⟨"com/example/bitrun/bitrun/orc/timestamp/TimestampLayoutSecondaryNumberPinLaw", "expected", "(I)J"⟩ : MethodName) method_3_code 1 (some .long) :: ws) ({ frames := 0, cells := 0, slots := 0, locals := 0 } : Room)) (fun a U => a = #[(.int p1)] ∧ Z.Warmed39 U.vm ∧ U.heap = h0) (fun _ _ _ _ _ => True) (fun _ U o U' => ∃ v L, o = .returned v ∧ Q_rm2 Z p1  h0 n0 v U'.heap L ∧ FrameEnd U o U' L ({ frames := 0, cells := 0, slots := 0, locals := 0 } : Room).cells ({ frames := 0, cells := 0, slots := 0, locals := 0 } : Room).slots) := by
  refine MetFree.of_bodySF (plainFor_of_name pn_2) hisR ?_
  intro p e s m args below meth c s₁ Bd hml0 hP hK
  obtain ⟨rfl, hZ, hh⟩ := hP
  have hx := Bd.exec
  have hby := Bd.bytes
  have hml : c.maxLocals = 1 := hml0
  have hown : s.vm.findClass "com/example/bitrun/bitrun/orc/timestamp/TimestampLayoutSecondaryNumberPinLaw" = some m.cls := findClass_of_methodNamed Bd.named
  have hnm := (name_of_methodNamed Bd.named Bd.method).1
  have X0 : Stand p l e ({ frames := 0, cells := 0, slots := 0, locals := 0 } : Room) s m #[(.int p1)] below meth c s₁ [] 0 0 := Stand.of_body Bd
  have e0 : s₁.heap = h0 := by rw [← hh, Bd.state]; rfl
  have N0 := Fr.nil n0
  have pre0 : ∀ t, Steps p.tables e below (s₁.setTop (mkF m 0 #[.val (.int p1)] [])) t → Steps p.tables e below (s₁.setTop (entryFrame m #[(.int p1)] 1)) t := fun t k => castTop (ef_2 m p1) k
  obtain ⟨fs, hr, hrun, hended, hW, hsame⟩ := X0.leave (v := some (.long (own_f2_0 p1))) (fun h => by rw [Bd.returns] at h; cases h) Bd.notSynchronized
  refine ⟨_, _, pre0 _ ?_, hrun, hended, _, _, rfl, ?_, ⟨_, rfl⟩, hW, hsame.mono (by decide) (by decide)⟩
  · exact own_b2_0 X0 hx hby hown hZ hw Bd.returns p1 _ rfl hr
  · exact ⟨rfl, N0, e0⟩
theorem d1_0 : decode prog_83_method_4_code 0 = .ok (.iload_n 0, 1) := by decide +kernel
theorem d1_1 : decode prog_83_method_4_code 1 = .ok (.i2l, 1) := by decide +kernel
theorem d1_2 : decode prog_83_method_4_code 2 = .ok (.iconst 3, 1) := by decide +kernel
theorem d1_3 : decode prog_83_method_4_code 3 = .ok (.lshl, 1) := by decide +kernel
theorem d1_4 : decode prog_83_method_4_code 4 = .ok (.lstore_n 1, 1) := by decide +kernel
theorem d1_5 : decode prog_83_method_4_code 5 = .ok (.iload_n 0, 1) := by decide +kernel
theorem d1_6 : decode prog_83_method_4_code 6 = .ok (.ifCond .eq 47, 3) := by decide +kernel
theorem d1_9 : decode prog_83_method_4_code 9 = .ok (.iload_n 0, 1) := by decide +kernel
theorem d1_10 : decode prog_83_method_4_code 10 = .ok (.bipush 100, 2) := by decide +kernel
theorem d1_12 : decode prog_83_method_4_code 12 = .ok (.irem, 1) := by decide +kernel
theorem d1_13 : decode prog_83_method_4_code 13 = .ok (.ifCond .ne 40, 3) := by decide +kernel
theorem d1_16 : decode prog_83_method_4_code 16 = .ok (.iload_n 0, 1) := by decide +kernel
theorem d1_17 : decode prog_83_method_4_code 17 = .ok (.bipush 100, 2) := by decide +kernel
theorem d1_19 : decode prog_83_method_4_code 19 = .ok (.idiv, 1) := by decide +kernel
theorem d1_20 : decode prog_83_method_4_code 20 = .ok (.istore_n 3, 1) := by decide +kernel
theorem d1_21 : decode prog_83_method_4_code 21 = .ok (.iconst 2, 1) := by decide +kernel
theorem d1_22 : decode prog_83_method_4_code 22 = .ok (.istore 4, 2) := by decide +kernel
theorem d1_24 : decode prog_83_method_4_code 24 = .ok (.iload_n 3, 1) := by decide +kernel
theorem d1_25 : decode prog_83_method_4_code 25 = .ok (.bipush 10, 2) := by decide +kernel
theorem d1_27 : decode prog_83_method_4_code 27 = .ok (.irem, 1) := by decide +kernel
theorem d1_28 : decode prog_83_method_4_code 28 = .ok (.ifCond .ne 14, 3) := by decide +kernel
theorem d1_31 : decode prog_83_method_4_code 31 = .ok (.iload_n 3, 1) := by decide +kernel
theorem d1_32 : decode prog_83_method_4_code 32 = .ok (.bipush 10, 2) := by decide +kernel
theorem d1_34 : decode prog_83_method_4_code 34 = .ok (.idiv, 1) := by decide +kernel
theorem d1_35 : decode prog_83_method_4_code 35 = .ok (.istore_n 3, 1) := by decide +kernel
theorem d1_36 : decode prog_83_method_4_code 36 = .ok (.iinc 4 1, 3) := by decide +kernel
theorem d1_39 : decode prog_83_method_4_code 39 = .ok (.goto (-15), 3) := by decide +kernel
theorem d1_42 : decode prog_83_method_4_code 42 = .ok (.iload_n 3, 1) := by decide +kernel
theorem d1_43 : decode prog_83_method_4_code 43 = .ok (.i2l, 1) := by decide +kernel
theorem d1_44 : decode prog_83_method_4_code 44 = .ok (.iconst 3, 1) := by decide +kernel
theorem d1_45 : decode prog_83_method_4_code 45 = .ok (.lshl, 1) := by decide +kernel
theorem d1_46 : decode prog_83_method_4_code 46 = .ok (.iload 4, 2) := by decide +kernel
theorem d1_48 : decode prog_83_method_4_code 48 = .ok (.iconst 1, 1) := by decide +kernel
theorem d1_49 : decode prog_83_method_4_code 49 = .ok (.isub, 1) := by decide +kernel
theorem d1_50 : decode prog_83_method_4_code 50 = .ok (.i2l, 1) := by decide +kernel
theorem d1_51 : decode prog_83_method_4_code 51 = .ok (.lor, 1) := by decide +kernel
theorem d1_52 : decode prog_83_method_4_code 52 = .ok (.lstore_n 1, 1) := by decide +kernel
theorem d1_53 : decode prog_83_method_4_code 53 = .ok (.lload_n 1, 1) := by decide +kernel
theorem d1_54 : decode prog_83_method_4_code 54 = .ok (.lreturn, 1) := by decide +kernel
set_option maxRecDepth 65536 in
set_option maxHeartbeats 4000000 in
theorem own_turn {p : Program} {l : Launch} {e : Env} {R : Room} {s : State} {m : MethodId} {args : Array Value} {below : List Frame} {meth : Method} {c : Code} {T : State} {locs : List Loc} {cells slots : Nat} {Z : State} {a0 : Array Value} (X : Stand p l e R s m args below meth c T locs cells slots) (hx : p.tables.exec = Jvm.exec) (hby : c.code = prog_83_method_4_code) (hown : s.vm.findClass "com/example/bitrun/bitrun/orc/timestamp/TimestampLayout" = some m.cls) (hZ : Z.Warmed39 s.vm) (hw : ∀ d ∈ tables_1, d.before a0 Z = true) (p1 : Int32) (v1 : Int64) (q : Int32) (z : Int32)  (hc28 : (q % (10 : Int32)) = (0 : Int32)) {target : State} (hk : Steps p.tables e below (T.setTop (mkF m 24 #[.val (.int p1), .val (.long v1), .second, .val (.int (q / (10 : Int32))), .val (.int (z + (1 : Int32)))] [])) target) :
    Steps p.tables e below (T.setTop (mkF m 24 #[.val (.int p1), .val (.long v1), .second, .val (.int q), .val (.int z)] [])) target := by
  show Steps p.tables e below (T.setTop (mkF m 24 #[.val (.int p1), .val (.long v1), .second, .val (.int q), .val (.int z)] [])) _
  refine XS.iloadN X.here hx rfl (hb hby d1_24) rfl ?_
  show Steps p.tables e below (T.setTop (mkF m 25 #[.val (.int p1), .val (.long v1), .second, .val (.int q), .val (.int z)] [(.int q)])) _
  refine XS.bipush X.here hx rfl (hb hby d1_25) ?_
  show Steps p.tables e below (T.setTop (mkF m 27 #[.val (.int p1), .val (.long v1), .second, .val (.int q), .val (.int z)] [(.int (10 : Int32)), (.int q)])) _
  refine XS.irem X.here hx rfl (hb hby d1_27) rfl (by decide) ?_
  rw [Jvm.irem_eq_mod q (10 : Int32)]
  show Steps p.tables e below (T.setTop (mkF m 28 #[.val (.int p1), .val (.long v1), .second, .val (.int q), .val (.int z)] [(.int (q % (10 : Int32)))])) _
  refine XS.ifNo X.here hx rfl (hb hby d1_28) rfl ((if0 _ _).trans (teq hc28).2) ?_
  show Steps p.tables e below (T.setTop (mkF m 31 #[.val (.int p1), .val (.long v1), .second, .val (.int q), .val (.int z)] [])) _
  refine XS.iloadN X.here hx rfl (hb hby d1_31) rfl ?_
  show Steps p.tables e below (T.setTop (mkF m 32 #[.val (.int p1), .val (.long v1), .second, .val (.int q), .val (.int z)] [(.int q)])) _
  refine XS.bipush X.here hx rfl (hb hby d1_32) ?_
  show Steps p.tables e below (T.setTop (mkF m 34 #[.val (.int p1), .val (.long v1), .second, .val (.int q), .val (.int z)] [(.int (10 : Int32)), (.int q)])) _
  refine XS.idiv X.here hx rfl (hb hby d1_34) rfl (by decide) ?_
  show Steps p.tables e below (T.setTop (mkF m 35 #[.val (.int p1), .val (.long v1), .second, .val (.int q), .val (.int z)] [(.int (q / (10 : Int32)))])) _
  refine XS.istoreN X.here hx rfl (hb hby d1_35) rfl (l' := #[.val (.int p1), .val (.long v1), .second, .val (.int (q / (10 : Int32))), .val (.int z)]) rfl ?_
  show Steps p.tables e below (T.setTop (mkF m 36 #[.val (.int p1), .val (.long v1), .second, .val (.int (q / (10 : Int32))), .val (.int z)] [])) _
  refine XS.iinc X.here hx rfl (hb hby d1_36) rfl (l' := #[.val (.int p1), .val (.long v1), .second, .val (.int (q / (10 : Int32))), .val (.int (z + (1 : Int32)))]) rfl ?_
  show Steps p.tables e below (T.setTop (mkF m 39 #[.val (.int p1), .val (.long v1), .second, .val (.int (q / (10 : Int32))), .val (.int (z + (1 : Int32)))] [])) _
  refine XS.goto X.here hx rfl (pc0 := 39) (pc' := 24) rfl (hb hby d1_39) (by decide) (by decide) ?_
  show Steps p.tables e below (T.setTop (mkF m 24 #[.val (.int p1), .val (.long v1), .second, .val (.int (q / (10 : Int32))), .val (.int (z + (1 : Int32)))] [])) _
  exact hk
set_option maxRecDepth 65536 in
set_option maxHeartbeats 4000000 in
theorem own_out {p : Program} {l : Launch} {e : Env} {R : Room} {s : State} {m : MethodId} {args : Array Value} {below : List Frame} {meth : Method} {c : Code} {T : State} {locs : List Loc} {cells slots : Nat} {Z : State} {a0 : Array Value} (X : Stand p l e R s m args below meth c T locs cells slots) (hx : p.tables.exec = Jvm.exec) (hby : c.code = prog_83_method_4_code) (hown : s.vm.findClass "com/example/bitrun/bitrun/orc/timestamp/TimestampLayout" = some m.cls) (hZ : Z.Warmed39 s.vm) (hw : ∀ d ∈ tables_1, d.before a0 Z = true) (p1 : Int32) (v1 : Int64) (q : Int32) (z : Int32)  (hc28 : ¬ ((q % (10 : Int32)) = (0 : Int32))) {target : State} (hk : Steps p.tables e below (T.setTop (mkF m 42 #[.val (.int p1), .val (.long v1), .second, .val (.int q), .val (.int z)] [])) target) :
    Steps p.tables e below (T.setTop (mkF m 24 #[.val (.int p1), .val (.long v1), .second, .val (.int q), .val (.int z)] [])) target := by
  show Steps p.tables e below (T.setTop (mkF m 24 #[.val (.int p1), .val (.long v1), .second, .val (.int q), .val (.int z)] [])) _
  refine XS.iloadN X.here hx rfl (hb hby d1_24) rfl ?_
  show Steps p.tables e below (T.setTop (mkF m 25 #[.val (.int p1), .val (.long v1), .second, .val (.int q), .val (.int z)] [(.int q)])) _
  refine XS.bipush X.here hx rfl (hb hby d1_25) ?_
  show Steps p.tables e below (T.setTop (mkF m 27 #[.val (.int p1), .val (.long v1), .second, .val (.int q), .val (.int z)] [(.int (10 : Int32)), (.int q)])) _
  refine XS.irem X.here hx rfl (hb hby d1_27) rfl (by decide) ?_
  rw [Jvm.irem_eq_mod q (10 : Int32)]
  show Steps p.tables e below (T.setTop (mkF m 28 #[.val (.int p1), .val (.long v1), .second, .val (.int q), .val (.int z)] [(.int (q % (10 : Int32)))])) _
  refine XS.ifYes X.here hx rfl (pc0 := 28) (pc' := 42) rfl (hb hby d1_28) rfl ((if0 _ _).trans (feq hc28).2) (by decide) (by decide) ?_
  show Steps p.tables e below (T.setTop (mkF m 42 #[.val (.int p1), .val (.long v1), .second, .val (.int q), .val (.int z)] [])) _
  exact hk
def own_strip : Nat → Int32 → Int32 → Int32 × Int32
  | 0, q, z => (q, z)
  | k + 1, q, z => if (q % (10 : Int32)) = (0 : Int32) then own_strip k (q / (10 : Int32)) (z + (1 : Int32)) else (q, z)
theorem own_div10 (q : Int32) (h : 0 ≤ q.toInt) : (q / (10 : Int32)).toInt = q.toInt / 10 := (c_idiv q (10 : Int32) 10 (by decide) (by decide)).1 h
theorem own_mod10 (q : Int32) (h : 0 ≤ q.toInt) : (q % (10 : Int32)) = (0 : Int32) ↔ q.toInt % 10 = 0 := by
  rw [← Int32.toInt_inj, (c_irem q (10 : Int32) 10 (by decide)).1 h]; exact Iff.rfl
theorem own_loop {p : Program} {l : Launch} {e : Env} {R : Room} {s : State} {m : MethodId} {args : Array Value} {below : List Frame} {meth : Method} {c : Code} {T : State} {locs : List Loc} {cells slots : Nat} {Z : State} {a0 : Array Value} (X : Stand p l e R s m args below meth c T locs cells slots) (hx : p.tables.exec = Jvm.exec) (hby : c.code = prog_83_method_4_code) (hown : s.vm.findClass "com/example/bitrun/bitrun/orc/timestamp/TimestampLayout" = some m.cls) (hZ : Z.Warmed39 s.vm) (hw : ∀ d ∈ tables_1, d.before a0 Z = true) (p1 : Int32) (v1 : Int64) :
    ∀ (k : Nat) (q z : Int32), 0 < q.toInt → q.toInt < (10 ^ k : Nat) → ∀ {target : State}, Steps p.tables e below (T.setTop (mkF m 42 #[.val (.int p1), .val (.long v1), .second, .val (.int (own_strip k q z).1), .val (.int (own_strip k q z).2)] [])) target → Steps p.tables e below (T.setTop (mkF m 24 #[.val (.int p1), .val (.long v1), .second, .val (.int q), .val (.int z)] [])) target := by
  intro k
  induction k with
  | zero => intro q z h1 h2; exfalso; have : ((10 ^ 0 : Nat) : Int) = 1 := rfl
            omega
  | succ k ih =>
    intro q z h1 h2 target hk
    by_cases hq : (q % (10 : Int32)) = (0 : Int32)
    · rw [show own_strip (k + 1) q z = own_strip k (q / (10 : Int32)) (z + (1 : Int32)) from if_pos hq] at hk
      have hm := (own_mod10 q (by omega)).mp hq
      have hd := own_div10 q (by omega)
      have hp : ((10 ^ (k + 1) : Nat) : Int) = 10 * ((10 ^ k : Nat) : Int) := by rw [Nat.pow_succ]; omega
      exact own_turn X hx hby hown hZ hw p1 v1 q z hq (ih _ _ (by rw [hd]; omega) (by rw [hd]; omega) hk)
    · rw [show own_strip (k + 1) q z = (q, z) from if_neg hq] at hk
      exact own_out X hx hby hown hZ hw p1 v1 q z hq hk
def own_sec (p1 : Int32) : Int64 := if p1 = (0 : Int32) then ((p1.toInt64) <<< ((3 : Int32) &&& 0x3f).toInt64) else if (p1 % (100 : Int32)) = (0 : Int32) then ((((own_strip 7 (p1 / (100 : Int32)) (2 : Int32)).1.toInt64) <<< ((3 : Int32) &&& 0x3f).toInt64) ||| (((own_strip 7 (p1 / (100 : Int32)) (2 : Int32)).2 - (1 : Int32)).toInt64)) else ((p1.toInt64) <<< ((3 : Int32) &&& 0x3f).toInt64)
theorem ef_1 (m : MethodId) (x0 : Int32) : entryFrame m #[(.int x0)] 5 = mkF m 0 #[.val (.int x0), .unset, .unset, .unset, .unset] [] := by first | (simp [entryFrame, mkF, argsToLocals, Value.category, maxLocals]; done) | rfl
theorem pn_1 : plainName "com/example/bitrun/bitrun/orc/timestamp/TimestampLayout" = true := by first | (simp [plainName, overriddenIn]; done) | decide +kernel
def Q_rm1 (Z : State) (p1 : Int32)  (h0 : Heap) (n0 : Nat) (v : Option Value) (h : Heap) (L : List Loc) : Prop := v = some (.long (own_sec p1)) ∧ Fr n0 L ∧ h = h0
set_option maxRecDepth 65536 in
set_option maxHeartbeats 40000000 in
theorem rm1 (l : Launch) (Z : State) (a0 : Array Value) (hw : ∀ d ∈ tables_1, d.before a0 Z = true) (ws : List Jvm.Cond) (p1 : Int32)  (h0 : Heap) (n0 : Nat) (Z0 : n0 ≤ h0.size) (hp1 : 0 ≤ p1.toInt ∧ p1.toInt < 1000000000) :
    MetFree l (⟨"com/example/bitrun/bitrun/orc/timestamp/TimestampLayout", "secondaryNumber", "(I)J"⟩ : MethodName) (head1 (Jvm.Cond.code (⟨"com/example/bitrun/bitrun/orc/timestamp/TimestampLayout", "secondaryNumber", "(I)J"⟩ : MethodName) prog_83_method_4_code 5 (some .long) :: ws) ({ frames := 0, cells := 0, slots := 0, locals := 0 } : Room)) (fun a U => a = #[(.int p1)] ∧ Z.Warmed39 U.vm ∧ U.heap = h0) (fun _ _ _ _ _ => True) (fun _ U o U' => ∃ v L, o = .returned v ∧ Q_rm1 Z p1  h0 n0 v U'.heap L ∧ FrameEnd U o U' L ({ frames := 0, cells := 0, slots := 0, locals := 0 } : Room).cells ({ frames := 0, cells := 0, slots := 0, locals := 0 } : Room).slots) := by
  refine MetFree.of_bodySF (plainFor_of_name pn_1) hisR ?_
  intro p e s m args below meth c s₁ Bd hml0 hP hK
  obtain ⟨rfl, hZ, hh⟩ := hP
  have hx := Bd.exec
  have hby := Bd.bytes
  have hml : c.maxLocals = 5 := hml0
  have hown : s.vm.findClass "com/example/bitrun/bitrun/orc/timestamp/TimestampLayout" = some m.cls := findClass_of_methodNamed Bd.named
  have hnm := (name_of_methodNamed Bd.named Bd.method).1
  have X0 : Stand p l e ({ frames := 0, cells := 0, slots := 0, locals := 0 } : Room) s m #[(.int p1)] below meth c s₁ [] 0 0 := Stand.of_body Bd
  have e0 : s₁.heap = h0 := by rw [← hh, Bd.state]; rfl
  have N0 := Fr.nil n0
  have pre0 : ∀ t, Steps p.tables e below (s₁.setTop (mkF m 0 #[.val (.int p1), .unset, .unset, .unset, .unset] [])) t → Steps p.tables e below (s₁.setTop (entryFrame m #[(.int p1)] 5)) t := fun t k => castTop (ef_1 m p1) k
  have K1 : ∀ t, Steps p.tables e below (s₁.setTop (mkF m 6 #[.val (.int p1), .val (.long ((p1.toInt64) <<< ((3 : Int32) &&& 0x3f).toInt64)), .second, .unset, .unset] [(.int p1)])) t → Steps p.tables e below (s₁.setTop (entryFrame m #[(.int p1)] 5)) t := by
    intro t hk
    refine pre0 t ?_
    show Steps p.tables e below (s₁.setTop (mkF m 0 #[.val (.int p1), .unset, .unset, .unset, .unset] [])) _
    refine XS.iloadN X0.here hx rfl (hb hby d1_0) rfl ?_
    show Steps p.tables e below (s₁.setTop (mkF m 1 #[.val (.int p1), .unset, .unset, .unset, .unset] [(.int p1)])) _
    refine XS.i2l X0.here hx rfl (hb hby d1_1) rfl ?_
    show Steps p.tables e below (s₁.setTop (mkF m 2 #[.val (.int p1), .unset, .unset, .unset, .unset] [(.long (p1.toInt64))])) _
    refine XS.iconst X0.here hx rfl (hb hby d1_2) ?_
    show Steps p.tables e below (s₁.setTop (mkF m 3 #[.val (.int p1), .unset, .unset, .unset, .unset] [(.int (3 : Int32)), (.long (p1.toInt64))])) _
    refine XS.lshl X0.here hx rfl (hb hby d1_3) rfl ?_
    show Steps p.tables e below (s₁.setTop (mkF m 4 #[.val (.int p1), .unset, .unset, .unset, .unset] [(.long ((p1.toInt64) <<< ((3 : Int32) &&& 0x3f).toInt64))])) _
    refine XS.lstoreN X0.here hx rfl (hb hby d1_4) rfl (l' := #[.val (.int p1), .val (.long ((p1.toInt64) <<< ((3 : Int32) &&& 0x3f).toInt64)), .second, .unset, .unset]) rfl ?_
    show Steps p.tables e below (s₁.setTop (mkF m 5 #[.val (.int p1), .val (.long ((p1.toInt64) <<< ((3 : Int32) &&& 0x3f).toInt64)), .second, .unset, .unset] [])) _
    refine XS.iloadN X0.here hx rfl (hb hby d1_5) rfl ?_
    show Steps p.tables e below (s₁.setTop (mkF m 6 #[.val (.int p1), .val (.long ((p1.toInt64) <<< ((3 : Int32) &&& 0x3f).toInt64)), .second, .unset, .unset] [(.int p1)])) _
    exact hk
  by_cases hc6 : p1 = (0 : Int32)
  · have K2 : ∀ t, Steps p.tables e below (s₁.setTop (mkF m 53 #[.val (.int p1), .val (.long ((p1.toInt64) <<< ((3 : Int32) &&& 0x3f).toInt64)), .second, .unset, .unset] [])) t → Steps p.tables e below (s₁.setTop (entryFrame m #[(.int p1)] 5)) t := by
      intro t hk
      refine K1 t ?_
      show Steps p.tables e below (s₁.setTop (mkF m 6 #[.val (.int p1), .val (.long ((p1.toInt64) <<< ((3 : Int32) &&& 0x3f).toInt64)), .second, .unset, .unset] [(.int p1)])) _
      refine XS.ifYes X0.here hx rfl (pc0 := 6) (pc' := 53) rfl (hb hby d1_6) rfl ((if0 _ _).trans (teq hc6).1) (by decide) (by decide) ?_
      exact hk
    have K3 : ∀ t, Steps p.tables e below (s₁.setTop (mkF m 54 #[.val (.int p1), .val (.long ((p1.toInt64) <<< ((3 : Int32) &&& 0x3f).toInt64)), .second, .unset, .unset] [(.long ((p1.toInt64) <<< ((3 : Int32) &&& 0x3f).toInt64))])) t → Steps p.tables e below (s₁.setTop (entryFrame m #[(.int p1)] 5)) t := by
      intro t hk
      refine K2 t ?_
      show Steps p.tables e below (s₁.setTop (mkF m 53 #[.val (.int p1), .val (.long ((p1.toInt64) <<< ((3 : Int32) &&& 0x3f).toInt64)), .second, .unset, .unset] [])) _
      refine XS.lloadN X0.here hx rfl (hb hby d1_53) rfl ?_
      show Steps p.tables e below (s₁.setTop (mkF m 54 #[.val (.int p1), .val (.long ((p1.toInt64) <<< ((3 : Int32) &&& 0x3f).toInt64)), .second, .unset, .unset] [(.long ((p1.toInt64) <<< ((3 : Int32) &&& 0x3f).toInt64))])) _
      exact hk
    obtain ⟨fs, hr, hrun, hended, hW, hsame⟩ := X0.leave (v := some (.long ((p1.toInt64) <<< ((3 : Int32) &&& 0x3f).toInt64))) (fun h => by rw [Bd.returns] at h; cases h) Bd.notSynchronized
    exact ⟨_, _, K3 _ (X0.lreturnOut hx Bd.returns (hb hby d1_54) hr), hrun, hended, _, _, rfl, ⟨by rw [own_sec, if_pos hc6], N0, e0⟩, ⟨_, rfl⟩, hW, hsame.mono (by decide) (by decide)⟩
  · have K4 : ∀ t, Steps p.tables e below (s₁.setTop (mkF m 9 #[.val (.int p1), .val (.long ((p1.toInt64) <<< ((3 : Int32) &&& 0x3f).toInt64)), .second, .unset, .unset] [])) t → Steps p.tables e below (s₁.setTop (entryFrame m #[(.int p1)] 5)) t := by
      intro t hk
      refine K1 t ?_
      show Steps p.tables e below (s₁.setTop (mkF m 6 #[.val (.int p1), .val (.long ((p1.toInt64) <<< ((3 : Int32) &&& 0x3f).toInt64)), .second, .unset, .unset] [(.int p1)])) _
      refine XS.ifNo X0.here hx rfl (hb hby d1_6) rfl ((if0 _ _).trans (feq hc6).1) ?_
      exact hk
    have K5 : ∀ t, Steps p.tables e below (s₁.setTop (mkF m 13 #[.val (.int p1), .val (.long ((p1.toInt64) <<< ((3 : Int32) &&& 0x3f).toInt64)), .second, .unset, .unset] [(.int (p1 % (100 : Int32)))])) t → Steps p.tables e below (s₁.setTop (entryFrame m #[(.int p1)] 5)) t := by
      intro t hk
      refine K4 t ?_
      show Steps p.tables e below (s₁.setTop (mkF m 9 #[.val (.int p1), .val (.long ((p1.toInt64) <<< ((3 : Int32) &&& 0x3f).toInt64)), .second, .unset, .unset] [])) _
      refine XS.iloadN X0.here hx rfl (hb hby d1_9) rfl ?_
      show Steps p.tables e below (s₁.setTop (mkF m 10 #[.val (.int p1), .val (.long ((p1.toInt64) <<< ((3 : Int32) &&& 0x3f).toInt64)), .second, .unset, .unset] [(.int p1)])) _
      refine XS.bipush X0.here hx rfl (hb hby d1_10) ?_
      show Steps p.tables e below (s₁.setTop (mkF m 12 #[.val (.int p1), .val (.long ((p1.toInt64) <<< ((3 : Int32) &&& 0x3f).toInt64)), .second, .unset, .unset] [(.int (100 : Int32)), (.int p1)])) _
      refine XS.irem X0.here hx rfl (hb hby d1_12) rfl (by decide) ?_
      rw [Jvm.irem_eq_mod p1 (100 : Int32)]
      show Steps p.tables e below (s₁.setTop (mkF m 13 #[.val (.int p1), .val (.long ((p1.toInt64) <<< ((3 : Int32) &&& 0x3f).toInt64)), .second, .unset, .unset] [(.int (p1 % (100 : Int32)))])) _
      exact hk
    by_cases hc13 : (p1 % (100 : Int32)) = (0 : Int32)
    · have K6 : ∀ t, Steps p.tables e below (s₁.setTop (mkF m 16 #[.val (.int p1), .val (.long ((p1.toInt64) <<< ((3 : Int32) &&& 0x3f).toInt64)), .second, .unset, .unset] [])) t → Steps p.tables e below (s₁.setTop (entryFrame m #[(.int p1)] 5)) t := by
        intro t hk
        refine K5 t ?_
        show Steps p.tables e below (s₁.setTop (mkF m 13 #[.val (.int p1), .val (.long ((p1.toInt64) <<< ((3 : Int32) &&& 0x3f).toInt64)), .second, .unset, .unset] [(.int (p1 % (100 : Int32)))])) _
        refine XS.ifNo X0.here hx rfl (hb hby d1_13) rfl ((if0 _ _).trans (teq hc13).2) ?_
        exact hk
      have K7 : ∀ t, Steps p.tables e below (s₁.setTop (mkF m 24 #[.val (.int p1), .val (.long ((p1.toInt64) <<< ((3 : Int32) &&& 0x3f).toInt64)), .second, .val (.int (p1 / (100 : Int32))), .val (.int (2 : Int32))] [])) t → Steps p.tables e below (s₁.setTop (entryFrame m #[(.int p1)] 5)) t := by
        intro t hk
        refine K6 t ?_
        show Steps p.tables e below (s₁.setTop (mkF m 16 #[.val (.int p1), .val (.long ((p1.toInt64) <<< ((3 : Int32) &&& 0x3f).toInt64)), .second, .unset, .unset] [])) _
        refine XS.iloadN X0.here hx rfl (hb hby d1_16) rfl ?_
        show Steps p.tables e below (s₁.setTop (mkF m 17 #[.val (.int p1), .val (.long ((p1.toInt64) <<< ((3 : Int32) &&& 0x3f).toInt64)), .second, .unset, .unset] [(.int p1)])) _
        refine XS.bipush X0.here hx rfl (hb hby d1_17) ?_
        show Steps p.tables e below (s₁.setTop (mkF m 19 #[.val (.int p1), .val (.long ((p1.toInt64) <<< ((3 : Int32) &&& 0x3f).toInt64)), .second, .unset, .unset] [(.int (100 : Int32)), (.int p1)])) _
        refine XS.idiv X0.here hx rfl (hb hby d1_19) rfl (by decide) ?_
        show Steps p.tables e below (s₁.setTop (mkF m 20 #[.val (.int p1), .val (.long ((p1.toInt64) <<< ((3 : Int32) &&& 0x3f).toInt64)), .second, .unset, .unset] [(.int (p1 / (100 : Int32)))])) _
        refine XS.istoreN X0.here hx rfl (hb hby d1_20) rfl (l' := #[.val (.int p1), .val (.long ((p1.toInt64) <<< ((3 : Int32) &&& 0x3f).toInt64)), .second, .val (.int (p1 / (100 : Int32))), .unset]) rfl ?_
        show Steps p.tables e below (s₁.setTop (mkF m 21 #[.val (.int p1), .val (.long ((p1.toInt64) <<< ((3 : Int32) &&& 0x3f).toInt64)), .second, .val (.int (p1 / (100 : Int32))), .unset] [])) _
        refine XS.iconst X0.here hx rfl (hb hby d1_21) ?_
        show Steps p.tables e below (s₁.setTop (mkF m 22 #[.val (.int p1), .val (.long ((p1.toInt64) <<< ((3 : Int32) &&& 0x3f).toInt64)), .second, .val (.int (p1 / (100 : Int32))), .unset] [(.int (2 : Int32))])) _
        refine XS.istore X0.here hx rfl (hb hby d1_22) rfl (l' := #[.val (.int p1), .val (.long ((p1.toInt64) <<< ((3 : Int32) &&& 0x3f).toInt64)), .second, .val (.int (p1 / (100 : Int32))), .val (.int (2 : Int32))]) rfl ?_
        show Steps p.tables e below (s₁.setTop (mkF m 24 #[.val (.int p1), .val (.long ((p1.toInt64) <<< ((3 : Int32) &&& 0x3f).toInt64)), .second, .val (.int (p1 / (100 : Int32))), .val (.int (2 : Int32))] [])) _
        exact hk
      have hd : (p1 / (100 : Int32)).toInt = p1.toInt / 100 := (c_idiv p1 (100 : Int32) 100 (by decide) (by decide)).1 hp1.1
      have hm : p1.toInt % 100 = 0 := by
        have q := (c_irem p1 (100 : Int32) 100 (by decide)).1 hp1.1
        rw [hc13] at q; exact q.symm
      have hz : p1.toInt ≠ 0 := fun q => hc6 (Int32.toInt_inj.mp q)
      have K8 : ∀ t, Steps p.tables e below (s₁.setTop (mkF m 42 #[.val (.int p1), .val (.long ((p1.toInt64) <<< ((3 : Int32) &&& 0x3f).toInt64)), .second, .val (.int (own_strip 7 (p1 / (100 : Int32)) (2 : Int32)).1), .val (.int (own_strip 7 (p1 / (100 : Int32)) (2 : Int32)).2)] [])) t → Steps p.tables e below (s₁.setTop (entryFrame m #[(.int p1)] 5)) t := fun t hk => K7 t (own_loop X0 hx hby hown hZ hw p1 ((p1.toInt64) <<< ((3 : Int32) &&& 0x3f).toInt64) 7 (p1 / (100 : Int32)) (2 : Int32) (by rw [hd]; omega) (by rw [hd]; show _ < (10000000 : Int); omega) hk)
      have K9 : ∀ t, Steps p.tables e below (s₁.setTop (mkF m 54 #[.val (.int p1), .val (.long ((((own_strip 7 (p1 / (100 : Int32)) (2 : Int32)).1.toInt64) <<< ((3 : Int32) &&& 0x3f).toInt64) ||| (((own_strip 7 (p1 / (100 : Int32)) (2 : Int32)).2 - (1 : Int32)).toInt64))), .second, .val (.int (own_strip 7 (p1 / (100 : Int32)) (2 : Int32)).1), .val (.int (own_strip 7 (p1 / (100 : Int32)) (2 : Int32)).2)] [(.long ((((own_strip 7 (p1 / (100 : Int32)) (2 : Int32)).1.toInt64) <<< ((3 : Int32) &&& 0x3f).toInt64) ||| (((own_strip 7 (p1 / (100 : Int32)) (2 : Int32)).2 - (1 : Int32)).toInt64)))])) t → Steps p.tables e below (s₁.setTop (entryFrame m #[(.int p1)] 5)) t := by
        intro t hk
        refine K8 t ?_
        show Steps p.tables e below (s₁.setTop (mkF m 42 #[.val (.int p1), .val (.long ((p1.toInt64) <<< ((3 : Int32) &&& 0x3f).toInt64)), .second, .val (.int (own_strip 7 (p1 / (100 : Int32)) (2 : Int32)).1), .val (.int (own_strip 7 (p1 / (100 : Int32)) (2 : Int32)).2)] [])) _
        refine XS.iloadN X0.here hx rfl (hb hby d1_42) rfl ?_
        show Steps p.tables e below (s₁.setTop (mkF m 43 #[.val (.int p1), .val (.long ((p1.toInt64) <<< ((3 : Int32) &&& 0x3f).toInt64)), .second, .val (.int (own_strip 7 (p1 / (100 : Int32)) (2 : Int32)).1), .val (.int (own_strip 7 (p1 / (100 : Int32)) (2 : Int32)).2)] [(.int (own_strip 7 (p1 / (100 : Int32)) (2 : Int32)).1)])) _
        refine XS.i2l X0.here hx rfl (hb hby d1_43) rfl ?_
        show Steps p.tables e below (s₁.setTop (mkF m 44 #[.val (.int p1), .val (.long ((p1.toInt64) <<< ((3 : Int32) &&& 0x3f).toInt64)), .second, .val (.int (own_strip 7 (p1 / (100 : Int32)) (2 : Int32)).1), .val (.int (own_strip 7 (p1 / (100 : Int32)) (2 : Int32)).2)] [(.long ((own_strip 7 (p1 / (100 : Int32)) (2 : Int32)).1.toInt64))])) _
        refine XS.iconst X0.here hx rfl (hb hby d1_44) ?_
        show Steps p.tables e below (s₁.setTop (mkF m 45 #[.val (.int p1), .val (.long ((p1.toInt64) <<< ((3 : Int32) &&& 0x3f).toInt64)), .second, .val (.int (own_strip 7 (p1 / (100 : Int32)) (2 : Int32)).1), .val (.int (own_strip 7 (p1 / (100 : Int32)) (2 : Int32)).2)] [(.int (3 : Int32)), (.long ((own_strip 7 (p1 / (100 : Int32)) (2 : Int32)).1.toInt64))])) _
        refine XS.lshl X0.here hx rfl (hb hby d1_45) rfl ?_
        show Steps p.tables e below (s₁.setTop (mkF m 46 #[.val (.int p1), .val (.long ((p1.toInt64) <<< ((3 : Int32) &&& 0x3f).toInt64)), .second, .val (.int (own_strip 7 (p1 / (100 : Int32)) (2 : Int32)).1), .val (.int (own_strip 7 (p1 / (100 : Int32)) (2 : Int32)).2)] [(.long (((own_strip 7 (p1 / (100 : Int32)) (2 : Int32)).1.toInt64) <<< ((3 : Int32) &&& 0x3f).toInt64))])) _
        refine XS.iload X0.here hx rfl (hb hby d1_46) rfl ?_
        show Steps p.tables e below (s₁.setTop (mkF m 48 #[.val (.int p1), .val (.long ((p1.toInt64) <<< ((3 : Int32) &&& 0x3f).toInt64)), .second, .val (.int (own_strip 7 (p1 / (100 : Int32)) (2 : Int32)).1), .val (.int (own_strip 7 (p1 / (100 : Int32)) (2 : Int32)).2)] [(.int (own_strip 7 (p1 / (100 : Int32)) (2 : Int32)).2), (.long (((own_strip 7 (p1 / (100 : Int32)) (2 : Int32)).1.toInt64) <<< ((3 : Int32) &&& 0x3f).toInt64))])) _
        refine XS.iconst X0.here hx rfl (hb hby d1_48) ?_
        show Steps p.tables e below (s₁.setTop (mkF m 49 #[.val (.int p1), .val (.long ((p1.toInt64) <<< ((3 : Int32) &&& 0x3f).toInt64)), .second, .val (.int (own_strip 7 (p1 / (100 : Int32)) (2 : Int32)).1), .val (.int (own_strip 7 (p1 / (100 : Int32)) (2 : Int32)).2)] [(.int (1 : Int32)), (.int (own_strip 7 (p1 / (100 : Int32)) (2 : Int32)).2), (.long (((own_strip 7 (p1 / (100 : Int32)) (2 : Int32)).1.toInt64) <<< ((3 : Int32) &&& 0x3f).toInt64))])) _
        refine XS.isub X0.here hx rfl (hb hby d1_49) rfl ?_
        show Steps p.tables e below (s₁.setTop (mkF m 50 #[.val (.int p1), .val (.long ((p1.toInt64) <<< ((3 : Int32) &&& 0x3f).toInt64)), .second, .val (.int (own_strip 7 (p1 / (100 : Int32)) (2 : Int32)).1), .val (.int (own_strip 7 (p1 / (100 : Int32)) (2 : Int32)).2)] [(.int ((own_strip 7 (p1 / (100 : Int32)) (2 : Int32)).2 - (1 : Int32))), (.long (((own_strip 7 (p1 / (100 : Int32)) (2 : Int32)).1.toInt64) <<< ((3 : Int32) &&& 0x3f).toInt64))])) _
        refine XS.i2l X0.here hx rfl (hb hby d1_50) rfl ?_
        show Steps p.tables e below (s₁.setTop (mkF m 51 #[.val (.int p1), .val (.long ((p1.toInt64) <<< ((3 : Int32) &&& 0x3f).toInt64)), .second, .val (.int (own_strip 7 (p1 / (100 : Int32)) (2 : Int32)).1), .val (.int (own_strip 7 (p1 / (100 : Int32)) (2 : Int32)).2)] [(.long (((own_strip 7 (p1 / (100 : Int32)) (2 : Int32)).2 - (1 : Int32)).toInt64)), (.long (((own_strip 7 (p1 / (100 : Int32)) (2 : Int32)).1.toInt64) <<< ((3 : Int32) &&& 0x3f).toInt64))])) _
        refine XS.lor X0.here hx rfl (hb hby d1_51) rfl ?_
        show Steps p.tables e below (s₁.setTop (mkF m 52 #[.val (.int p1), .val (.long ((p1.toInt64) <<< ((3 : Int32) &&& 0x3f).toInt64)), .second, .val (.int (own_strip 7 (p1 / (100 : Int32)) (2 : Int32)).1), .val (.int (own_strip 7 (p1 / (100 : Int32)) (2 : Int32)).2)] [(.long ((((own_strip 7 (p1 / (100 : Int32)) (2 : Int32)).1.toInt64) <<< ((3 : Int32) &&& 0x3f).toInt64) ||| (((own_strip 7 (p1 / (100 : Int32)) (2 : Int32)).2 - (1 : Int32)).toInt64)))])) _
        refine XS.lstoreN X0.here hx rfl (hb hby d1_52) rfl (l' := #[.val (.int p1), .val (.long ((((own_strip 7 (p1 / (100 : Int32)) (2 : Int32)).1.toInt64) <<< ((3 : Int32) &&& 0x3f).toInt64) ||| (((own_strip 7 (p1 / (100 : Int32)) (2 : Int32)).2 - (1 : Int32)).toInt64))), .second, .val (.int (own_strip 7 (p1 / (100 : Int32)) (2 : Int32)).1), .val (.int (own_strip 7 (p1 / (100 : Int32)) (2 : Int32)).2)]) rfl ?_
        show Steps p.tables e below (s₁.setTop (mkF m 53 #[.val (.int p1), .val (.long ((((own_strip 7 (p1 / (100 : Int32)) (2 : Int32)).1.toInt64) <<< ((3 : Int32) &&& 0x3f).toInt64) ||| (((own_strip 7 (p1 / (100 : Int32)) (2 : Int32)).2 - (1 : Int32)).toInt64))), .second, .val (.int (own_strip 7 (p1 / (100 : Int32)) (2 : Int32)).1), .val (.int (own_strip 7 (p1 / (100 : Int32)) (2 : Int32)).2)] [])) _
        refine XS.lloadN X0.here hx rfl (hb hby d1_53) rfl ?_
        show Steps p.tables e below (s₁.setTop (mkF m 54 #[.val (.int p1), .val (.long ((((own_strip 7 (p1 / (100 : Int32)) (2 : Int32)).1.toInt64) <<< ((3 : Int32) &&& 0x3f).toInt64) ||| (((own_strip 7 (p1 / (100 : Int32)) (2 : Int32)).2 - (1 : Int32)).toInt64))), .second, .val (.int (own_strip 7 (p1 / (100 : Int32)) (2 : Int32)).1), .val (.int (own_strip 7 (p1 / (100 : Int32)) (2 : Int32)).2)] [(.long ((((own_strip 7 (p1 / (100 : Int32)) (2 : Int32)).1.toInt64) <<< ((3 : Int32) &&& 0x3f).toInt64) ||| (((own_strip 7 (p1 / (100 : Int32)) (2 : Int32)).2 - (1 : Int32)).toInt64)))])) _
        exact hk
      obtain ⟨fs, hr, hrun, hended, hW, hsame⟩ := X0.leave (v := some (.long ((((own_strip 7 (p1 / (100 : Int32)) (2 : Int32)).1.toInt64) <<< ((3 : Int32) &&& 0x3f).toInt64) ||| (((own_strip 7 (p1 / (100 : Int32)) (2 : Int32)).2 - (1 : Int32)).toInt64)))) (fun h => by rw [Bd.returns] at h; cases h) Bd.notSynchronized
      exact ⟨_, _, K9 _ (X0.lreturnOut hx Bd.returns (hb hby d1_54) hr), hrun, hended, _, _, rfl, ⟨by rw [own_sec, if_neg hc6, if_pos hc13], N0, e0⟩, ⟨_, rfl⟩, hW, hsame.mono (by decide) (by decide)⟩
    · have K10 : ∀ t, Steps p.tables e below (s₁.setTop (mkF m 53 #[.val (.int p1), .val (.long ((p1.toInt64) <<< ((3 : Int32) &&& 0x3f).toInt64)), .second, .unset, .unset] [])) t → Steps p.tables e below (s₁.setTop (entryFrame m #[(.int p1)] 5)) t := by
        intro t hk
        refine K5 t ?_
        show Steps p.tables e below (s₁.setTop (mkF m 13 #[.val (.int p1), .val (.long ((p1.toInt64) <<< ((3 : Int32) &&& 0x3f).toInt64)), .second, .unset, .unset] [(.int (p1 % (100 : Int32)))])) _
        refine XS.ifYes X0.here hx rfl (pc0 := 13) (pc' := 53) rfl (hb hby d1_13) rfl ((if0 _ _).trans (feq hc13).2) (by decide) (by decide) ?_
        exact hk
      have K11 : ∀ t, Steps p.tables e below (s₁.setTop (mkF m 54 #[.val (.int p1), .val (.long ((p1.toInt64) <<< ((3 : Int32) &&& 0x3f).toInt64)), .second, .unset, .unset] [(.long ((p1.toInt64) <<< ((3 : Int32) &&& 0x3f).toInt64))])) t → Steps p.tables e below (s₁.setTop (entryFrame m #[(.int p1)] 5)) t := by
        intro t hk
        refine K10 t ?_
        show Steps p.tables e below (s₁.setTop (mkF m 53 #[.val (.int p1), .val (.long ((p1.toInt64) <<< ((3 : Int32) &&& 0x3f).toInt64)), .second, .unset, .unset] [])) _
        refine XS.lloadN X0.here hx rfl (hb hby d1_53) rfl ?_
        show Steps p.tables e below (s₁.setTop (mkF m 54 #[.val (.int p1), .val (.long ((p1.toInt64) <<< ((3 : Int32) &&& 0x3f).toInt64)), .second, .unset, .unset] [(.long ((p1.toInt64) <<< ((3 : Int32) &&& 0x3f).toInt64))])) _
        exact hk
      obtain ⟨fs, hr, hrun, hended, hW, hsame⟩ := X0.leave (v := some (.long ((p1.toInt64) <<< ((3 : Int32) &&& 0x3f).toInt64))) (fun h => by rw [Bd.returns] at h; cases h) Bd.notSynchronized
      exact ⟨_, _, K11 _ (X0.lreturnOut hx Bd.returns (hb hby d1_54) hr), hrun, hended, _, _, rfl, ⟨by rw [own_sec, if_neg hc6, if_neg hc13], N0, e0⟩, ⟨_, rfl⟩, hW, hsame.mono (by decide) (by decide)⟩
theorem own_sl (n a b : Int32) (A : Int) (ha : a.toInt = A) (hb : b.toInt = A * 10) (hA : 0 < A) (a1 : a ≠ -1) (b1 : b ≠ -1) (h0 : 0 ≤ n.toInt) (hd : n.toInt % A = 0) (k : Nat) (z : Int32) :
    own_strip (k + 1) (n / a) z = if (n % b) = (0 : Int32) then own_strip k (n / b) (z + (1 : Int32)) else (n / a, z) := by
  have e1 : (n / a).toInt = n.toInt / A := (c_idiv n a A ha a1).1 h0
  have e2 : (n / b).toInt = n.toInt / (A * 10) := (c_idiv n b _ hb b1).1 h0
  have n1 : 0 ≤ (n / a).toInt := by rw [e1]; exact Int.ediv_nonneg h0 (by omega)
  have e3 : n / a / (10 : Int32) = n / b := by
    apply Int32.toInt_inj.mp
    rw [own_div10 _ n1, e1, e2, Int.ediv_ediv_of_nonneg (by omega)]
  have e4 : (n / a % (10 : Int32)) = (0 : Int32) ↔ (n % b) = (0 : Int32) := by
    rw [own_mod10 _ n1, e1, ← Int32.toInt_inj, (c_irem n b _ hb).1 h0]
    have q : n.toInt = A * (n.toInt / A) := (Int.mul_ediv_cancel' (Int.dvd_of_emod_eq_zero hd)).symm
    have r : n.toInt % (A * 10) = A * (n.toInt / A % 10) := by
      conv => lhs; rw [q]
      exact Int.mul_emod_mul_of_pos _ _ hA
    rw [r]
    show _ ↔ A * (n.toInt / A % 10) = 0
    constructor
    · intro h; rw [h, Int.mul_zero]
    · intro h; rcases Int.mul_eq_zero.mp h with h | h
      · omega
      · exact h
  show (if (n / a % (10 : Int32)) = (0 : Int32) then own_strip k (n / a / (10 : Int32)) (z + (1 : Int32)) else (n / a, z)) = _
  by_cases c : (n % b) = (0 : Int32)
  · rw [if_pos c, if_pos (e4.mpr c), e3]
  · rw [if_neg c, if_neg (fun q => c (e4.mp q))]
theorem own_fin (x a b : Int64) (h : a = b) : x ||| a = x ||| b := by rw [h]
theorem own_same (n : Int32) (h0 : 0 ≤ n.toInt) (h1 : n.toInt < 1000000000) : own_sec n = own_f2_0 n := by
  have i (k : Int32) (K : Int) (hk : k.toInt = K) : (n % k) = (0 : Int32) ↔ n.toInt % K = 0 := by
    rw [← Int32.toInt_inj, (c_irem n k K hk).1 h0]; exact Iff.rfl
  have i2 := i (100 : Int32) 100 (by decide)
  have i3 := i (1000 : Int32) 1000 (by decide)
  have i4 := i (10000 : Int32) 10000 (by decide)
  have i5 := i (100000 : Int32) 100000 (by decide)
  have i6 := i (1000000 : Int32) 1000000 (by decide)
  have i7 := i (10000000 : Int32) 10000000 (by decide)
  have i8 := i (100000000 : Int32) 100000000 (by decide)
  have i9 := i (1000000000 : Int32) 1000000000 (by decide)
  unfold own_sec own_f2_0 own_f2_11
  by_cases hz : n = (0 : Int32)
  · rw [if_pos hz, if_pos hz]
  · rw [if_neg hz, if_neg hz]
    have hz' : n.toInt ≠ 0 := fun q => hz (Int32.toInt_inj.mp q)
    by_cases c2 : (n % (100 : Int32)) = (0 : Int32)
    · rw [if_pos c2, if_pos c2]
      have m2 := i2.mp c2
      have s2 := own_sl n (100 : Int32) (1000 : Int32) 100 (by decide) (by decide) (by decide) (by decide) (by decide) h0 m2 6 (2 : Int32)
      have c9 : ¬ (n % (1000000000 : Int32)) = (0 : Int32) := fun q => by have := i9.mp q; omega
      by_cases c3 : (n % (1000 : Int32)) = (0 : Int32)
      · have s3 := own_sl n (1000 : Int32) (10000 : Int32) 1000 (by decide) (by decide) (by decide) (by decide) (by decide) h0 (i3.mp c3) 5 ((2 : Int32) + (1 : Int32))
        by_cases c4 : (n % (10000 : Int32)) = (0 : Int32)
        · have s4 := own_sl n (10000 : Int32) (100000 : Int32) 10000 (by decide) (by decide) (by decide) (by decide) (by decide) h0 (i4.mp c4) 4 ((2 : Int32) + (1 : Int32) + (1 : Int32))
          by_cases c5 : (n % (100000 : Int32)) = (0 : Int32)
          · have s5 := own_sl n (100000 : Int32) (1000000 : Int32) 100000 (by decide) (by decide) (by decide) (by decide) (by decide) h0 (i5.mp c5) 3 ((2 : Int32) + (1 : Int32) + (1 : Int32) + (1 : Int32))
            by_cases c6 : (n % (1000000 : Int32)) = (0 : Int32)
            · have s6 := own_sl n (1000000 : Int32) (10000000 : Int32) 1000000 (by decide) (by decide) (by decide) (by decide) (by decide) h0 (i6.mp c6) 2 ((2 : Int32) + (1 : Int32) + (1 : Int32) + (1 : Int32) + (1 : Int32))
              by_cases c7 : (n % (10000000 : Int32)) = (0 : Int32)
              · have s7 := own_sl n (10000000 : Int32) (100000000 : Int32) 10000000 (by decide) (by decide) (by decide) (by decide) (by decide) h0 (i7.mp c7) 1 ((2 : Int32) + (1 : Int32) + (1 : Int32) + (1 : Int32) + (1 : Int32) + (1 : Int32))
                by_cases c8 : (n % (100000000 : Int32)) = (0 : Int32)
                · have s8 := own_sl n (100000000 : Int32) (1000000000 : Int32) 100000000 (by decide) (by decide) (by decide) (by decide) (by decide) h0 (i8.mp c8) 0 ((2 : Int32) + (1 : Int32) + (1 : Int32) + (1 : Int32) + (1 : Int32) + (1 : Int32) + (1 : Int32))
                  rw [s2, if_pos c3, s3, if_pos c4, s4, if_pos c5, s5, if_pos c6, s6, if_pos c7, s7, if_pos c8, s8, if_neg c9, if_pos c8]; exact own_fin _ (((2 : Int32) + (1 : Int32) + (1 : Int32) + (1 : Int32) + (1 : Int32) + (1 : Int32) + (1 : Int32)) - (1 : Int32)).toInt64 (7 : Int64) (by decide)
                · rw [s2, if_pos c3, s3, if_pos c4, s4, if_pos c5, s5, if_pos c6, s6, if_pos c7, s7, if_neg c8, if_neg c8, if_pos c7]; exact own_fin _ (((2 : Int32) + (1 : Int32) + (1 : Int32) + (1 : Int32) + (1 : Int32) + (1 : Int32)) - (1 : Int32)).toInt64 (6 : Int64) (by decide)
              · have d8 : ¬ (n % (100000000 : Int32)) = (0 : Int32) := fun q => c7 (i7.mpr (by have := i8.mp q; omega))
                rw [s2, if_pos c3, s3, if_pos c4, s4, if_pos c5, s5, if_pos c6, s6, if_neg c7, if_neg d8, if_neg c7, if_pos c6]; exact own_fin _ (((2 : Int32) + (1 : Int32) + (1 : Int32) + (1 : Int32) + (1 : Int32)) - (1 : Int32)).toInt64 (5 : Int64) (by decide)
            · have d8 : ¬ (n % (100000000 : Int32)) = (0 : Int32) := fun q => c6 (i6.mpr (by have := i8.mp q; omega))
              have d7 : ¬ (n % (10000000 : Int32)) = (0 : Int32) := fun q => c6 (i6.mpr (by have := i7.mp q; omega))
              rw [s2, if_pos c3, s3, if_pos c4, s4, if_pos c5, s5, if_neg c6, if_neg d8, if_neg d7, if_neg c6, if_pos c5]; exact own_fin _ (((2 : Int32) + (1 : Int32) + (1 : Int32) + (1 : Int32)) - (1 : Int32)).toInt64 (4 : Int64) (by decide)
          · have d8 : ¬ (n % (100000000 : Int32)) = (0 : Int32) := fun q => c5 (i5.mpr (by have := i8.mp q; omega))
            have d7 : ¬ (n % (10000000 : Int32)) = (0 : Int32) := fun q => c5 (i5.mpr (by have := i7.mp q; omega))
            have d6 : ¬ (n % (1000000 : Int32)) = (0 : Int32) := fun q => c5 (i5.mpr (by have := i6.mp q; omega))
            rw [s2, if_pos c3, s3, if_pos c4, s4, if_neg c5, if_neg d8, if_neg d7, if_neg d6, if_neg c5, if_pos c4]; exact own_fin _ (((2 : Int32) + (1 : Int32) + (1 : Int32)) - (1 : Int32)).toInt64 (3 : Int64) (by decide)
        · have d8 : ¬ (n % (100000000 : Int32)) = (0 : Int32) := fun q => c4 (i4.mpr (by have := i8.mp q; omega))
          have d7 : ¬ (n % (10000000 : Int32)) = (0 : Int32) := fun q => c4 (i4.mpr (by have := i7.mp q; omega))
          have d6 : ¬ (n % (1000000 : Int32)) = (0 : Int32) := fun q => c4 (i4.mpr (by have := i6.mp q; omega))
          have d5 : ¬ (n % (100000 : Int32)) = (0 : Int32) := fun q => c4 (i4.mpr (by have := i5.mp q; omega))
          rw [s2, if_pos c3, s3, if_neg c4, if_neg d8, if_neg d7, if_neg d6, if_neg d5, if_neg c4, if_pos c3]; exact own_fin _ (((2 : Int32) + (1 : Int32)) - (1 : Int32)).toInt64 (2 : Int64) (by decide)
      · have d8 : ¬ (n % (100000000 : Int32)) = (0 : Int32) := fun q => c3 (i3.mpr (by have := i8.mp q; omega))
        have d7 : ¬ (n % (10000000 : Int32)) = (0 : Int32) := fun q => c3 (i3.mpr (by have := i7.mp q; omega))
        have d6 : ¬ (n % (1000000 : Int32)) = (0 : Int32) := fun q => c3 (i3.mpr (by have := i6.mp q; omega))
        have d5 : ¬ (n % (100000 : Int32)) = (0 : Int32) := fun q => c3 (i3.mpr (by have := i5.mp q; omega))
        have d4 : ¬ (n % (10000 : Int32)) = (0 : Int32) := fun q => c3 (i3.mpr (by have := i4.mp q; omega))
        rw [s2, if_neg c3, if_neg d8, if_neg d7, if_neg d6, if_neg d5, if_neg d4, if_neg c3]; exact own_fin _ (((2 : Int32)) - (1 : Int32)).toInt64 (1 : Int64) (by decide)
    · rw [if_neg c2, if_neg c2]
theorem own_idx (x : Int32) : ¬ ((x &&& (2147483647 : Int32)) % (9 : Int32)) < 0 ∧ ((x &&& (2147483647 : Int32)) % (9 : Int32)) < (9 : Int32) := by
  have q := c_and x (2147483647 : Int32) (by decide)
  have r := (c_irem (x &&& (2147483647 : Int32)) (9 : Int32) 9 (by decide)).1 q.1
  rw [Int32.lt_iff_toInt_lt, Int32.lt_iff_toInt_lt, r]
  show ¬ _ < (0 : Int) ∧ _ < (9 : Int)
  omega
theorem own_clamp (s : Int32) (h0 : ¬ s < 0) (n : Nat) (k : Int32) (hk : k.toInt = n) (h1 : s < k) : s.toNatClampNeg < n ∧ s.toInt = s.toNatClampNeg := by
  rw [Int32.lt_iff_toInt_lt] at h0 h1
  have e0 : (0 : Int32).toInt = 0 := by decide
  simp only [Int32.toNatClampNeg]; omega
theorem own_pw (m u w : Int64) (a b : Int) (hu : u.toInt = a) (hw : w.toInt = b) (h0 : 0 < a) (h1 : 0 < b) (h2 : a * b = 1000000000) (hm : 0 ≤ m.toInt) : 0 ≤ (((m % u) * w).toInt32).toInt ∧ (((m % u) * w).toInt32).toInt < 1000000000 := by
  have r : (m % u).toInt = m.toInt % a := by rw [Int64.toInt_mod, hu]; exact Int.tmod_eq_emod_of_nonneg hm
  have q1 := Int.emod_nonneg m.toInt (show a ≠ 0 by omega)
  have q2 := Int.emod_lt_of_pos m.toInt h0
  generalize m.toInt % a = y at *
  have p1 : 0 ≤ y * b := Int.mul_nonneg q1 (by omega)
  have p2 : y * b < 1000000000 := by rw [← h2]; exact Int.mul_lt_mul_of_pos_right q2 h1
  have e1 : ((m % u) * w).toInt = y * b := by rw [(Int64.toInt_mul _ _).trans (Int.bmod_eq_of_le (by rw [r, hw]; omega) (by rw [r, hw]; omega)), r, hw]
  have e2 : (((m % u) * w).toInt32).toInt = y * b := by rw [(Int64.toInt_toInt32 _).trans (Int.bmod_eq_of_le (by rw [e1]; omega) (by rw [e1]; omega)), e1]
  rw [e2]; exact ⟨p1, p2⟩
theorem own_tab (n : Nat) (h : n < 9) (u w : Int64) (e1 : ([(.long (1 : Int64)), (.long (10 : Int64)), (.long (100 : Int64)), (.long (1000 : Int64)), (.long (10000 : Int64)), (.long (100000 : Int64)), (.long (1000000 : Int64)), (.long (10000000 : Int64)), (.long (100000000 : Int64)), (.long (1000000000 : Int64))] : List Value).getD (9 - n) (.long (0 : Int64)) = .long u) (e2 : ([(.long (1 : Int64)), (.long (10 : Int64)), (.long (100 : Int64)), (.long (1000 : Int64)), (.long (10000 : Int64)), (.long (100000 : Int64)), (.long (1000000 : Int64)), (.long (10000000 : Int64)), (.long (100000000 : Int64)), (.long (1000000000 : Int64))] : List Value).getD n (.long (0 : Int64)) = .long w) : u ≠ 0 ∧ 0 < u.toInt ∧ 0 < w.toInt ∧ u.toInt * w.toInt = 1000000000 := by
  match n, h with
  | 0, _ => cases e1; cases e2; decide
  | 1, _ => cases e1; cases e2; decide
  | 2, _ => cases e1; cases e2; decide
  | 3, _ => cases e1; cases e2; decide
  | 4, _ => cases e1; cases e2; decide
  | 5, _ => cases e1; cases e2; decide
  | 6, _ => cases e1; cases e2; decide
  | 7, _ => cases e1; cases e2; decide
  | 8, _ => cases e1; cases e2; decide
theorem ef_0 (m : MethodId) (x0 : Int32) (x1 : Int32) : entryFrame m #[(.int x0), (.int x1)] maxLocals = mkF m 0 #[.val (.int x0), .val (.int x1), .unset, .unset, .unset, .unset, .unset, .unset, .unset, .unset, .unset] [] := by first | (simp [entryFrame, mkF, argsToLocals, Value.category, maxLocals]; done) | rfl
theorem pn_0 : plainName "com/example/bitrun/bitrun/orc/timestamp/TimestampLayoutSecondaryNumberPinLaw" = true := by first | (simp [plainName, overriddenIn]; done) | decide +kernel
def Q_rm0 (Z : State) (p1 : Int32) (p2 : Int32)  (h0 : Heap) (n0 : Nat) (v : Option Value) (h : Heap) (L : List Loc) : Prop := v = some (.int (1 : Int32)) ∧ Fr n0 L
set_option maxRecDepth 65536 in
set_option maxHeartbeats 40000000 in
theorem rm0 (l : Launch) (Z : State) (a0 : Array Value) (hw : ∀ d ∈ tables_1, d.before a0 Z = true) (ws : List Jvm.Cond) (p1 : Int32) (p2 : Int32)  (h0 : Heap) (n0 : Nat) (Z0 : n0 ≤ h0.size)  :
    MetFree l x (head1 (Jvm.Cond.code x code maxLocals ret :: ws) room_1) (fun a U => a = #[(.int p1), (.int p2)] ∧ Z.Warmed39 U.vm ∧ U.heap = h0) (fun _ _ _ _ _ => True) (fun _ U o U' => ∃ v L, o = .returned v ∧ Q_rm0 Z p1 p2  h0 n0 v U'.heap L ∧ FrameEnd U o U' L 16 128) := by
  refine MetFree.of_bodySF (plainFor_of_name pn_0) hisR ?_
  intro p e s m args below meth c s₁ Bd hml0 hP hK
  obtain ⟨rfl, hZ, hh⟩ := hP
  have hx := Bd.exec
  have hby := Bd.bytes
  have hml : c.maxLocals = 11 := hml0
  have hown : s.vm.findClass "com/example/bitrun/bitrun/orc/timestamp/TimestampLayoutSecondaryNumberPinLaw" = some m.cls := findClass_of_methodNamed Bd.named
  have hnm := (name_of_methodNamed Bd.named Bd.method).1
  have X0 : Stand p l e room_1 s m #[(.int p1), (.int p2)] below meth c s₁ [] 0 0 := Stand.of_body Bd
  have e0 : s₁.heap = h0 := by rw [← hh, Bd.state]; rfl
  have N0 := Fr.nil n0
  have pre0 : ∀ t, Steps p.tables e below (s₁.setTop (mkF m 0 #[.val (.int p1), .val (.int p2), .unset, .unset, .unset, .unset, .unset, .unset, .unset, .unset, .unset] [])) t → Steps p.tables e below (s₁.setTop (entryFrame m #[(.int p1), (.int p2)] maxLocals)) t := fun t k => castTop (ef_0 m p1 p2) k
  have K1 : ∀ t, Steps p.tables e below (s₁.setTop (mkF m 2 #[.val (.int p1), .val (.int p2), .unset, .unset, .unset, .unset, .unset, .unset, .unset, .unset, .unset] [(.int (10 : Int32))])) t → Steps p.tables e below (s₁.setTop (entryFrame m #[(.int p1), (.int p2)] maxLocals)) t := by
    intro t hk
    refine pre0 t ?_
    show Steps p.tables e below (s₁.setTop (mkF m 0 #[.val (.int p1), .val (.int p2), .unset, .unset, .unset, .unset, .unset, .unset, .unset, .unset, .unset] [])) _
    refine XS.bipush X0.here hx rfl (hb hby at_0) ?_
    show Steps p.tables e below (s₁.setTop (mkF m 2 #[.val (.int p1), .val (.int p2), .unset, .unset, .unset, .unset, .unset, .unset, .unset, .unset, .unset] [(.int (10 : Int32))])) _
    exact hk
  obtain ⟨T2, h2, c2, X2, e2, E2, A2, st2⟩ := newP X0 hx hZ (hw _ (List.mem_of_getElem? (i := 0) rfl)) e0 (g := (mkF m 2 #[.val (.int p1), .val (.int p2), .unset, .unset, .unset, .unset, .unset, .unset, .unset, .unset, .unset] [(.int (10 : Int32))])) rfl (hb hby at_2) rfl (by decide) (cap := 10) (by decide) (by decide) (by decide) (by decide)
  obtain ⟨b2, g2⟩ : ∃ z, z = h0.size := ⟨_, rfl⟩
  rw [← g2] at A2 st2
  have V2 : Arv Z h2 b2 c2 .long (10 : Int32) [(.long (0 : Int64)), (.long (0 : Int64)), (.long (0 : Int64)), (.long (0 : Int64)), (.long (0 : Int64)), (.long (0 : Int64)), (.long (0 : Int64)), (.long (0 : Int64)), (.long (0 : Int64)), (.long (0 : Int64))] (.long (0 : Int64)) := (Arv.new A2 (by decide)).pad (pad_rep [] (.long (0 : Int64)) 10)
  have gb2 : n0 ≤ b2 := Nat.le_trans Z0 (Nat.le_of_eq g2.symm)
  have K2 : ∀ t, Steps p.tables e below (T2.setTop (mkF m 4 #[.val (.int p1), .val (.int p2), .unset, .unset, .unset, .unset, .unset, .unset, .unset, .unset, .unset] [(.ref b2)])) t → Steps p.tables e below (s₁.setTop (entryFrame m #[(.int p1), (.int p2)] maxLocals)) t := fun t hk => K1 t (st2 _ hk)
  have sz2 : n0 ≤ h2.size := Nat.le_trans Z0 E2.1
  have K3 : ∀ t, Steps p.tables e below (T2.setTop (mkF m 7 #[.val (.int p1), .val (.int p2), .unset, .unset, .unset, .unset, .unset, .unset, .unset, .unset, .unset] [(.long (1 : Int64)), (.int (0 : Int32)), (.ref b2), (.ref b2)])) t → Steps p.tables e below (s₁.setTop (entryFrame m #[(.int p1), (.int p2)] maxLocals)) t := by
    intro t hk
    refine K2 t ?_
    show Steps p.tables e below (T2.setTop (mkF m 4 #[.val (.int p1), .val (.int p2), .unset, .unset, .unset, .unset, .unset, .unset, .unset, .unset, .unset] [(.ref b2)])) _
    refine XS.dup X2.here hx rfl (hb hby at_4) rfl rfl ?_
    show Steps p.tables e below (T2.setTop (mkF m 5 #[.val (.int p1), .val (.int p2), .unset, .unset, .unset, .unset, .unset, .unset, .unset, .unset, .unset] [(.ref b2), (.ref b2)])) _
    refine XS.iconst X2.here hx rfl (hb hby at_5) ?_
    show Steps p.tables e below (T2.setTop (mkF m 6 #[.val (.int p1), .val (.int p2), .unset, .unset, .unset, .unset, .unset, .unset, .unset, .unset, .unset] [(.int (0 : Int32)), (.ref b2), (.ref b2)])) _
    refine XS.lconst X2.here hx rfl (hb hby at_6) ?_
    show Steps p.tables e below (T2.setTop (mkF m 7 #[.val (.int p1), .val (.int p2), .unset, .unset, .unset, .unset, .unset, .unset, .unset, .unset, .unset] [(.long (1 : Int64)), (.int (0 : Int32)), (.ref b2), (.ref b2)])) _
    exact hk
  obtain ⟨T4, h4, X4, e4, W4, V4', st4⟩ := own_stJ X2 hx hZ e2 V2 (j := (0 : Int32)) 0 rfl ⟨by decide, by decide⟩ (by decide) (g := (mkF m 7 #[.val (.int p1), .val (.int p2), .unset, .unset, .unset, .unset, .unset, .unset, .unset, .unset, .unset] [(.long (1 : Int64)), (.int (0 : Int32)), (.ref b2), (.ref b2)])) rfl rfl (hb hby at_7)
  have V4 : Arv Z h4 b2 c2 .long (10 : Int32) [(.long (1 : Int64)), (.long (0 : Int64)), (.long (0 : Int64)), (.long (0 : Int64)), (.long (0 : Int64)), (.long (0 : Int64)), (.long (0 : Int64)), (.long (0 : Int64)), (.long (0 : Int64)), (.long (0 : Int64))] (.long (0 : Int64)) := V4'
  have N4 := Fr.snoc X4 N0 gb2
  have sz4 : n0 ≤ h4.size := Nat.le_trans sz2 (Keep.of_wr W4).1
  have K4 : ∀ t, Steps p.tables e below (T4.setTop (mkF m 8 #[.val (.int p1), .val (.int p2), .unset, .unset, .unset, .unset, .unset, .unset, .unset, .unset, .unset] [(.ref b2)])) t → Steps p.tables e below (s₁.setTop (entryFrame m #[(.int p1), (.int p2)] maxLocals)) t := fun t hk => K3 t (st4 _ hk)
  have K5 : ∀ t, Steps p.tables e below (T4.setTop (mkF m 13 #[.val (.int p1), .val (.int p2), .unset, .unset, .unset, .unset, .unset, .unset, .unset, .unset, .unset] [(.long (10 : Int64)), (.int (1 : Int32)), (.ref b2), (.ref b2)])) t → Steps p.tables e below (s₁.setTop (entryFrame m #[(.int p1), (.int p2)] maxLocals)) t := by
    intro t hk
    refine K4 t ?_
    show Steps p.tables e below (T4.setTop (mkF m 8 #[.val (.int p1), .val (.int p2), .unset, .unset, .unset, .unset, .unset, .unset, .unset, .unset, .unset] [(.ref b2)])) _
    refine XS.dup X4.here hx rfl (hb hby at_8) rfl rfl ?_
    show Steps p.tables e below (T4.setTop (mkF m 9 #[.val (.int p1), .val (.int p2), .unset, .unset, .unset, .unset, .unset, .unset, .unset, .unset, .unset] [(.ref b2), (.ref b2)])) _
    refine XS.iconst X4.here hx rfl (hb hby at_9) ?_
    show Steps p.tables e below (T4.setTop (mkF m 10 #[.val (.int p1), .val (.int p2), .unset, .unset, .unset, .unset, .unset, .unset, .unset, .unset, .unset] [(.int (1 : Int32)), (.ref b2), (.ref b2)])) _
    refine X4.ldc2Long hx hown (mvT hZ (hw _ (List.mem_of_getElem? (i := 1) rfl))) (g := (mkF m 10 #[.val (.int p1), .val (.int p2), .unset, .unset, .unset, .unset, .unset, .unset, .unset, .unset, .unset] [(.int (1 : Int32)), (.ref b2), (.ref b2)])) rfl (hb hby at_10) _ ?_
    show Steps p.tables e below (T4.setTop (mkF m 13 #[.val (.int p1), .val (.int p2), .unset, .unset, .unset, .unset, .unset, .unset, .unset, .unset, .unset] [(.long (10 : Int64)), (.int (1 : Int32)), (.ref b2), (.ref b2)])) _
    exact hk
  obtain ⟨T6, h6, X6, e6, W6, V6', st6⟩ := own_stJ X4 hx hZ e4 V4 (j := (1 : Int32)) 1 rfl ⟨by decide, by decide⟩ (by decide) (g := (mkF m 13 #[.val (.int p1), .val (.int p2), .unset, .unset, .unset, .unset, .unset, .unset, .unset, .unset, .unset] [(.long (10 : Int64)), (.int (1 : Int32)), (.ref b2), (.ref b2)])) rfl rfl (hb hby at_13)
  have V6 : Arv Z h6 b2 c2 .long (10 : Int32) [(.long (1 : Int64)), (.long (10 : Int64)), (.long (0 : Int64)), (.long (0 : Int64)), (.long (0 : Int64)), (.long (0 : Int64)), (.long (0 : Int64)), (.long (0 : Int64)), (.long (0 : Int64)), (.long (0 : Int64))] (.long (0 : Int64)) := V6'
  have N6 := Fr.snoc X6 N4 gb2
  have sz6 : n0 ≤ h6.size := Nat.le_trans sz4 (Keep.of_wr W6).1
  have K6 : ∀ t, Steps p.tables e below (T6.setTop (mkF m 14 #[.val (.int p1), .val (.int p2), .unset, .unset, .unset, .unset, .unset, .unset, .unset, .unset, .unset] [(.ref b2)])) t → Steps p.tables e below (s₁.setTop (entryFrame m #[(.int p1), (.int p2)] maxLocals)) t := fun t hk => K5 t (st6 _ hk)
  have K7 : ∀ t, Steps p.tables e below (T6.setTop (mkF m 19 #[.val (.int p1), .val (.int p2), .unset, .unset, .unset, .unset, .unset, .unset, .unset, .unset, .unset] [(.long (100 : Int64)), (.int (2 : Int32)), (.ref b2), (.ref b2)])) t → Steps p.tables e below (s₁.setTop (entryFrame m #[(.int p1), (.int p2)] maxLocals)) t := by
    intro t hk
    refine K6 t ?_
    show Steps p.tables e below (T6.setTop (mkF m 14 #[.val (.int p1), .val (.int p2), .unset, .unset, .unset, .unset, .unset, .unset, .unset, .unset, .unset] [(.ref b2)])) _
    refine XS.dup X6.here hx rfl (hb hby at_14) rfl rfl ?_
    show Steps p.tables e below (T6.setTop (mkF m 15 #[.val (.int p1), .val (.int p2), .unset, .unset, .unset, .unset, .unset, .unset, .unset, .unset, .unset] [(.ref b2), (.ref b2)])) _
    refine XS.iconst X6.here hx rfl (hb hby at_15) ?_
    show Steps p.tables e below (T6.setTop (mkF m 16 #[.val (.int p1), .val (.int p2), .unset, .unset, .unset, .unset, .unset, .unset, .unset, .unset, .unset] [(.int (2 : Int32)), (.ref b2), (.ref b2)])) _
    refine X6.ldc2Long hx hown (mvT hZ (hw _ (List.mem_of_getElem? (i := 2) rfl))) (g := (mkF m 16 #[.val (.int p1), .val (.int p2), .unset, .unset, .unset, .unset, .unset, .unset, .unset, .unset, .unset] [(.int (2 : Int32)), (.ref b2), (.ref b2)])) rfl (hb hby at_16) _ ?_
    show Steps p.tables e below (T6.setTop (mkF m 19 #[.val (.int p1), .val (.int p2), .unset, .unset, .unset, .unset, .unset, .unset, .unset, .unset, .unset] [(.long (100 : Int64)), (.int (2 : Int32)), (.ref b2), (.ref b2)])) _
    exact hk
  obtain ⟨T8, h8, X8, e8, W8, V8', st8⟩ := own_stJ X6 hx hZ e6 V6 (j := (2 : Int32)) 2 rfl ⟨by decide, by decide⟩ (by decide) (g := (mkF m 19 #[.val (.int p1), .val (.int p2), .unset, .unset, .unset, .unset, .unset, .unset, .unset, .unset, .unset] [(.long (100 : Int64)), (.int (2 : Int32)), (.ref b2), (.ref b2)])) rfl rfl (hb hby at_19)
  have V8 : Arv Z h8 b2 c2 .long (10 : Int32) [(.long (1 : Int64)), (.long (10 : Int64)), (.long (100 : Int64)), (.long (0 : Int64)), (.long (0 : Int64)), (.long (0 : Int64)), (.long (0 : Int64)), (.long (0 : Int64)), (.long (0 : Int64)), (.long (0 : Int64))] (.long (0 : Int64)) := V8'
  have N8 := Fr.snoc X8 N6 gb2
  have sz8 : n0 ≤ h8.size := Nat.le_trans sz6 (Keep.of_wr W8).1
  have K8 : ∀ t, Steps p.tables e below (T8.setTop (mkF m 20 #[.val (.int p1), .val (.int p2), .unset, .unset, .unset, .unset, .unset, .unset, .unset, .unset, .unset] [(.ref b2)])) t → Steps p.tables e below (s₁.setTop (entryFrame m #[(.int p1), (.int p2)] maxLocals)) t := fun t hk => K7 t (st8 _ hk)
  have K9 : ∀ t, Steps p.tables e below (T8.setTop (mkF m 25 #[.val (.int p1), .val (.int p2), .unset, .unset, .unset, .unset, .unset, .unset, .unset, .unset, .unset] [(.long (1000 : Int64)), (.int (3 : Int32)), (.ref b2), (.ref b2)])) t → Steps p.tables e below (s₁.setTop (entryFrame m #[(.int p1), (.int p2)] maxLocals)) t := by
    intro t hk
    refine K8 t ?_
    show Steps p.tables e below (T8.setTop (mkF m 20 #[.val (.int p1), .val (.int p2), .unset, .unset, .unset, .unset, .unset, .unset, .unset, .unset, .unset] [(.ref b2)])) _
    refine XS.dup X8.here hx rfl (hb hby at_20) rfl rfl ?_
    show Steps p.tables e below (T8.setTop (mkF m 21 #[.val (.int p1), .val (.int p2), .unset, .unset, .unset, .unset, .unset, .unset, .unset, .unset, .unset] [(.ref b2), (.ref b2)])) _
    refine XS.iconst X8.here hx rfl (hb hby at_21) ?_
    show Steps p.tables e below (T8.setTop (mkF m 22 #[.val (.int p1), .val (.int p2), .unset, .unset, .unset, .unset, .unset, .unset, .unset, .unset, .unset] [(.int (3 : Int32)), (.ref b2), (.ref b2)])) _
    refine X8.ldc2Long hx hown (mvT hZ (hw _ (List.mem_of_getElem? (i := 3) rfl))) (g := (mkF m 22 #[.val (.int p1), .val (.int p2), .unset, .unset, .unset, .unset, .unset, .unset, .unset, .unset, .unset] [(.int (3 : Int32)), (.ref b2), (.ref b2)])) rfl (hb hby at_22) _ ?_
    show Steps p.tables e below (T8.setTop (mkF m 25 #[.val (.int p1), .val (.int p2), .unset, .unset, .unset, .unset, .unset, .unset, .unset, .unset, .unset] [(.long (1000 : Int64)), (.int (3 : Int32)), (.ref b2), (.ref b2)])) _
    exact hk
  obtain ⟨T10, h10, X10, e10, W10, V10', st10⟩ := own_stJ X8 hx hZ e8 V8 (j := (3 : Int32)) 3 rfl ⟨by decide, by decide⟩ (by decide) (g := (mkF m 25 #[.val (.int p1), .val (.int p2), .unset, .unset, .unset, .unset, .unset, .unset, .unset, .unset, .unset] [(.long (1000 : Int64)), (.int (3 : Int32)), (.ref b2), (.ref b2)])) rfl rfl (hb hby at_25)
  have V10 : Arv Z h10 b2 c2 .long (10 : Int32) [(.long (1 : Int64)), (.long (10 : Int64)), (.long (100 : Int64)), (.long (1000 : Int64)), (.long (0 : Int64)), (.long (0 : Int64)), (.long (0 : Int64)), (.long (0 : Int64)), (.long (0 : Int64)), (.long (0 : Int64))] (.long (0 : Int64)) := V10'
  have N10 := Fr.snoc X10 N8 gb2
  have sz10 : n0 ≤ h10.size := Nat.le_trans sz8 (Keep.of_wr W10).1
  have K10 : ∀ t, Steps p.tables e below (T10.setTop (mkF m 26 #[.val (.int p1), .val (.int p2), .unset, .unset, .unset, .unset, .unset, .unset, .unset, .unset, .unset] [(.ref b2)])) t → Steps p.tables e below (s₁.setTop (entryFrame m #[(.int p1), (.int p2)] maxLocals)) t := fun t hk => K9 t (st10 _ hk)
  have K11 : ∀ t, Steps p.tables e below (T10.setTop (mkF m 31 #[.val (.int p1), .val (.int p2), .unset, .unset, .unset, .unset, .unset, .unset, .unset, .unset, .unset] [(.long (10000 : Int64)), (.int (4 : Int32)), (.ref b2), (.ref b2)])) t → Steps p.tables e below (s₁.setTop (entryFrame m #[(.int p1), (.int p2)] maxLocals)) t := by
    intro t hk
    refine K10 t ?_
    show Steps p.tables e below (T10.setTop (mkF m 26 #[.val (.int p1), .val (.int p2), .unset, .unset, .unset, .unset, .unset, .unset, .unset, .unset, .unset] [(.ref b2)])) _
    refine XS.dup X10.here hx rfl (hb hby at_26) rfl rfl ?_
    show Steps p.tables e below (T10.setTop (mkF m 27 #[.val (.int p1), .val (.int p2), .unset, .unset, .unset, .unset, .unset, .unset, .unset, .unset, .unset] [(.ref b2), (.ref b2)])) _
    refine XS.iconst X10.here hx rfl (hb hby at_27) ?_
    show Steps p.tables e below (T10.setTop (mkF m 28 #[.val (.int p1), .val (.int p2), .unset, .unset, .unset, .unset, .unset, .unset, .unset, .unset, .unset] [(.int (4 : Int32)), (.ref b2), (.ref b2)])) _
    refine X10.ldc2Long hx hown (mvT hZ (hw _ (List.mem_of_getElem? (i := 4) rfl))) (g := (mkF m 28 #[.val (.int p1), .val (.int p2), .unset, .unset, .unset, .unset, .unset, .unset, .unset, .unset, .unset] [(.int (4 : Int32)), (.ref b2), (.ref b2)])) rfl (hb hby at_28) _ ?_
    show Steps p.tables e below (T10.setTop (mkF m 31 #[.val (.int p1), .val (.int p2), .unset, .unset, .unset, .unset, .unset, .unset, .unset, .unset, .unset] [(.long (10000 : Int64)), (.int (4 : Int32)), (.ref b2), (.ref b2)])) _
    exact hk
  obtain ⟨T12, h12, X12, e12, W12, V12', st12⟩ := own_stJ X10 hx hZ e10 V10 (j := (4 : Int32)) 4 rfl ⟨by decide, by decide⟩ (by decide) (g := (mkF m 31 #[.val (.int p1), .val (.int p2), .unset, .unset, .unset, .unset, .unset, .unset, .unset, .unset, .unset] [(.long (10000 : Int64)), (.int (4 : Int32)), (.ref b2), (.ref b2)])) rfl rfl (hb hby at_31)
  have V12 : Arv Z h12 b2 c2 .long (10 : Int32) [(.long (1 : Int64)), (.long (10 : Int64)), (.long (100 : Int64)), (.long (1000 : Int64)), (.long (10000 : Int64)), (.long (0 : Int64)), (.long (0 : Int64)), (.long (0 : Int64)), (.long (0 : Int64)), (.long (0 : Int64))] (.long (0 : Int64)) := V12'
  have N12 := Fr.snoc X12 N10 gb2
  have sz12 : n0 ≤ h12.size := Nat.le_trans sz10 (Keep.of_wr W12).1
  have K12 : ∀ t, Steps p.tables e below (T12.setTop (mkF m 32 #[.val (.int p1), .val (.int p2), .unset, .unset, .unset, .unset, .unset, .unset, .unset, .unset, .unset] [(.ref b2)])) t → Steps p.tables e below (s₁.setTop (entryFrame m #[(.int p1), (.int p2)] maxLocals)) t := fun t hk => K11 t (st12 _ hk)
  have K13 : ∀ t, Steps p.tables e below (T12.setTop (mkF m 37 #[.val (.int p1), .val (.int p2), .unset, .unset, .unset, .unset, .unset, .unset, .unset, .unset, .unset] [(.long (100000 : Int64)), (.int (5 : Int32)), (.ref b2), (.ref b2)])) t → Steps p.tables e below (s₁.setTop (entryFrame m #[(.int p1), (.int p2)] maxLocals)) t := by
    intro t hk
    refine K12 t ?_
    show Steps p.tables e below (T12.setTop (mkF m 32 #[.val (.int p1), .val (.int p2), .unset, .unset, .unset, .unset, .unset, .unset, .unset, .unset, .unset] [(.ref b2)])) _
    refine XS.dup X12.here hx rfl (hb hby at_32) rfl rfl ?_
    show Steps p.tables e below (T12.setTop (mkF m 33 #[.val (.int p1), .val (.int p2), .unset, .unset, .unset, .unset, .unset, .unset, .unset, .unset, .unset] [(.ref b2), (.ref b2)])) _
    refine XS.iconst X12.here hx rfl (hb hby at_33) ?_
    show Steps p.tables e below (T12.setTop (mkF m 34 #[.val (.int p1), .val (.int p2), .unset, .unset, .unset, .unset, .unset, .unset, .unset, .unset, .unset] [(.int (5 : Int32)), (.ref b2), (.ref b2)])) _
    refine X12.ldc2Long hx hown (mvT hZ (hw _ (List.mem_of_getElem? (i := 5) rfl))) (g := (mkF m 34 #[.val (.int p1), .val (.int p2), .unset, .unset, .unset, .unset, .unset, .unset, .unset, .unset, .unset] [(.int (5 : Int32)), (.ref b2), (.ref b2)])) rfl (hb hby at_34) _ ?_
    show Steps p.tables e below (T12.setTop (mkF m 37 #[.val (.int p1), .val (.int p2), .unset, .unset, .unset, .unset, .unset, .unset, .unset, .unset, .unset] [(.long (100000 : Int64)), (.int (5 : Int32)), (.ref b2), (.ref b2)])) _
    exact hk
  obtain ⟨T14, h14, X14, e14, W14, V14', st14⟩ := own_stJ X12 hx hZ e12 V12 (j := (5 : Int32)) 5 rfl ⟨by decide, by decide⟩ (by decide) (g := (mkF m 37 #[.val (.int p1), .val (.int p2), .unset, .unset, .unset, .unset, .unset, .unset, .unset, .unset, .unset] [(.long (100000 : Int64)), (.int (5 : Int32)), (.ref b2), (.ref b2)])) rfl rfl (hb hby at_37)
  have V14 : Arv Z h14 b2 c2 .long (10 : Int32) [(.long (1 : Int64)), (.long (10 : Int64)), (.long (100 : Int64)), (.long (1000 : Int64)), (.long (10000 : Int64)), (.long (100000 : Int64)), (.long (0 : Int64)), (.long (0 : Int64)), (.long (0 : Int64)), (.long (0 : Int64))] (.long (0 : Int64)) := V14'
  have N14 := Fr.snoc X14 N12 gb2
  have sz14 : n0 ≤ h14.size := Nat.le_trans sz12 (Keep.of_wr W14).1
  have K14 : ∀ t, Steps p.tables e below (T14.setTop (mkF m 38 #[.val (.int p1), .val (.int p2), .unset, .unset, .unset, .unset, .unset, .unset, .unset, .unset, .unset] [(.ref b2)])) t → Steps p.tables e below (s₁.setTop (entryFrame m #[(.int p1), (.int p2)] maxLocals)) t := fun t hk => K13 t (st14 _ hk)
  have K15 : ∀ t, Steps p.tables e below (T14.setTop (mkF m 44 #[.val (.int p1), .val (.int p2), .unset, .unset, .unset, .unset, .unset, .unset, .unset, .unset, .unset] [(.long (1000000 : Int64)), (.int (6 : Int32)), (.ref b2), (.ref b2)])) t → Steps p.tables e below (s₁.setTop (entryFrame m #[(.int p1), (.int p2)] maxLocals)) t := by
    intro t hk
    refine K14 t ?_
    show Steps p.tables e below (T14.setTop (mkF m 38 #[.val (.int p1), .val (.int p2), .unset, .unset, .unset, .unset, .unset, .unset, .unset, .unset, .unset] [(.ref b2)])) _
    refine XS.dup X14.here hx rfl (hb hby at_38) rfl rfl ?_
    show Steps p.tables e below (T14.setTop (mkF m 39 #[.val (.int p1), .val (.int p2), .unset, .unset, .unset, .unset, .unset, .unset, .unset, .unset, .unset] [(.ref b2), (.ref b2)])) _
    refine XS.bipush X14.here hx rfl (hb hby at_39) ?_
    show Steps p.tables e below (T14.setTop (mkF m 41 #[.val (.int p1), .val (.int p2), .unset, .unset, .unset, .unset, .unset, .unset, .unset, .unset, .unset] [(.int (6 : Int32)), (.ref b2), (.ref b2)])) _
    refine X14.ldc2Long hx hown (mvT hZ (hw _ (List.mem_of_getElem? (i := 6) rfl))) (g := (mkF m 41 #[.val (.int p1), .val (.int p2), .unset, .unset, .unset, .unset, .unset, .unset, .unset, .unset, .unset] [(.int (6 : Int32)), (.ref b2), (.ref b2)])) rfl (hb hby at_41) _ ?_
    show Steps p.tables e below (T14.setTop (mkF m 44 #[.val (.int p1), .val (.int p2), .unset, .unset, .unset, .unset, .unset, .unset, .unset, .unset, .unset] [(.long (1000000 : Int64)), (.int (6 : Int32)), (.ref b2), (.ref b2)])) _
    exact hk
  obtain ⟨T16, h16, X16, e16, W16, V16', st16⟩ := own_stJ X14 hx hZ e14 V14 (j := (6 : Int32)) 6 rfl ⟨by decide, by decide⟩ (by decide) (g := (mkF m 44 #[.val (.int p1), .val (.int p2), .unset, .unset, .unset, .unset, .unset, .unset, .unset, .unset, .unset] [(.long (1000000 : Int64)), (.int (6 : Int32)), (.ref b2), (.ref b2)])) rfl rfl (hb hby at_44)
  have V16 : Arv Z h16 b2 c2 .long (10 : Int32) [(.long (1 : Int64)), (.long (10 : Int64)), (.long (100 : Int64)), (.long (1000 : Int64)), (.long (10000 : Int64)), (.long (100000 : Int64)), (.long (1000000 : Int64)), (.long (0 : Int64)), (.long (0 : Int64)), (.long (0 : Int64))] (.long (0 : Int64)) := V16'
  have N16 := Fr.snoc X16 N14 gb2
  have sz16 : n0 ≤ h16.size := Nat.le_trans sz14 (Keep.of_wr W16).1
  have K16 : ∀ t, Steps p.tables e below (T16.setTop (mkF m 45 #[.val (.int p1), .val (.int p2), .unset, .unset, .unset, .unset, .unset, .unset, .unset, .unset, .unset] [(.ref b2)])) t → Steps p.tables e below (s₁.setTop (entryFrame m #[(.int p1), (.int p2)] maxLocals)) t := fun t hk => K15 t (st16 _ hk)
  have K17 : ∀ t, Steps p.tables e below (T16.setTop (mkF m 51 #[.val (.int p1), .val (.int p2), .unset, .unset, .unset, .unset, .unset, .unset, .unset, .unset, .unset] [(.long (10000000 : Int64)), (.int (7 : Int32)), (.ref b2), (.ref b2)])) t → Steps p.tables e below (s₁.setTop (entryFrame m #[(.int p1), (.int p2)] maxLocals)) t := by
    intro t hk
    refine K16 t ?_
    show Steps p.tables e below (T16.setTop (mkF m 45 #[.val (.int p1), .val (.int p2), .unset, .unset, .unset, .unset, .unset, .unset, .unset, .unset, .unset] [(.ref b2)])) _
    refine XS.dup X16.here hx rfl (hb hby at_45) rfl rfl ?_
    show Steps p.tables e below (T16.setTop (mkF m 46 #[.val (.int p1), .val (.int p2), .unset, .unset, .unset, .unset, .unset, .unset, .unset, .unset, .unset] [(.ref b2), (.ref b2)])) _
    refine XS.bipush X16.here hx rfl (hb hby at_46) ?_
    show Steps p.tables e below (T16.setTop (mkF m 48 #[.val (.int p1), .val (.int p2), .unset, .unset, .unset, .unset, .unset, .unset, .unset, .unset, .unset] [(.int (7 : Int32)), (.ref b2), (.ref b2)])) _
    refine X16.ldc2Long hx hown (mvT hZ (hw _ (List.mem_of_getElem? (i := 7) rfl))) (g := (mkF m 48 #[.val (.int p1), .val (.int p2), .unset, .unset, .unset, .unset, .unset, .unset, .unset, .unset, .unset] [(.int (7 : Int32)), (.ref b2), (.ref b2)])) rfl (hb hby at_48) _ ?_
    show Steps p.tables e below (T16.setTop (mkF m 51 #[.val (.int p1), .val (.int p2), .unset, .unset, .unset, .unset, .unset, .unset, .unset, .unset, .unset] [(.long (10000000 : Int64)), (.int (7 : Int32)), (.ref b2), (.ref b2)])) _
    exact hk
  obtain ⟨T18, h18, X18, e18, W18, V18', st18⟩ := own_stJ X16 hx hZ e16 V16 (j := (7 : Int32)) 7 rfl ⟨by decide, by decide⟩ (by decide) (g := (mkF m 51 #[.val (.int p1), .val (.int p2), .unset, .unset, .unset, .unset, .unset, .unset, .unset, .unset, .unset] [(.long (10000000 : Int64)), (.int (7 : Int32)), (.ref b2), (.ref b2)])) rfl rfl (hb hby at_51)
  have V18 : Arv Z h18 b2 c2 .long (10 : Int32) [(.long (1 : Int64)), (.long (10 : Int64)), (.long (100 : Int64)), (.long (1000 : Int64)), (.long (10000 : Int64)), (.long (100000 : Int64)), (.long (1000000 : Int64)), (.long (10000000 : Int64)), (.long (0 : Int64)), (.long (0 : Int64))] (.long (0 : Int64)) := V18'
  have N18 := Fr.snoc X18 N16 gb2
  have sz18 : n0 ≤ h18.size := Nat.le_trans sz16 (Keep.of_wr W18).1
  have K18 : ∀ t, Steps p.tables e below (T18.setTop (mkF m 52 #[.val (.int p1), .val (.int p2), .unset, .unset, .unset, .unset, .unset, .unset, .unset, .unset, .unset] [(.ref b2)])) t → Steps p.tables e below (s₁.setTop (entryFrame m #[(.int p1), (.int p2)] maxLocals)) t := fun t hk => K17 t (st18 _ hk)
  have K19 : ∀ t, Steps p.tables e below (T18.setTop (mkF m 58 #[.val (.int p1), .val (.int p2), .unset, .unset, .unset, .unset, .unset, .unset, .unset, .unset, .unset] [(.long (100000000 : Int64)), (.int (8 : Int32)), (.ref b2), (.ref b2)])) t → Steps p.tables e below (s₁.setTop (entryFrame m #[(.int p1), (.int p2)] maxLocals)) t := by
    intro t hk
    refine K18 t ?_
    show Steps p.tables e below (T18.setTop (mkF m 52 #[.val (.int p1), .val (.int p2), .unset, .unset, .unset, .unset, .unset, .unset, .unset, .unset, .unset] [(.ref b2)])) _
    refine XS.dup X18.here hx rfl (hb hby at_52) rfl rfl ?_
    show Steps p.tables e below (T18.setTop (mkF m 53 #[.val (.int p1), .val (.int p2), .unset, .unset, .unset, .unset, .unset, .unset, .unset, .unset, .unset] [(.ref b2), (.ref b2)])) _
    refine XS.bipush X18.here hx rfl (hb hby at_53) ?_
    show Steps p.tables e below (T18.setTop (mkF m 55 #[.val (.int p1), .val (.int p2), .unset, .unset, .unset, .unset, .unset, .unset, .unset, .unset, .unset] [(.int (8 : Int32)), (.ref b2), (.ref b2)])) _
    refine X18.ldc2Long hx hown (mvT hZ (hw _ (List.mem_of_getElem? (i := 8) rfl))) (g := (mkF m 55 #[.val (.int p1), .val (.int p2), .unset, .unset, .unset, .unset, .unset, .unset, .unset, .unset, .unset] [(.int (8 : Int32)), (.ref b2), (.ref b2)])) rfl (hb hby at_55) _ ?_
    show Steps p.tables e below (T18.setTop (mkF m 58 #[.val (.int p1), .val (.int p2), .unset, .unset, .unset, .unset, .unset, .unset, .unset, .unset, .unset] [(.long (100000000 : Int64)), (.int (8 : Int32)), (.ref b2), (.ref b2)])) _
    exact hk
  obtain ⟨T20, h20, X20, e20, W20, V20', st20⟩ := own_stJ X18 hx hZ e18 V18 (j := (8 : Int32)) 8 rfl ⟨by decide, by decide⟩ (by decide) (g := (mkF m 58 #[.val (.int p1), .val (.int p2), .unset, .unset, .unset, .unset, .unset, .unset, .unset, .unset, .unset] [(.long (100000000 : Int64)), (.int (8 : Int32)), (.ref b2), (.ref b2)])) rfl rfl (hb hby at_58)
  have V20 : Arv Z h20 b2 c2 .long (10 : Int32) [(.long (1 : Int64)), (.long (10 : Int64)), (.long (100 : Int64)), (.long (1000 : Int64)), (.long (10000 : Int64)), (.long (100000 : Int64)), (.long (1000000 : Int64)), (.long (10000000 : Int64)), (.long (100000000 : Int64)), (.long (0 : Int64))] (.long (0 : Int64)) := V20'
  have N20 := Fr.snoc X20 N18 gb2
  have sz20 : n0 ≤ h20.size := Nat.le_trans sz18 (Keep.of_wr W20).1
  have K20 : ∀ t, Steps p.tables e below (T20.setTop (mkF m 59 #[.val (.int p1), .val (.int p2), .unset, .unset, .unset, .unset, .unset, .unset, .unset, .unset, .unset] [(.ref b2)])) t → Steps p.tables e below (s₁.setTop (entryFrame m #[(.int p1), (.int p2)] maxLocals)) t := fun t hk => K19 t (st20 _ hk)
  have K21 : ∀ t, Steps p.tables e below (T20.setTop (mkF m 65 #[.val (.int p1), .val (.int p2), .unset, .unset, .unset, .unset, .unset, .unset, .unset, .unset, .unset] [(.long (1000000000 : Int64)), (.int (9 : Int32)), (.ref b2), (.ref b2)])) t → Steps p.tables e below (s₁.setTop (entryFrame m #[(.int p1), (.int p2)] maxLocals)) t := by
    intro t hk
    refine K20 t ?_
    show Steps p.tables e below (T20.setTop (mkF m 59 #[.val (.int p1), .val (.int p2), .unset, .unset, .unset, .unset, .unset, .unset, .unset, .unset, .unset] [(.ref b2)])) _
    refine XS.dup X20.here hx rfl (hb hby at_59) rfl rfl ?_
    show Steps p.tables e below (T20.setTop (mkF m 60 #[.val (.int p1), .val (.int p2), .unset, .unset, .unset, .unset, .unset, .unset, .unset, .unset, .unset] [(.ref b2), (.ref b2)])) _
    refine XS.bipush X20.here hx rfl (hb hby at_60) ?_
    show Steps p.tables e below (T20.setTop (mkF m 62 #[.val (.int p1), .val (.int p2), .unset, .unset, .unset, .unset, .unset, .unset, .unset, .unset, .unset] [(.int (9 : Int32)), (.ref b2), (.ref b2)])) _
    refine X20.ldc2Long hx hown (mvT hZ (hw _ (List.mem_of_getElem? (i := 9) rfl))) (g := (mkF m 62 #[.val (.int p1), .val (.int p2), .unset, .unset, .unset, .unset, .unset, .unset, .unset, .unset, .unset] [(.int (9 : Int32)), (.ref b2), (.ref b2)])) rfl (hb hby at_62) _ ?_
    show Steps p.tables e below (T20.setTop (mkF m 65 #[.val (.int p1), .val (.int p2), .unset, .unset, .unset, .unset, .unset, .unset, .unset, .unset, .unset] [(.long (1000000000 : Int64)), (.int (9 : Int32)), (.ref b2), (.ref b2)])) _
    exact hk
  obtain ⟨T22, h22, X22, e22, W22, V22', st22⟩ := own_stJ X20 hx hZ e20 V20 (j := (9 : Int32)) 9 rfl ⟨by decide, by decide⟩ (by decide) (g := (mkF m 65 #[.val (.int p1), .val (.int p2), .unset, .unset, .unset, .unset, .unset, .unset, .unset, .unset, .unset] [(.long (1000000000 : Int64)), (.int (9 : Int32)), (.ref b2), (.ref b2)])) rfl rfl (hb hby at_65)
  have V22 : Arv Z h22 b2 c2 .long (10 : Int32) [(.long (1 : Int64)), (.long (10 : Int64)), (.long (100 : Int64)), (.long (1000 : Int64)), (.long (10000 : Int64)), (.long (100000 : Int64)), (.long (1000000 : Int64)), (.long (10000000 : Int64)), (.long (100000000 : Int64)), (.long (1000000000 : Int64))] (.long (0 : Int64)) := V22'
  have N22 := Fr.snoc X22 N20 gb2
  have sz22 : n0 ≤ h22.size := Nat.le_trans sz20 (Keep.of_wr W22).1
  have K22 : ∀ t, Steps p.tables e below (T22.setTop (mkF m 66 #[.val (.int p1), .val (.int p2), .unset, .unset, .unset, .unset, .unset, .unset, .unset, .unset, .unset] [(.ref b2)])) t → Steps p.tables e below (s₁.setTop (entryFrame m #[(.int p1), (.int p2)] maxLocals)) t := fun t hk => K21 t (st22 _ hk)
  have K23 : ∀ t, Steps p.tables e below (T22.setTop (mkF m 74 #[.val (.int p1), .val (.int p2), .val (.ref b2), .unset, .unset, .unset, .unset, .unset, .unset, .unset, .unset] [(.int ((p2 &&& (2147483647 : Int32)) % (9 : Int32)))])) t → Steps p.tables e below (s₁.setTop (entryFrame m #[(.int p1), (.int p2)] maxLocals)) t := by
    intro t hk
    refine K22 t ?_
    show Steps p.tables e below (T22.setTop (mkF m 66 #[.val (.int p1), .val (.int p2), .unset, .unset, .unset, .unset, .unset, .unset, .unset, .unset, .unset] [(.ref b2)])) _
    refine XS.astoreN X22.here hx rfl (hb hby at_66) rfl rfl (l' := #[.val (.int p1), .val (.int p2), .val (.ref b2), .unset, .unset, .unset, .unset, .unset, .unset, .unset, .unset]) rfl ?_
    show Steps p.tables e below (T22.setTop (mkF m 67 #[.val (.int p1), .val (.int p2), .val (.ref b2), .unset, .unset, .unset, .unset, .unset, .unset, .unset, .unset] [])) _
    refine XS.iloadN X22.here hx rfl (hb hby at_67) rfl ?_
    show Steps p.tables e below (T22.setTop (mkF m 68 #[.val (.int p1), .val (.int p2), .val (.ref b2), .unset, .unset, .unset, .unset, .unset, .unset, .unset, .unset] [(.int p2)])) _
    refine X22.ldcInt hx hown (mvT hZ (hw _ (List.mem_of_getElem? (i := 10) rfl))) (g := (mkF m 68 #[.val (.int p1), .val (.int p2), .val (.ref b2), .unset, .unset, .unset, .unset, .unset, .unset, .unset, .unset] [(.int p2)])) rfl (hb hby at_68) _ ?_
    show Steps p.tables e below (T22.setTop (mkF m 70 #[.val (.int p1), .val (.int p2), .val (.ref b2), .unset, .unset, .unset, .unset, .unset, .unset, .unset, .unset] [(.int (2147483647 : Int32)), (.int p2)])) _
    refine XS.iand X22.here hx rfl (hb hby at_70) rfl ?_
    show Steps p.tables e below (T22.setTop (mkF m 71 #[.val (.int p1), .val (.int p2), .val (.ref b2), .unset, .unset, .unset, .unset, .unset, .unset, .unset, .unset] [(.int (p2 &&& (2147483647 : Int32)))])) _
    refine XS.bipush X22.here hx rfl (hb hby at_71) ?_
    show Steps p.tables e below (T22.setTop (mkF m 73 #[.val (.int p1), .val (.int p2), .val (.ref b2), .unset, .unset, .unset, .unset, .unset, .unset, .unset, .unset] [(.int (9 : Int32)), (.int (p2 &&& (2147483647 : Int32)))])) _
    refine XS.irem X22.here hx rfl (hb hby at_73) rfl (by decide) ?_
    rw [Jvm.irem_eq_mod (p2 &&& (2147483647 : Int32)) (9 : Int32)]
    show Steps p.tables e below (T22.setTop (mkF m 74 #[.val (.int p1), .val (.int p2), .val (.ref b2), .unset, .unset, .unset, .unset, .unset, .unset, .unset, .unset] [(.int ((p2 &&& (2147483647 : Int32)) % (9 : Int32)))])) _
    exact hk
  obtain ⟨k5, hk5⟩ : ∃ z, z = ((p2 &&& (2147483647 : Int32)) % (9 : Int32)) := ⟨_, rfl⟩
  have K24 : ∀ t, Steps p.tables e below (T22.setTop (mkF m 74 #[.val (.int p1), .val (.int p2), .val (.ref b2), .unset, .unset, .unset, .unset, .unset, .unset, .unset, .unset] [(.int k5)])) t → Steps p.tables e below (s₁.setTop (entryFrame m #[(.int p1), (.int p2)] maxLocals)) t := by rw [hk5]; exact K23
  have bk := own_idx p2
  rw [← hk5] at bk
  obtain ⟨kb1, kb2⟩ := own_clamp k5 bk.1 9 (9 : Int32) (by decide) bk.2
  have eJ : ((9 : Int32) - k5).toInt = 9 - k5.toInt := by
    have e1 : (9 : Int32).toInt = 9 := by decide
    rw [(Int32.toInt_sub 9 k5).trans (Int.bmod_eq_of_le (by omega) (by omega)), e1]
  have eJn : ((9 : Int32) - k5).toNatClampNeg = 9 - k5.toNatClampNeg := by
    have q : ((9 : Int32) - k5).toNatClampNeg = ((9 : Int32) - k5).toInt.toNat := rfl
    rw [q, eJ]; omega
  have bJ : ¬ ((9 : Int32) - k5) < 0 ∧ ((9 : Int32) - k5) < (10 : Int32) := by
    have e15 : (10 : Int32).toInt = 10 := by decide
    have e0 : (0 : Int32).toInt = 0 := by decide
    rw [Int32.lt_iff_toInt_lt, Int32.lt_iff_toInt_lt, eJ]; omega
  have bk2 : ¬ k5 < 0 ∧ k5 < (10 : Int32) := by
    refine ⟨bk.1, ?_⟩
    have e15 : (10 : Int32).toInt = 10 := by decide
    rw [Int32.lt_iff_toInt_lt]; omega
  have K25 : ∀ t, Steps p.tables e below (T22.setTop (mkF m 80 #[.val (.int p1), .val (.int p2), .val (.ref b2), .val (.int k5), .unset, .unset, .unset, .unset, .unset, .unset, .unset] [(.int ((9 : Int32) - k5)), (.ref b2)])) t → Steps p.tables e below (s₁.setTop (entryFrame m #[(.int p1), (.int p2)] maxLocals)) t := by
    intro t hk
    refine K24 t ?_
    show Steps p.tables e below (T22.setTop (mkF m 74 #[.val (.int p1), .val (.int p2), .val (.ref b2), .unset, .unset, .unset, .unset, .unset, .unset, .unset, .unset] [(.int k5)])) _
    refine XS.istoreN X22.here hx rfl (hb hby at_74) rfl (l' := #[.val (.int p1), .val (.int p2), .val (.ref b2), .val (.int k5), .unset, .unset, .unset, .unset, .unset, .unset, .unset]) rfl ?_
    show Steps p.tables e below (T22.setTop (mkF m 75 #[.val (.int p1), .val (.int p2), .val (.ref b2), .val (.int k5), .unset, .unset, .unset, .unset, .unset, .unset, .unset] [])) _
    refine XS.aloadN X22.here hx rfl (hb hby at_75) rfl rfl ?_
    show Steps p.tables e below (T22.setTop (mkF m 76 #[.val (.int p1), .val (.int p2), .val (.ref b2), .val (.int k5), .unset, .unset, .unset, .unset, .unset, .unset, .unset] [(.ref b2)])) _
    refine XS.bipush X22.here hx rfl (hb hby at_76) ?_
    show Steps p.tables e below (T22.setTop (mkF m 78 #[.val (.int p1), .val (.int p2), .val (.ref b2), .val (.int k5), .unset, .unset, .unset, .unset, .unset, .unset, .unset] [(.int (9 : Int32)), (.ref b2)])) _
    refine XS.iloadN X22.here hx rfl (hb hby at_78) rfl ?_
    show Steps p.tables e below (T22.setTop (mkF m 79 #[.val (.int p1), .val (.int p2), .val (.ref b2), .val (.int k5), .unset, .unset, .unset, .unset, .unset, .unset, .unset] [(.int k5), (.int (9 : Int32)), (.ref b2)])) _
    refine XS.isub X22.here hx rfl (hb hby at_79) rfl ?_
    show Steps p.tables e below (T22.setTop (mkF m 80 #[.val (.int p1), .val (.int p2), .val (.ref b2), .val (.int k5), .unset, .unset, .unset, .unset, .unset, .unset, .unset] [(.int ((9 : Int32) - k5)), (.ref b2)])) _
    exact hk
  obtain ⟨u1, hv_u1, st26⟩ := own_ldJ X22 hx hZ e22 V22 (j := ((9 : Int32) - k5)) bJ (g := (mkF m 80 #[.val (.int p1), .val (.int p2), .val (.ref b2), .val (.int k5), .unset, .unset, .unset, .unset, .unset, .unset, .unset] [(.int ((9 : Int32) - k5)), (.ref b2)])) rfl rfl (hb hby at_80)
  have K26 : ∀ t, Steps p.tables e below (T22.setTop (mkF m 81 #[.val (.int p1), .val (.int p2), .val (.ref b2), .val (.int k5), .unset, .unset, .unset, .unset, .unset, .unset, .unset] [(.long u1)])) t → Steps p.tables e below (s₁.setTop (entryFrame m #[(.int p1), (.int p2)] maxLocals)) t := fun t hk => K25 t (st26 _ hk)
  rw [eJn] at hv_u1
  have K27 : ∀ t, Steps p.tables e below (T22.setTop (mkF m 90 #[.val (.int p1), .val (.int p2), .val (.ref b2), .val (.int k5), .val (.long u1), .second, .unset, .unset, .unset, .unset, .unset] [(.long u1), (.long ((p1 &&& (2147483647 : Int32)).toInt64))])) t → Steps p.tables e below (s₁.setTop (entryFrame m #[(.int p1), (.int p2)] maxLocals)) t := by
    intro t hk
    refine K26 t ?_
    show Steps p.tables e below (T22.setTop (mkF m 81 #[.val (.int p1), .val (.int p2), .val (.ref b2), .val (.int k5), .unset, .unset, .unset, .unset, .unset, .unset, .unset] [(.long u1)])) _
    refine XS.lstore X22.here hx rfl (hb hby at_81) rfl (l' := #[.val (.int p1), .val (.int p2), .val (.ref b2), .val (.int k5), .val (.long u1), .second, .unset, .unset, .unset, .unset, .unset]) rfl ?_
    show Steps p.tables e below (T22.setTop (mkF m 83 #[.val (.int p1), .val (.int p2), .val (.ref b2), .val (.int k5), .val (.long u1), .second, .unset, .unset, .unset, .unset, .unset] [])) _
    refine XS.iloadN X22.here hx rfl (hb hby at_83) rfl ?_
    show Steps p.tables e below (T22.setTop (mkF m 84 #[.val (.int p1), .val (.int p2), .val (.ref b2), .val (.int k5), .val (.long u1), .second, .unset, .unset, .unset, .unset, .unset] [(.int p1)])) _
    refine X22.ldcInt hx hown (mvT hZ (hw _ (List.mem_of_getElem? (i := 10) rfl))) (g := (mkF m 84 #[.val (.int p1), .val (.int p2), .val (.ref b2), .val (.int k5), .val (.long u1), .second, .unset, .unset, .unset, .unset, .unset] [(.int p1)])) rfl (hb hby at_84) _ ?_
    show Steps p.tables e below (T22.setTop (mkF m 86 #[.val (.int p1), .val (.int p2), .val (.ref b2), .val (.int k5), .val (.long u1), .second, .unset, .unset, .unset, .unset, .unset] [(.int (2147483647 : Int32)), (.int p1)])) _
    refine XS.iand X22.here hx rfl (hb hby at_86) rfl ?_
    show Steps p.tables e below (T22.setTop (mkF m 87 #[.val (.int p1), .val (.int p2), .val (.ref b2), .val (.int k5), .val (.long u1), .second, .unset, .unset, .unset, .unset, .unset] [(.int (p1 &&& (2147483647 : Int32)))])) _
    refine XS.i2l X22.here hx rfl (hb hby at_87) rfl ?_
    show Steps p.tables e below (T22.setTop (mkF m 88 #[.val (.int p1), .val (.int p2), .val (.ref b2), .val (.int k5), .val (.long u1), .second, .unset, .unset, .unset, .unset, .unset] [(.long ((p1 &&& (2147483647 : Int32)).toInt64))])) _
    refine XS.lload X22.here hx rfl (hb hby at_88) rfl ?_
    show Steps p.tables e below (T22.setTop (mkF m 90 #[.val (.int p1), .val (.int p2), .val (.ref b2), .val (.int k5), .val (.long u1), .second, .unset, .unset, .unset, .unset, .unset] [(.long u1), (.long ((p1 &&& (2147483647 : Int32)).toInt64))])) _
    exact hk
  have hnz90 : u1 ≠ 0 := by
    obtain ⟨w', hw'⟩ : ∃ w' : Int64, ([(.long (1 : Int64)), (.long (10 : Int64)), (.long (100 : Int64)), (.long (1000 : Int64)), (.long (10000 : Int64)), (.long (100000 : Int64)), (.long (1000000 : Int64)), (.long (10000000 : Int64)), (.long (100000000 : Int64)), (.long (1000000000 : Int64))] : List Value).getD k5.toNatClampNeg (.long (0 : Int64)) = .long w' := by
      generalize k5.toNatClampNeg = n at kb1
      match n, kb1 with
      | 0, _ => exact ⟨_, rfl⟩
      | 1, _ => exact ⟨_, rfl⟩
      | 2, _ => exact ⟨_, rfl⟩
      | 3, _ => exact ⟨_, rfl⟩
      | 4, _ => exact ⟨_, rfl⟩
      | 5, _ => exact ⟨_, rfl⟩
      | 6, _ => exact ⟨_, rfl⟩
      | 7, _ => exact ⟨_, rfl⟩
      | 8, _ => exact ⟨_, rfl⟩
    exact (own_tab _ kb1 u1 w' hv_u1 hw').1
  have K28 : ∀ t, Steps p.tables e below (T22.setTop (mkF m 97 #[.val (.int p1), .val (.int p2), .val (.ref b2), .val (.int k5), .val (.long u1), .second, .val (.long (((p1 &&& (2147483647 : Int32)).toInt64) % u1)), .second, .unset, .unset, .unset] [(.int k5), (.ref b2), (.long (((p1 &&& (2147483647 : Int32)).toInt64) % u1))])) t → Steps p.tables e below (s₁.setTop (entryFrame m #[(.int p1), (.int p2)] maxLocals)) t := by
    intro t hk
    refine K27 t ?_
    show Steps p.tables e below (T22.setTop (mkF m 90 #[.val (.int p1), .val (.int p2), .val (.ref b2), .val (.int k5), .val (.long u1), .second, .unset, .unset, .unset, .unset, .unset] [(.long u1), (.long ((p1 &&& (2147483647 : Int32)).toInt64))])) _
    refine XS.lrem X22.here hx rfl (hb hby at_90) rfl hnz90 ?_
    rw [Jvm.RoadKit.lrem_mod ((p1 &&& (2147483647 : Int32)).toInt64) u1]
    show Steps p.tables e below (T22.setTop (mkF m 91 #[.val (.int p1), .val (.int p2), .val (.ref b2), .val (.int k5), .val (.long u1), .second, .unset, .unset, .unset, .unset, .unset] [(.long (((p1 &&& (2147483647 : Int32)).toInt64) % u1))])) _
    refine XS.lstore X22.here hx rfl (hb hby at_91) rfl (l' := #[.val (.int p1), .val (.int p2), .val (.ref b2), .val (.int k5), .val (.long u1), .second, .val (.long (((p1 &&& (2147483647 : Int32)).toInt64) % u1)), .second, .unset, .unset, .unset]) rfl ?_
    show Steps p.tables e below (T22.setTop (mkF m 93 #[.val (.int p1), .val (.int p2), .val (.ref b2), .val (.int k5), .val (.long u1), .second, .val (.long (((p1 &&& (2147483647 : Int32)).toInt64) % u1)), .second, .unset, .unset, .unset] [])) _
    refine XS.lload X22.here hx rfl (hb hby at_93) rfl ?_
    show Steps p.tables e below (T22.setTop (mkF m 95 #[.val (.int p1), .val (.int p2), .val (.ref b2), .val (.int k5), .val (.long u1), .second, .val (.long (((p1 &&& (2147483647 : Int32)).toInt64) % u1)), .second, .unset, .unset, .unset] [(.long (((p1 &&& (2147483647 : Int32)).toInt64) % u1))])) _
    refine XS.aloadN X22.here hx rfl (hb hby at_95) rfl rfl ?_
    show Steps p.tables e below (T22.setTop (mkF m 96 #[.val (.int p1), .val (.int p2), .val (.ref b2), .val (.int k5), .val (.long u1), .second, .val (.long (((p1 &&& (2147483647 : Int32)).toInt64) % u1)), .second, .unset, .unset, .unset] [(.ref b2), (.long (((p1 &&& (2147483647 : Int32)).toInt64) % u1))])) _
    refine XS.iloadN X22.here hx rfl (hb hby at_96) rfl ?_
    show Steps p.tables e below (T22.setTop (mkF m 97 #[.val (.int p1), .val (.int p2), .val (.ref b2), .val (.int k5), .val (.long u1), .second, .val (.long (((p1 &&& (2147483647 : Int32)).toInt64) % u1)), .second, .unset, .unset, .unset] [(.int k5), (.ref b2), (.long (((p1 &&& (2147483647 : Int32)).toInt64) % u1))])) _
    exact hk
  obtain ⟨u2, hv_u2, st29⟩ := own_ldJ X22 hx hZ e22 V22 (j := k5) bk2 (g := (mkF m 97 #[.val (.int p1), .val (.int p2), .val (.ref b2), .val (.int k5), .val (.long u1), .second, .val (.long (((p1 &&& (2147483647 : Int32)).toInt64) % u1)), .second, .unset, .unset, .unset] [(.int k5), (.ref b2), (.long (((p1 &&& (2147483647 : Int32)).toInt64) % u1))])) rfl rfl (hb hby at_97)
  have K29 : ∀ t, Steps p.tables e below (T22.setTop (mkF m 98 #[.val (.int p1), .val (.int p2), .val (.ref b2), .val (.int k5), .val (.long u1), .second, .val (.long (((p1 &&& (2147483647 : Int32)).toInt64) % u1)), .second, .unset, .unset, .unset] [(.long u2), (.long (((p1 &&& (2147483647 : Int32)).toInt64) % u1))])) t → Steps p.tables e below (s₁.setTop (entryFrame m #[(.int p1), (.int p2)] maxLocals)) t := fun t hk => K28 t (st29 _ hk)
  obtain ⟨t1, t2, t3, t4⟩ := own_tab _ kb1 u1 u2 hv_u1 hv_u2
  have K30 : ∀ t, Steps p.tables e below (T22.setTop (mkF m 100 #[.val (.int p1), .val (.int p2), .val (.ref b2), .val (.int k5), .val (.long u1), .second, .val (.long (((p1 &&& (2147483647 : Int32)).toInt64) % u1)), .second, .unset, .unset, .unset] [(.int (((((p1 &&& (2147483647 : Int32)).toInt64) % u1) * u2).toInt32))])) t → Steps p.tables e below (s₁.setTop (entryFrame m #[(.int p1), (.int p2)] maxLocals)) t := by
    intro t hk
    refine K29 t ?_
    show Steps p.tables e below (T22.setTop (mkF m 98 #[.val (.int p1), .val (.int p2), .val (.ref b2), .val (.int k5), .val (.long u1), .second, .val (.long (((p1 &&& (2147483647 : Int32)).toInt64) % u1)), .second, .unset, .unset, .unset] [(.long u2), (.long (((p1 &&& (2147483647 : Int32)).toInt64) % u1))])) _
    refine XS.lmul X22.here hx rfl (hb hby at_98) rfl ?_
    show Steps p.tables e below (T22.setTop (mkF m 99 #[.val (.int p1), .val (.int p2), .val (.ref b2), .val (.int k5), .val (.long u1), .second, .val (.long (((p1 &&& (2147483647 : Int32)).toInt64) % u1)), .second, .unset, .unset, .unset] [(.long ((((p1 &&& (2147483647 : Int32)).toInt64) % u1) * u2))])) _
    refine XS.l2i X22.here hx rfl (hb hby at_99) rfl ?_
    show Steps p.tables e below (T22.setTop (mkF m 100 #[.val (.int p1), .val (.int p2), .val (.ref b2), .val (.int k5), .val (.long u1), .second, .val (.long (((p1 &&& (2147483647 : Int32)).toInt64) % u1)), .second, .unset, .unset, .unset] [(.int (((((p1 &&& (2147483647 : Int32)).toInt64) % u1) * u2).toInt32))])) _
    exact hk
  obtain ⟨n8, hn8⟩ : ∃ z, z = (((((p1 &&& (2147483647 : Int32)).toInt64) % u1) * u2).toInt32) := ⟨_, rfl⟩
  have K31 : ∀ t, Steps p.tables e below (T22.setTop (mkF m 100 #[.val (.int p1), .val (.int p2), .val (.ref b2), .val (.int k5), .val (.long u1), .second, .val (.long (((p1 &&& (2147483647 : Int32)).toInt64) % u1)), .second, .unset, .unset, .unset] [(.int n8)])) t → Steps p.tables e below (s₁.setTop (entryFrame m #[(.int p1), (.int p2)] maxLocals)) t := by rw [hn8]; exact K30
  have bn : 0 ≤ n8.toInt ∧ n8.toInt < 1000000000 := by
    rw [hn8]
    exact own_pw _ u1 u2 _ _ rfl rfl t2 t3 t4 (by rw [Int32.toInt_toInt64]; exact (c_and p1 (2147483647 : Int32) (by decide)).1)
  have K32 : ∀ t, Steps p.tables e below (T22.setTop (mkF m 104 #[.val (.int p1), .val (.int p2), .val (.ref b2), .val (.int k5), .val (.long u1), .second, .val (.long (((p1 &&& (2147483647 : Int32)).toInt64) % u1)), .second, .val (.int n8), .unset, .unset] [(.int n8)])) t → Steps p.tables e below (s₁.setTop (entryFrame m #[(.int p1), (.int p2)] maxLocals)) t := by
    intro t hk
    refine K31 t ?_
    show Steps p.tables e below (T22.setTop (mkF m 100 #[.val (.int p1), .val (.int p2), .val (.ref b2), .val (.int k5), .val (.long u1), .second, .val (.long (((p1 &&& (2147483647 : Int32)).toInt64) % u1)), .second, .unset, .unset, .unset] [(.int n8)])) _
    refine XS.istore X22.here hx rfl (hb hby at_100) rfl (l' := #[.val (.int p1), .val (.int p2), .val (.ref b2), .val (.int k5), .val (.long u1), .second, .val (.long (((p1 &&& (2147483647 : Int32)).toInt64) % u1)), .second, .val (.int n8), .unset, .unset]) rfl ?_
    show Steps p.tables e below (T22.setTop (mkF m 102 #[.val (.int p1), .val (.int p2), .val (.ref b2), .val (.int k5), .val (.long u1), .second, .val (.long (((p1 &&& (2147483647 : Int32)).toInt64) % u1)), .second, .val (.int n8), .unset, .unset] [])) _
    refine XS.iload X22.here hx rfl (hb hby at_102) rfl ?_
    show Steps p.tables e below (T22.setTop (mkF m 104 #[.val (.int p1), .val (.int p2), .val (.ref b2), .val (.int k5), .val (.long u1), .second, .val (.long (((p1 &&& (2147483647 : Int32)).toInt64) % u1)), .second, .val (.int n8), .unset, .unset] [(.int n8)])) _
    exact hk
  obtain ⟨_, _, ⟨T33, L33, k33, n33⟩, -, X33, ⟨Lc33, hQ33, l33, y33, z33⟩, st33⟩ := Jvm.LawKit.callS X22 hx (y := (⟨"com/example/bitrun/bitrun/orc/timestamp/TimestampLayout", "secondaryNumber", "(I)J"⟩ : MethodName)) hown (mvT hZ (hw _ (List.mem_of_getElem? (i := 11) rfl))) (mvT hZ (hw _ (List.mem_of_getElem? (i := 12) rfl))) (mvT hZ (hw _ (List.mem_of_getElem? (i := 13) rfl))) (mvT hZ (hw _ (List.mem_of_getElem? (i := 14) rfl))) (by decide) (backOf (W := 0) (rm1 l Z a0 hw [] n8  h22 n0 sz22 bn) hZ (hw _ (List.mem_of_getElem? (i := 14) rfl)) (hw _ (List.mem_of_getElem? (i := 13) rfl)) (by decide) (by decide)) (g := (mkF m 104 #[.val (.int p1), .val (.int p2), .val (.ref b2), .val (.int k5), .val (.long u1), .second, .val (.long (((p1 &&& (2147483647 : Int32)).toInt64) % u1)), .second, .val (.int n8), .unset, .unset] [(.int n8)])) rfl (by rw [hml]; rfl) (argsL := [(.int n8)]) (rest := []) (lenOf (by decide +kernel : parseMethodDescriptor "(I)J" = some ⟨[.int], (some .long)⟩) rfl) rfl (by show 2 * 0 + _ ≤ _; exact Nat.le_of_eq rfl) (hb hby at_104) (fun _ _ => ⟨rfl, e22, (by decide : 0 + 1 + 0 ≤ _), (by decide : 0 + 10 + 0 ≤ _)⟩)
  dsimp only [Pt.U, Pt.locs, Pt.cells, Pt.slots] at X33 l33 y33 z33 st33 hQ33
  subst l33 y33 z33
  obtain ⟨rfl, Nq33, e33⟩ := hQ33
  have N33 := Fr.app N22 Nq33
  have K33 : ∀ t, Steps p.tables e below (T33.setTop (mkF m 107 #[.val (.int p1), .val (.int p2), .val (.ref b2), .val (.int k5), .val (.long u1), .second, .val (.long (((p1 &&& (2147483647 : Int32)).toInt64) % u1)), .second, .val (.int n8), .unset, .unset] [(.long (own_sec n8))])) t → Steps p.tables e below (s₁.setTop (entryFrame m #[(.int p1), (.int p2)] maxLocals)) t := fun t hk => K32 t (st33 _ hk)
  have K34 : ∀ t, Steps p.tables e below (T33.setTop (mkF m 113 #[.val (.int p1), .val (.int p2), .val (.ref b2), .val (.int k5), .val (.long u1), .second, .val (.long (((p1 &&& (2147483647 : Int32)).toInt64) % u1)), .second, .val (.int n8), .val (.long (own_sec n8)), .second] [(.int n8), (.long (own_sec n8))])) t → Steps p.tables e below (s₁.setTop (entryFrame m #[(.int p1), (.int p2)] maxLocals)) t := by
    intro t hk
    refine K33 t ?_
    show Steps p.tables e below (T33.setTop (mkF m 107 #[.val (.int p1), .val (.int p2), .val (.ref b2), .val (.int k5), .val (.long u1), .second, .val (.long (((p1 &&& (2147483647 : Int32)).toInt64) % u1)), .second, .val (.int n8), .unset, .unset] [(.long (own_sec n8))])) _
    refine XS.lstore X33.here hx rfl (hb hby at_107) rfl (l' := #[.val (.int p1), .val (.int p2), .val (.ref b2), .val (.int k5), .val (.long u1), .second, .val (.long (((p1 &&& (2147483647 : Int32)).toInt64) % u1)), .second, .val (.int n8), .val (.long (own_sec n8)), .second]) rfl ?_
    show Steps p.tables e below (T33.setTop (mkF m 109 #[.val (.int p1), .val (.int p2), .val (.ref b2), .val (.int k5), .val (.long u1), .second, .val (.long (((p1 &&& (2147483647 : Int32)).toInt64) % u1)), .second, .val (.int n8), .val (.long (own_sec n8)), .second] [])) _
    refine XS.lload X33.here hx rfl (hb hby at_109) rfl ?_
    show Steps p.tables e below (T33.setTop (mkF m 111 #[.val (.int p1), .val (.int p2), .val (.ref b2), .val (.int k5), .val (.long u1), .second, .val (.long (((p1 &&& (2147483647 : Int32)).toInt64) % u1)), .second, .val (.int n8), .val (.long (own_sec n8)), .second] [(.long (own_sec n8))])) _
    refine XS.iload X33.here hx rfl (hb hby at_111) rfl ?_
    show Steps p.tables e below (T33.setTop (mkF m 113 #[.val (.int p1), .val (.int p2), .val (.ref b2), .val (.int k5), .val (.long u1), .second, .val (.long (((p1 &&& (2147483647 : Int32)).toInt64) % u1)), .second, .val (.int n8), .val (.long (own_sec n8)), .second] [(.int n8), (.long (own_sec n8))])) _
    exact hk
  obtain ⟨_, _, ⟨T35, L35, k35, n35⟩, -, X35, ⟨Lc35, hQ35, l35, y35, z35⟩, st35⟩ := Jvm.LawKit.callS X33 hx (y := (⟨"com/example/bitrun/bitrun/orc/timestamp/TimestampLayoutSecondaryNumberPinLaw", "expected", "(I)J"⟩ : MethodName)) hown (mvT hZ (hw _ (List.mem_of_getElem? (i := 15) rfl))) (mvT hZ (hw _ (List.mem_of_getElem? (i := 16) rfl))) (mvT hZ (hw _ (List.mem_of_getElem? (i := 17) rfl))) (mvT hZ (hw _ (List.mem_of_getElem? (i := 18) rfl))) (by decide) (backOf (W := 2) (rm2 l Z a0 hw [] n8  h22 n0 sz22 ) hZ (hw _ (List.mem_of_getElem? (i := 18) rfl)) (hw _ (List.mem_of_getElem? (i := 17) rfl)) (by decide) (by decide)) (g := (mkF m 113 #[.val (.int p1), .val (.int p2), .val (.ref b2), .val (.int k5), .val (.long u1), .second, .val (.long (((p1 &&& (2147483647 : Int32)).toInt64) % u1)), .second, .val (.int n8), .val (.long (own_sec n8)), .second] [(.int n8), (.long (own_sec n8))])) rfl (by rw [hml]; rfl) (argsL := [(.int n8)]) (rest := [(.long (own_sec n8))]) (lenOf (by decide +kernel : parseMethodDescriptor "(I)J" = some ⟨[.int], (some .long)⟩) rfl) rfl (by show 2 * 0 + _ ≤ _; exact Nat.le_of_eq rfl) (hb hby at_113) (fun _ _ => ⟨rfl, e33, (by decide : 0 + 1 + 0 + 0 ≤ _), (by decide : 0 + 10 + 0 + 0 ≤ _)⟩)
  dsimp only [Pt.U, Pt.locs, Pt.cells, Pt.slots] at X35 l35 y35 z35 st35 hQ35
  subst l35 y35 z35
  obtain ⟨rfl, Nq35, e35⟩ := hQ35
  have N35 := Fr.app N33 Nq35
  have K35 : ∀ t, Steps p.tables e below (T35.setTop (mkF m 116 #[.val (.int p1), .val (.int p2), .val (.ref b2), .val (.int k5), .val (.long u1), .second, .val (.long (((p1 &&& (2147483647 : Int32)).toInt64) % u1)), .second, .val (.int n8), .val (.long (own_sec n8)), .second] [(.long (own_f2_0 n8)), (.long (own_sec n8))])) t → Steps p.tables e below (s₁.setTop (entryFrame m #[(.int p1), (.int p2)] maxLocals)) t := fun t hk => K34 t (st35 _ hk)
  have K36 : ∀ t, Steps p.tables e below (T35.setTop (mkF m 117 #[.val (.int p1), .val (.int p2), .val (.ref b2), .val (.int k5), .val (.long u1), .second, .val (.long (((p1 &&& (2147483647 : Int32)).toInt64) % u1)), .second, .val (.int n8), .val (.long (own_sec n8)), .second] [(.int (lcmpW (own_sec n8) (own_f2_0 n8)))])) t → Steps p.tables e below (s₁.setTop (entryFrame m #[(.int p1), (.int p2)] maxLocals)) t := by
    intro t hk
    refine K35 t ?_
    show Steps p.tables e below (T35.setTop (mkF m 116 #[.val (.int p1), .val (.int p2), .val (.ref b2), .val (.int k5), .val (.long u1), .second, .val (.long (((p1 &&& (2147483647 : Int32)).toInt64) % u1)), .second, .val (.int n8), .val (.long (own_sec n8)), .second] [(.long (own_f2_0 n8)), (.long (own_sec n8))])) _
    refine XS.lcmp X35.here hx rfl (hb hby at_116) rfl ?_
    show Steps p.tables e below (T35.setTop (mkF m 117 #[.val (.int p1), .val (.int p2), .val (.ref b2), .val (.int k5), .val (.long u1), .second, .val (.long (((p1 &&& (2147483647 : Int32)).toInt64) % u1)), .second, .val (.int n8), .val (.long (own_sec n8)), .second] [(.int (lcmpW (own_sec n8) (own_f2_0 n8)))])) _
    exact hk
  have hc117 : (own_sec n8) = (own_f2_0 n8) := own_same n8 bn.1 bn.2
  have K37 : ∀ t, Steps p.tables e below (T35.setTop (mkF m 120 #[.val (.int p1), .val (.int p2), .val (.ref b2), .val (.int k5), .val (.long u1), .second, .val (.long (((p1 &&& (2147483647 : Int32)).toInt64) % u1)), .second, .val (.int n8), .val (.long (own_sec n8)), .second] [])) t → Steps p.tables e below (s₁.setTop (entryFrame m #[(.int p1), (.int p2)] maxLocals)) t := by
    intro t hk
    refine K36 t ?_
    show Steps p.tables e below (T35.setTop (mkF m 117 #[.val (.int p1), .val (.int p2), .val (.ref b2), .val (.int k5), .val (.long u1), .second, .val (.long (((p1 &&& (2147483647 : Int32)).toInt64) % u1)), .second, .val (.int n8), .val (.long (own_sec n8)), .second] [(.int (lcmpW (own_sec n8) (own_f2_0 n8)))])) _
    refine XS.ifNo X35.here hx rfl (hb hby at_117) rfl ((if0 _ _).trans (teq ((lw_eq _ _).mpr hc117)).2) ?_
    exact hk
  have K38 : ∀ t, Steps p.tables e below (T35.setTop (mkF m 125 #[.val (.int p1), .val (.int p2), .val (.ref b2), .val (.int k5), .val (.long u1), .second, .val (.long (((p1 &&& (2147483647 : Int32)).toInt64) % u1)), .second, .val (.int n8), .val (.long (own_sec n8)), .second] [(.int (1 : Int32))])) t → Steps p.tables e below (s₁.setTop (entryFrame m #[(.int p1), (.int p2)] maxLocals)) t := by
    intro t hk
    refine K37 t ?_
    show Steps p.tables e below (T35.setTop (mkF m 120 #[.val (.int p1), .val (.int p2), .val (.ref b2), .val (.int k5), .val (.long u1), .second, .val (.long (((p1 &&& (2147483647 : Int32)).toInt64) % u1)), .second, .val (.int n8), .val (.long (own_sec n8)), .second] [])) _
    refine XS.iconst X35.here hx rfl (hb hby at_120) ?_
    show Steps p.tables e below (T35.setTop (mkF m 121 #[.val (.int p1), .val (.int p2), .val (.ref b2), .val (.int k5), .val (.long u1), .second, .val (.long (((p1 &&& (2147483647 : Int32)).toInt64) % u1)), .second, .val (.int n8), .val (.long (own_sec n8)), .second] [(.int (1 : Int32))])) _
    refine XS.goto X35.here hx rfl (pc0 := 121) (pc' := 125) rfl (hb hby at_121) (by decide) (by decide) ?_
    show Steps p.tables e below (T35.setTop (mkF m 125 #[.val (.int p1), .val (.int p2), .val (.ref b2), .val (.int k5), .val (.long u1), .second, .val (.long (((p1 &&& (2147483647 : Int32)).toInt64) % u1)), .second, .val (.int n8), .val (.long (own_sec n8)), .second] [(.int (1 : Int32))])) _
    exact hk
  obtain ⟨fs, hr, hrun, hended, hW, hsame⟩ := X35.leave (v := some (.int (1 : Int32))) (fun h => by rw [Bd.returns] at h; cases h) Bd.notSynchronized
  exact ⟨_, _, K38 _ (retN X35 hx (t := .boolean) Bd.returns (by simp) (hb hby at_125) hr), hrun, hended, _, _, rfl, ⟨rfl, N35⟩, ⟨_, rfl⟩, hW, hsame.mono (by decide) (by decide)⟩
set_option maxRecDepth 65536 in
set_option maxHeartbeats 40000000 in
theorem comes_1 {Post : Tables → Env → Array Value → State → Outcome → State → Prop} (hpost : ∀ tb e args s v u, (limb_1_1.after args s (.returned v) u = true ∧ limb_1_2.after args s (.returned v) u = true ∧ True) → FrameEnd s (.returned v) u (Jvm.fieldLocs frame_1_writes args s ++ Jvm.arrayLocs frame_1_arrays args s ++ Jvm.staticLocs frame_1_statics s) 16 128 → Post tb e args s (.returned v) u) :
    ArmFor flags0 classFile x code maxLocals ret World_1 tables_1 room_1 Calls_1 rest_1 Pre_1 Post := by
  intro l hfl _ _ p e ha hc hk s m args below hf hA hF happ hP
  obtain ⟨hcalls, hrest, hpre⟩ := hP
  obtain ⟨-, -, -, hnamed, -, -, -, hat⟩ := (Spec.applies_iff hf).mp happ
  obtain ⟨hg, hn⟩ := and_e (Cond.before_iff.mp (show (Jvm.Cond.and given_1 narrow_1).before args s = true from hpre))
  obtain ⟨gc, gr⟩ := and_e hg
  obtain ⟨ga0, gr⟩ := and_e gr
  obtain ⟨w0, w1, rfl⟩ : ∃ w0 w1 : Value, args = #[w0, w1] := by
    have hs : args.size = 2 := by simpa [Cond.value, given_1] using gc
    obtain ⟨L⟩ := args
    match L, hs with
    | [w0, w1], _ => exact ⟨w0, w1, rfl⟩
  have hw := fun d (hd : d ∈ tables_1) => atoms_spec (ws := Jvm.Cond.code x code maxLocals ret :: tables_1) hat d (List.mem_cons_of_mem _ hd)
  have hfit : Fit s := fun {y c} hc i hi => by
    obtain ⟨ha, rfl⟩ := Array.getElem?_eq_some_iff.mp hc
    have q := List.all_eq_true.mp ((Array.all_eq_true_iff_forall_mem.mp hF) _ (Array.getElem_mem ha)) i (List.mem_range.mpr hi)
    simpa [Array.getElem?_eq_getElem hi] using q
  obtain ⟨i0, ei0⟩ := is_v ga0
  obtain rfl : w0 = (.int i0) := Option.some.inj ei0
  obtain ⟨i1, ei1⟩ := is_v gr
  obtain rfl : w1 = (.int i1) := Option.some.inj ei1
  obtain ⟨n, o, h1, h2, h3, _, L, rfl, ⟨rfl, N⟩, hq⟩ := rm0 l s _ hw tables_1 i0 i1  s.heap s.heap.size (Nat.le_refl _)  p e ha hc hk s m _ below hf ((Spec.applies_iff_loose hf).mp happ).1 ⟨rfl, State.Warmed39.refl s, rfl⟩ trivial
  refine ⟨n, _, h1, h2, h3, hpost _ _ _ _ _ _ ⟨Cond.after_iff.mpr rfl, Cond.after_iff.mpr (eq_i res_at (Term.int_eval (1)) rfl), trivial⟩ ⟨hq.1, hq.2.1, (hq.2.2.sift fun y hy => Or.inr (N y hy)).mono (by decide) (by decide)⟩⟩
theorem main_1_1 : Claimed_1_1 := comes_1 fun _ _ _ _ _ _ h hF => ⟨h.1, hF⟩
theorem main_1_2 : Claimed_1_2 := comes_1 fun _ _ _ _ _ _ h hF => ⟨h.2.1, hF⟩
end Jvm.Pilot.@@N@@
namespace Jvm.Pilot.@@N@@
open Jvm Jvm.ClassFile Sem Op Lib Jvm.Free Jvm.Stand Jvm.Pilot.@@N@@.Jvm.D
/-! MADE BY PROGRAM (witnessworld.py) out of the Statement's table words and the real class files: 11 classes; the members and pool entries that the words name. The judged class is class 1, her method 1. -/
namespace start1
open Jvm.ClassFile
def u (s : String) : CpInfo := .utf8 (stringToUtf16 s)
/-- a pool by its gaps: so many unusable entries, then the entry; so many at the end -/
def gap : Nat → List CpInfo → List CpInfo
  | 0, r => r
  | n + 1, r => .unusable :: gap n r
def poolList (es : List (Nat × CpInfo)) (last : Nat) : List CpInfo := es.foldr (fun e r => gap e.1 (e.2 :: r)) (gap last [])
def pool (es : List (Nat × CpInfo)) (last : Nat) : Array CpInfo := ⟨poolList es last⟩
def fileOf (pool : Array CpInfo) (this : Nat) (attrs : Array Attribute := #[]) (ms : Array MethodInfo := #[]) (fl : Nat := 33) (sup : Nat := 0) (ifs : Array Nat := #[]) (fds : Array FieldInfo := #[]) : ClassFile where
  minorVersion := 0
  majorVersion := 65
  constantPool := pool
  accessFlags := fl
  thisClass := this
  superClass := sup
  interfaces := ifs
  fields := fds
  methods := ms
  attributes := attrs
def plain (name : String) (sup : Option ClassId) : Class where
  name := name
  kind := .ordinary
  loader := none
  accessFlags := 33
  super := sup
  interfaces := #[]
  cf := none
  fields := #[]
  methods := #[]
  instanceTypes := #[]
  staticTypes := #[]
  resolved := #[]
  callSites := []
  init := .initialized
  statics := none
  mirror := none

def pool0 : Array CpInfo := pool [(5, u "<init>"), (0, u "()V"), (1, .class_ 10), (1, u "java/lang/Object")] 113

def k0m0 : Method := { name := "<init>", desc := "()V", sig := { parameters := [], returnType := none }, accessFlags := 1, code := none }
/-- java/lang/Object -/
def k0 : Class := { plain "java/lang/Object" none with
  accessFlags := 33
  interfaces := #[]
  cf := some (fileOf pool0 8 #[] #[{ accessFlags := 1, nameIndex := 5, descriptorIndex := 6, attributes := #[] }] 33 0 #[] #[])
  fields := #[]
  methods := #[k0m0]
  instanceTypes := #[]
  staticTypes := #[]
  resolved := Array.replicate 124 none
  statics := none }

def pool1 : Array CpInfo := pool [(2, .class_ 4), (1, u "java/lang/Object"), (0, u "<init>"), (0, u "()V"), (0, .long 10), (1, .long 100), (1, .long 1000), (1, .long 10000), (1, .long 100000), (1, .long 1000000), (1, .long 10000000), (1, .long 100000000), (1, .long 1000000000), (1, .integer 2147483647), (0, .methodref 27 28), (0, .class_ 29), (0, .nameAndType 30 31), (0, u "com/example/bitrun/bitrun/orc/timestamp/TimestampLayout"), (0, u "secondaryNumber"), (0, u "(I)J"), (0, .methodref 33 34), (0, .class_ 35), (0, .nameAndType 36 31), (0, u "com/example/bitrun/bitrun/orc/timestamp/TimestampLayoutSecondaryNumberPinLaw"), (0, u "expected"), (0, .integer 100000000), (0, .long 7), (1, .integer 10000000), (0, .long 6), (1, .integer 1000000), (0, .long 5), (1, .integer 100000), (0, .long 4), (1, .long 3), (1, .long 2), (3, u "law"), (0, u "(II)Z")] 5

def k1m0 : Method := { name := "<init>", desc := "()V", sig := { parameters := [], returnType := none }, accessFlags := 2, code := none }
def k1c1 : Code := { maxStack := 5, maxLocals := 11, code := code, exceptionTable := #[], attributes := #[] }
def k1m1 : Method := { name := "law", desc := "(II)Z", sig := { parameters := [.int, .int], returnType := some .boolean }, accessFlags := 9, code := some k1c1 }
def k1c2 : Code := { maxStack := 4, maxLocals := 1, code := method_3_code, exceptionTable := #[], attributes := #[] }
def k1m2 : Method := { name := "expected", desc := "(I)J", sig := { parameters := [.int], returnType := some .long }, accessFlags := 10, code := some k1c2 }
/-- com/example/bitrun/bitrun/orc/timestamp/TimestampLayoutSecondaryNumberPinLaw -/
def k1 : Class := { plain "com/example/bitrun/bitrun/orc/timestamp/TimestampLayoutSecondaryNumberPinLaw" (some 0) with
  accessFlags := 49
  interfaces := #[]
  cf := some (fileOf pool1 33 #[] #[{ accessFlags := 2, nameIndex := 5, descriptorIndex := 6, attributes := #[] }, { accessFlags := 9, nameIndex := 55, descriptorIndex := 56, attributes := #[] }, { accessFlags := 10, nameIndex := 36, descriptorIndex := 31, attributes := #[] }] 49 2 #[] #[])
  fields := #[]
  methods := #[k1m0, k1m1, k1m2]
  instanceTypes := #[]
  staticTypes := #[]
  resolved := Array.replicate 62 none
  statics := none }

def pool2 : Array CpInfo := pool [(4, .class_ 6), (1, u "java/lang/Object"), (0, u "<init>"), (0, u "()V"), (0, .class_ 10), (0, u "com/example/bitrun/bitrun/orc/timestamp/TimestampLayout"), (7, u "MAX_SECOND"), (0, u "J"), (2, u "MIN_SECOND"), (6, u "SCALES"), (0, u "[J"), (27, u "BASE_SECOND"), (1, u "NANOS_PER_SECOND"), (0, u "I"), (1, u "NANOS_PER_MILLI"), (0, u "NO_SECOND"), (6, u "secondaryNumber"), (0, u "(I)J")] 5

def k2m0 : Method := { name := "<init>", desc := "()V", sig := { parameters := [], returnType := none }, accessFlags := 2, code := none }
def k2c1 : Code := { maxStack := 4, maxLocals := 5, code := prog_83_method_4_code, exceptionTable := #[], attributes := #[] }
def k2m1 : Method := { name := "secondaryNumber", desc := "(I)J", sig := { parameters := [.int], returnType := some .long }, accessFlags := 8, code := some k2c1 }
/-- com/example/bitrun/bitrun/orc/timestamp/TimestampLayout -/
def k2 : Class := { plain "com/example/bitrun/bitrun/orc/timestamp/TimestampLayout" (some 0) with
  accessFlags := 48
  interfaces := #[]
  cf := some (fileOf pool2 9 #[] #[{ accessFlags := 2, nameIndex := 7, descriptorIndex := 8, attributes := #[] }, { accessFlags := 8, nameIndex := 71, descriptorIndex := 72, attributes := #[] }] 48 4 #[] #[{ accessFlags := 24, nameIndex := 58, descriptorIndex := 19, attributes := #[] }, { accessFlags := 24, nameIndex := 60, descriptorIndex := 61, attributes := #[] }, { accessFlags := 24, nameIndex := 63, descriptorIndex := 61, attributes := #[] }, { accessFlags := 24, nameIndex := 22, descriptorIndex := 19, attributes := #[] }, { accessFlags := 24, nameIndex := 18, descriptorIndex := 19, attributes := #[] }, { accessFlags := 24, nameIndex := 64, descriptorIndex := 19, attributes := #[] }, { accessFlags := 24, nameIndex := 29, descriptorIndex := 30, attributes := #[] }])
  fields := #[{ name := "BASE_SECOND", type := .long, accessFlags := 24, slot := 0, constantValue := 0 }, { name := "NANOS_PER_SECOND", type := .int, accessFlags := 24, slot := 1, constantValue := 0 }, { name := "NANOS_PER_MILLI", type := .int, accessFlags := 24, slot := 2, constantValue := 0 }, { name := "MIN_SECOND", type := .long, accessFlags := 24, slot := 3, constantValue := 0 }, { name := "MAX_SECOND", type := .long, accessFlags := 24, slot := 4, constantValue := 0 }, { name := "NO_SECOND", type := .long, accessFlags := 24, slot := 5, constantValue := 0 }, { name := "SCALES", type := (.array .long), accessFlags := 24, slot := 6, constantValue := 0 }]
  methods := #[k2m0, k2m1]
  instanceTypes := #[]
  staticTypes := #[.long, .int, .int, .long, .long, .long, (.array .long)]
  resolved := Array.replicate 78 none
  statics := none }

def pool3 : Array CpInfo := pool [(1, u "java/lang/Cloneable"), (0, .class_ 1), (0, u "java/lang/Object"), (0, .class_ 3)] 3

/-- java/lang/Cloneable -/
def k3 : Class := { plain "java/lang/Cloneable" (some 0) with
  accessFlags := 1537
  interfaces := #[]
  cf := some (fileOf pool3 2 #[] #[] 1537 4 #[] #[])
  fields := #[]
  methods := #[]
  instanceTypes := #[]
  staticTypes := #[]
  resolved := Array.replicate 8 none
  statics := none }

def pool4 : Array CpInfo := pool [(1, u "java/io/Serializable"), (0, .class_ 1), (0, u "java/lang/Object"), (0, .class_ 3)] 3

/-- java/io/Serializable -/
def k4 : Class := { plain "java/io/Serializable" (some 0) with
  accessFlags := 1537
  interfaces := #[]
  cf := some (fileOf pool4 2 #[] #[] 1537 4 #[] #[])
  fields := #[]
  methods := #[]
  instanceTypes := #[]
  staticTypes := #[]
  resolved := Array.replicate 8 none
  statics := none }

/-- the primitive byte -/
def k5 : Class := { plain "byte" none with kind := .primitive 'B', accessFlags := 0x411 }
/-- [B -/
def k6 : Class := { plain "[B" (some 0) with kind := .array 5 .byte, interfaces := #[3, 4], accessFlags := 1041 }

/-- the primitive int -/
def k7 : Class := { plain "int" none with kind := .primitive 'I', accessFlags := 0x411 }
/-- [I -/
def k8 : Class := { plain "[I" (some 0) with kind := .array 7 .int, interfaces := #[3, 4], accessFlags := 1041 }

/-- the primitive long -/
def k9 : Class := { plain "long" none with kind := .primitive 'J', accessFlags := 0x411 }
/-- [J -/
def k10 : Class := { plain "[J" (some 0) with kind := .array 9 .long, interfaces := #[3, 4], accessFlags := 1041 }

def heap : Heap := #[]
def classes : Array Class := #[k0, k1, k2, k3, k4, k5, k6, k7, k8, k9, k10]
def interned : List (Array UInt16 × Addr) := []
def slotsUsed : Nat := 0
def theMethod : MethodId := ⟨1, 1⟩
def args0 : Array Value := #[.int 5, .int 1]
def aboutOver (below : List Frame) : State where
  vm := { classes := classes, interned := interned.toArray }
  heap := heap
  slotsUsed := slotsUsed
  threads := #[{ frames := .invoking theMethod args0 :: below }]
def below0 : List Frame := [.native { method := ⟨0, 0⟩, args := #[] }]
def about1 : State := aboutOver below0
def p0 : Program := .bare "" "" ""
def e0 : Env := launch0.env 0 0 0
theorem w_frames : about1.frames = Frame.invoking theMethod args0 :: below0 := rfl
set_option maxRecDepth 65536 in
theorem w_args : argsFit about1.vm theMethod args0 = true := by decide +kernel
set_option maxRecDepth 65536 in
theorem w_heap : heapFits about1 = true := by decide +kernel
set_option maxRecDepth 65536 in
theorem w_runnable : about1.curStatus? = some .runnable := by decide +kernel
set_option maxRecDepth 65536 in
theorem w_alone : about1.alone = true := by decide +kernel
set_option maxRecDepth 65536 in
theorem w_named : about1.methodNamed? x = some theMethod := by decide +kernel
set_option maxRecDepth 65536 in
theorem w_hears : about1.hears theMethod below0 = true := by decide +kernel
set_option maxRecDepth 65536 in
theorem w_ripe : about1.ripe theMethod args0 below0 = true := by decide +kernel
theorem w_running : about1.status = .running := rfl
set_option maxRecDepth 65536 in
theorem w_room : about1.hasRoom e0.platform room_1 = true :=
  launch0.hasRoom_least _ room_1 (by decide +kernel) (by decide +kernel) (by decide +kernel) (by decide +kernel) (by decide +kernel) (by decide +kernel)
theorem allAtoms_all (ts : List Jvm.Cond) (a : Array Jvm.Value) (st : Jvm.State) : (allAtoms ts).before a st = ts.all (fun c => c.before a st) := by
  induction ts with
  | nil => rfl
  | cons c t ih =>
    show (Jvm.Cond.and c (allAtoms t)).before a st = _
    rw [Jvm.Cond.before_and, ih, List.all_cons]
def words1 : List Jvm.Cond := Jvm.Cond.code x code maxLocals ret :: tables_1
/-- a 'code' word, met by the world's own term for the bytes: nothing is compared byte by byte -/
theorem code_word {y : MethodName} {bytes : ByteArray} {mx : Nat} {rt : Option FieldType} {a : Array Value} {s : State} {m : MethodId} {meth : Method} {c : Code} (h1 : s.methodNamed? y = some m) (h2 : s.vm.method? m = some meth) (h3 : meth.code = some c) (h4 : c.code = bytes)
    (h5 : (c.maxLocals == mx && c.exceptionTable.isEmpty && decide (c.maxStack ≤ mostOperands) && decide (meth.sig.returnType = rt) && !meth.locks && decide (parseMethodDescriptor y.desc = some meth.sig)) = true) : (Jvm.Cond.code y bytes mx rt).before a s = true := by
  simp only [Bool.and_eq_true, beq_iff_eq, Bool.not_eq_true', decide_eq_true_eq] at h5
  obtain ⟨⟨⟨⟨⟨g1, g2⟩, g3⟩, g4⟩, g5⟩, g6⟩ := h5
  simp [Cond.before, Cond.holds, Cond.value, h1, h2, h3, h4, g1, g2, g3, g4, g5, g6]
def isCode : Jvm.Cond → Bool
  | .code _ _ _ _ => true
  | _ => false
theorem all_split {L : List Jvm.Cond} {P : Jvm.Cond → Bool} (h1 : L.all (fun c => isCode c || P c) = true) (h2 : ∀ c ∈ L.filter isCode, P c = true) : L.all P = true := by
  refine List.all_eq_true.mpr fun c hc => ?_
  have h := List.all_eq_true.mp h1 c hc
  rcases Bool.eq_false_or_eq_true (isCode c) with hi | hi
  · exact h2 c (List.mem_filter.mpr ⟨hc, hi⟩)
  · simpa [hi] using h
set_option maxRecDepth 65536 in
theorem w_c0 : (Jvm.Cond.code x code maxLocals ret).before args0 about1 = true := code_word (m := ⟨1, 1⟩) (meth := k1m1) (c := k1c1) (by decide +kernel) rfl rfl rfl (by decide +kernel)
set_option maxRecDepth 65536 in
theorem w_c1 : (Jvm.Cond.code ({ cls := "com/example/bitrun/bitrun/orc/timestamp/TimestampLayout", name := "secondaryNumber", desc := "(I)J" } : Jvm.MethodName) prog_83_method_4_code (5 : Nat) (Option.some Jvm.ClassFile.FieldType.long)).before args0 about1 = true := code_word (m := ⟨2, 1⟩) (meth := k2m1) (c := k2c1) (by decide +kernel) rfl rfl rfl (by decide +kernel)
set_option maxRecDepth 65536 in
theorem w_c2 : (Jvm.Cond.code ({ cls := "com/example/bitrun/bitrun/orc/timestamp/TimestampLayoutSecondaryNumberPinLaw", name := "expected", desc := "(I)J" } : Jvm.MethodName) method_3_code (1 : Nat) (Option.some Jvm.ClassFile.FieldType.long)).before args0 about1 = true := code_word (m := ⟨1, 2⟩) (meth := k1m2) (c := k1c2) (by decide +kernel) rfl rfl rfl (by decide +kernel)
def codes1 : List Jvm.Cond := [Jvm.Cond.code x code maxLocals ret, Jvm.Cond.code ({ cls := "com/example/bitrun/bitrun/orc/timestamp/TimestampLayout", name := "secondaryNumber", desc := "(I)J" } : Jvm.MethodName) prog_83_method_4_code (5 : Nat) (Option.some Jvm.ClassFile.FieldType.long), Jvm.Cond.code ({ cls := "com/example/bitrun/bitrun/orc/timestamp/TimestampLayoutSecondaryNumberPinLaw", name := "expected", desc := "(I)J" } : Jvm.MethodName) method_3_code (1 : Nat) (Option.some Jvm.ClassFile.FieldType.long)]
set_option maxRecDepth 65536 in
theorem codes_eq : words1.filter isCode = codes1 := rfl
theorem w_codes : ∀ c ∈ words1.filter isCode, c.before args0 about1 = true := by
  rw [codes_eq]
  intro c hc
  simp only [codes1, List.mem_cons, List.not_mem_nil, or_false] at hc
  rcases hc with rfl | rfl | rfl
  · exact w_c0
  · exact w_c1
  · exact w_c2
set_option maxRecDepth 65536 in
theorem w_t1 : (words1.take 24).all (fun c => isCode c || c.before args0 about1) = true := by decide +kernel
set_option maxRecDepth 65536 in
theorem w_t2 : (words1.drop 24).all (fun c => isCode c || c.before args0 about1) = true := by decide +kernel
theorem w_tables : (allAtoms (Jvm.Cond.code x code maxLocals ret :: tables_1)).before args0 about1 = true := by
  rw [allAtoms_all]
  show words1.all (fun c => c.before args0 about1) = true
  refine all_split ?_ w_codes
  rw [← List.take_append_drop 24 words1, List.all_append, w_t1, w_t2]
  rfl
set_option maxRecDepth 65536 in
theorem w_case : (Jvm.Cond.and given_1 narrow_1).before args0 about1 = true := by decide +kernel
theorem w_applies : (headSpec (Jvm.Cond.code x code maxLocals ret :: tables_1) room_1).applies x e0.platform about1 = true :=
  (Spec.applies_iff w_frames).mpr ⟨w_running, w_runnable, w_alone, w_named, w_hears, w_ripe, w_room, w_tables⟩
theorem atStart : AtStart classFile x code maxLocals ret World_1 tables_1 room_1 Calls_1 rest_1 Pre_1 launch0 p0 e0 about1 theMethod args0 below0 :=
  ⟨lists_1, trivial, launch0.admits_env _ _ _, launch0.least_env, fairChoices_fair.cas, fairChoices_fair.clock, w_frames, w_args, w_heap, w_applies, trivial, trivial, w_case⟩
end start1
theorem witness_1 : WitnessClaimed_1 := ⟨start1.p0, start1.e0, start1.about1, start1.theMethod, start1.args0, start1.below0, start1.atStart⟩
end Jvm.Pilot.@@N@@
