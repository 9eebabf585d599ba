import JvmDerived
import JvmDerived.Pilot.@@N@@Statement
import JvmDerived.Pilot.@@N@@Code
set_option linter.unusedVariables false
set_option linter.unusedSimpArgs false
namespace Jvm.RoadKit
open Sem ClassFile Op Lib Jvm.Stand Jvm.Free Jvm.LawKit
section New
variable {p : Program} {l : Launch} {e : Env} {R : Room} {s : State} {m : MethodId} {args : Array Value} {below : List Frame} {meth : Method} {c : Code} {T : State} {locs : List Loc} {cells slots : Nat}
theorem retI (X : Stand p l e R s m args below meth c T locs cells slots) (hx : p.tables.exec = Jvm.exec) {pc : Nat} {Ls : Array Slot} {z : Int32} {rest : List Value} (hret : meth.sig.returnType = some .int) (hd : decode c.code pc = .ok (.ireturn, 1)) {fs : List Frame}
    (hl : ∀ (f : JFrame) (acts : List Action), f.method = m → f.locked = none → f.entered = [] → (doReturn e (T.setTop f) acts (some (.int z))).1 = T.setFrames fs) : Steps p.tables e below (T.setTop (mkF m pc Ls (.int z :: rest))) (T.setFrames fs) := by
  have hm' : T.vm.method? m = some meth := X.method'
  have hn : narrow .int (.int z) = .int z := rfl
  show Steps p.tables e below (T.setTop { method := m, pc := pc, locals := Ls, stack := _ :: rest, locked := none }) _
  jvm_step X.here [X.here.top, hx, hd, hm', hret, hn]
  first | (intro acts; rw [hl _ acts rfl rfl rfl]) | rw [hl _ _ rfl rfl rfl]
  exact Steps.refl _
end New
end Jvm.RoadKit
namespace Jvm.Pilot.@@N@@
open Jvm Jvm.ClassFile Sem Op Lib Jvm.Free Jvm.Stand Jvm.LawKit Jvm.RoadKit Bundle Jvm.Pilot.@@N@@.Jvm.D
theorem own_stI {p : Program} {l : Launch} {e : Env} {R : Room} {s : State} {m : MethodId} {args : Array Value} {below : List Frame} {meth : Method} {c : Code} {T : State} {locs : List Loc} {cells slots : Nat} {Z : State} {h : Heap} {a : Addr} {k : ClassId} {z : Int32} {vs : List Value} {dv : Value}
    (X : Stand p l e R s m args below meth c T locs cells slots) (hx : p.tables.exec = Jvm.exec) (hZ : Z.Warmed39 s.vm) (eT : T.heap = h) (V : Arv Z h a k .int z vs dv) {j : Int32} (i : Nat) (hj : j.toNatClampNeg = i) (hb : ¬ j < 0 ∧ j < z) (hi : i < vs.length) {x : Int32} {g : JFrame} (hg : g.method = m) {rest : List Value} (hs : g.stack = .int x :: .int j :: .ref a :: rest) (hd : decode c.code g.pc = .ok (.iastore, 1)) :
    ∃ T' h', Stand p l e R s m args below meth c T' (locs ++ [⟨a, j.toNatClampNeg⟩]) cells slots ∧ T'.heap = h' ∧ Wr h h' a j.toNatClampNeg (.int x) ∧ Arv Z h' a k .int z (vs.set i (.int x)) dv ∧ ∀ target, Steps p.tables e below (T'.setTop { g with pc := g.pc + 1, stack := rest }) target → Steps p.tables e below (T.setTop g) target := by
  obtain ⟨cl, Ar, q, S, M, H, G⟩ := V
  obtain ⟨T', h', X', e', W, st⟩ := Jvm.RoadKit.stI X hx hZ eT Ar (j := j) (inb_of S hb) hg hs hd
  exact ⟨T', h', X', e', W, Arv.set Ar q S M H G rfl W i hj hi, st⟩
theorem own_ldI {p : Program} {l : Launch} {e : Env} {R : Room} {s : State} {m : MethodId} {args : Array Value} {below : List Frame} {meth : Method} {c : Code} {T : State} {locs : List Loc} {cells slots : Nat} {Z : State} {h : Heap} {a : Addr} {k : ClassId} {z : Int32} {vs : List Value} {dv : Value}
    (X : Stand p l e R s m args below meth c T locs cells slots) (hx : p.tables.exec = Jvm.exec) (hZ : Z.Warmed39 s.vm) (eT : T.heap = h) (V : Arv Z h a k .int z vs dv) {j : Int32} (hb : ¬ j < 0 ∧ j < z) {g : JFrame} (hg : g.method = m) {rest : List Value} (hs : g.stack = .int j :: .ref a :: rest) (hd : decode c.code g.pc = .ok (.iaload, 1)) :
    ∃ w, vs.getD j.toNatClampNeg dv = .int w ∧ ∀ target, Steps p.tables e below (T.setTop { g with pc := g.pc + 1, stack := .int w :: rest }) target → Steps p.tables e below (T.setTop g) target := by
  obtain ⟨cl, Ar, q, S, M, H, G⟩ := V
  have hin := inb_of S hb
  have hlt : j.toNatClampNeg < cl.slots.size := Nat.lt_of_not_le fun q => hin (Or.inr q)
  obtain ⟨w, hw⟩ := fit_I (G _ hlt) (by simp)
  exact ⟨w, hw, X.iaload hx (j := j) (v := .int w) (by rw [eT]; exact Ar.1) (State.isArrayOf_alike hZ.alike Ar.2.1) Ar.2.2 hin (by rw [H _ hlt, hw]) hg hs hd⟩
theorem d2_0 : decode prog_300_method_5_code 0 = .ok (.iload_n 0, 1) := by decide +kernel
theorem d2_1 : decode prog_300_method_5_code 1 = .ok (.bipush 97, 2) := by decide +kernel
theorem d2_3 : decode prog_300_method_5_code 3 = .ok (.if_icmp .lt 9, 3) := by decide +kernel
theorem d2_6 : decode prog_300_method_5_code 6 = .ok (.iload_n 0, 1) := by decide +kernel
theorem d2_7 : decode prog_300_method_5_code 7 = .ok (.bipush 122, 2) := by decide +kernel
theorem d2_9 : decode prog_300_method_5_code 9 = .ok (.if_icmp .le 182, 3) := by decide +kernel
theorem d2_12 : decode prog_300_method_5_code 12 = .ok (.iload_n 0, 1) := by decide +kernel
theorem d2_13 : decode prog_300_method_5_code 13 = .ok (.bipush 65, 2) := by decide +kernel
theorem d2_15 : decode prog_300_method_5_code 15 = .ok (.if_icmp .lt 9, 3) := by decide +kernel
theorem d2_18 : decode prog_300_method_5_code 18 = .ok (.iload_n 0, 1) := by decide +kernel
theorem d2_19 : decode prog_300_method_5_code 19 = .ok (.bipush 90, 2) := by decide +kernel
theorem d2_21 : decode prog_300_method_5_code 21 = .ok (.if_icmp .le 170, 3) := by decide +kernel
theorem d2_24 : decode prog_300_method_5_code 24 = .ok (.iload_n 0, 1) := by decide +kernel
theorem d2_25 : decode prog_300_method_5_code 25 = .ok (.bipush 95, 2) := by decide +kernel
theorem d2_27 : decode prog_300_method_5_code 27 = .ok (.if_icmp .eq 164, 3) := by decide +kernel
theorem d2_30 : decode prog_300_method_5_code 30 = .ok (.iload_n 0, 1) := by decide +kernel
theorem d2_31 : decode prog_300_method_5_code 31 = .ok (.sipush 192, 3) := by decide +kernel
theorem d2_34 : decode prog_300_method_5_code 34 = .ok (.if_icmp .lt 10, 3) := by decide +kernel
theorem d2_37 : decode prog_300_method_5_code 37 = .ok (.iload_n 0, 1) := by decide +kernel
theorem d2_38 : decode prog_300_method_5_code 38 = .ok (.sipush 214, 3) := by decide +kernel
theorem d2_41 : decode prog_300_method_5_code 41 = .ok (.if_icmp .le 150, 3) := by decide +kernel
theorem d2_44 : decode prog_300_method_5_code 44 = .ok (.iload_n 0, 1) := by decide +kernel
theorem d2_45 : decode prog_300_method_5_code 45 = .ok (.sipush 216, 3) := by decide +kernel
theorem d2_48 : decode prog_300_method_5_code 48 = .ok (.if_icmp .lt 10, 3) := by decide +kernel
theorem d2_51 : decode prog_300_method_5_code 51 = .ok (.iload_n 0, 1) := by decide +kernel
theorem d2_52 : decode prog_300_method_5_code 52 = .ok (.sipush 246, 3) := by decide +kernel
theorem d2_55 : decode prog_300_method_5_code 55 = .ok (.if_icmp .le 136, 3) := by decide +kernel
theorem d2_58 : decode prog_300_method_5_code 58 = .ok (.iload_n 0, 1) := by decide +kernel
theorem d2_59 : decode prog_300_method_5_code 59 = .ok (.sipush 248, 3) := by decide +kernel
theorem d2_62 : decode prog_300_method_5_code 62 = .ok (.if_icmp .lt 10, 3) := by decide +kernel
theorem d2_65 : decode prog_300_method_5_code 65 = .ok (.iload_n 0, 1) := by decide +kernel
theorem d2_66 : decode prog_300_method_5_code 66 = .ok (.sipush 767, 3) := by decide +kernel
theorem d2_69 : decode prog_300_method_5_code 69 = .ok (.if_icmp .le 122, 3) := by decide +kernel
theorem d2_72 : decode prog_300_method_5_code 72 = .ok (.iload_n 0, 1) := by decide +kernel
theorem d2_73 : decode prog_300_method_5_code 73 = .ok (.sipush 880, 3) := by decide +kernel
theorem d2_76 : decode prog_300_method_5_code 76 = .ok (.if_icmp .lt 10, 3) := by decide +kernel
theorem d2_79 : decode prog_300_method_5_code 79 = .ok (.iload_n 0, 1) := by decide +kernel
theorem d2_80 : decode prog_300_method_5_code 80 = .ok (.sipush 893, 3) := by decide +kernel
theorem d2_83 : decode prog_300_method_5_code 83 = .ok (.if_icmp .le 108, 3) := by decide +kernel
theorem d2_86 : decode prog_300_method_5_code 86 = .ok (.iload_n 0, 1) := by decide +kernel
theorem d2_87 : decode prog_300_method_5_code 87 = .ok (.sipush 895, 3) := by decide +kernel
theorem d2_90 : decode prog_300_method_5_code 90 = .ok (.if_icmp .lt 10, 3) := by decide +kernel
theorem d2_93 : decode prog_300_method_5_code 93 = .ok (.iload_n 0, 1) := by decide +kernel
theorem d2_94 : decode prog_300_method_5_code 94 = .ok (.sipush 8191, 3) := by decide +kernel
theorem d2_97 : decode prog_300_method_5_code 97 = .ok (.if_icmp .le 94, 3) := by decide +kernel
theorem d2_100 : decode prog_300_method_5_code 100 = .ok (.iload_n 0, 1) := by decide +kernel
theorem d2_101 : decode prog_300_method_5_code 101 = .ok (.sipush 8204, 3) := by decide +kernel
theorem d2_104 : decode prog_300_method_5_code 104 = .ok (.if_icmp .lt 10, 3) := by decide +kernel
theorem d2_107 : decode prog_300_method_5_code 107 = .ok (.iload_n 0, 1) := by decide +kernel
theorem d2_108 : decode prog_300_method_5_code 108 = .ok (.sipush 8205, 3) := by decide +kernel
theorem d2_111 : decode prog_300_method_5_code 111 = .ok (.if_icmp .le 80, 3) := by decide +kernel
theorem d2_114 : decode prog_300_method_5_code 114 = .ok (.iload_n 0, 1) := by decide +kernel
theorem d2_115 : decode prog_300_method_5_code 115 = .ok (.sipush 8304, 3) := by decide +kernel
theorem d2_118 : decode prog_300_method_5_code 118 = .ok (.if_icmp .lt 10, 3) := by decide +kernel
theorem d2_121 : decode prog_300_method_5_code 121 = .ok (.iload_n 0, 1) := by decide +kernel
theorem d2_122 : decode prog_300_method_5_code 122 = .ok (.sipush 8591, 3) := by decide +kernel
theorem d2_125 : decode prog_300_method_5_code 125 = .ok (.if_icmp .le 66, 3) := by decide +kernel
theorem d2_128 : decode prog_300_method_5_code 128 = .ok (.iload_n 0, 1) := by decide +kernel
theorem d2_129 : decode prog_300_method_5_code 129 = .ok (.sipush 11264, 3) := by decide +kernel
theorem d2_132 : decode prog_300_method_5_code 132 = .ok (.if_icmp .lt 10, 3) := by decide +kernel
theorem d2_135 : decode prog_300_method_5_code 135 = .ok (.iload_n 0, 1) := by decide +kernel
theorem d2_136 : decode prog_300_method_5_code 136 = .ok (.sipush 12271, 3) := by decide +kernel
theorem d2_139 : decode prog_300_method_5_code 139 = .ok (.if_icmp .le 52, 3) := by decide +kernel
theorem d2_142 : decode prog_300_method_5_code 142 = .ok (.iload_n 0, 1) := by decide +kernel
theorem d2_143 : decode prog_300_method_5_code 143 = .ok (.sipush 12289, 3) := by decide +kernel
theorem d2_146 : decode prog_300_method_5_code 146 = .ok (.if_icmp .lt 9, 3) := by decide +kernel
theorem d2_149 : decode prog_300_method_5_code 149 = .ok (.iload_n 0, 1) := by decide +kernel
theorem d2_150 : decode prog_300_method_5_code 150 = .ok (.ldc 40, 2) := by decide +kernel
theorem d2_152 : decode prog_300_method_5_code 152 = .ok (.if_icmp .le 39, 3) := by decide +kernel
theorem d2_155 : decode prog_300_method_5_code 155 = .ok (.iload_n 0, 1) := by decide +kernel
theorem d2_156 : decode prog_300_method_5_code 156 = .ok (.ldc 41, 2) := by decide +kernel
theorem d2_158 : decode prog_300_method_5_code 158 = .ok (.if_icmp .lt 9, 3) := by decide +kernel
theorem d2_161 : decode prog_300_method_5_code 161 = .ok (.iload_n 0, 1) := by decide +kernel
theorem d2_162 : decode prog_300_method_5_code 162 = .ok (.ldc 42, 2) := by decide +kernel
theorem d2_164 : decode prog_300_method_5_code 164 = .ok (.if_icmp .le 27, 3) := by decide +kernel
theorem d2_167 : decode prog_300_method_5_code 167 = .ok (.iload_n 0, 1) := by decide +kernel
theorem d2_168 : decode prog_300_method_5_code 168 = .ok (.ldc 43, 2) := by decide +kernel
theorem d2_170 : decode prog_300_method_5_code 170 = .ok (.if_icmp .lt 9, 3) := by decide +kernel
theorem d2_173 : decode prog_300_method_5_code 173 = .ok (.iload_n 0, 1) := by decide +kernel
theorem d2_174 : decode prog_300_method_5_code 174 = .ok (.ldc 44, 2) := by decide +kernel
theorem d2_176 : decode prog_300_method_5_code 176 = .ok (.if_icmp .le 15, 3) := by decide +kernel
theorem d2_179 : decode prog_300_method_5_code 179 = .ok (.iload_n 0, 1) := by decide +kernel
theorem d2_180 : decode prog_300_method_5_code 180 = .ok (.ldc 45, 2) := by decide +kernel
theorem d2_182 : decode prog_300_method_5_code 182 = .ok (.if_icmp .lt 13, 3) := by decide +kernel
theorem d2_185 : decode prog_300_method_5_code 185 = .ok (.iload_n 0, 1) := by decide +kernel
theorem d2_186 : decode prog_300_method_5_code 186 = .ok (.ldc 46, 2) := by decide +kernel
theorem d2_188 : decode prog_300_method_5_code 188 = .ok (.if_icmp .gt 7, 3) := by decide +kernel
theorem d2_191 : decode prog_300_method_5_code 191 = .ok (.iconst 1, 1) := by decide +kernel
theorem d2_192 : decode prog_300_method_5_code 192 = .ok (.goto 4, 3) := by decide +kernel
theorem d2_195 : decode prog_300_method_5_code 195 = .ok (.iconst 0, 1) := by decide +kernel
theorem d2_196 : decode prog_300_method_5_code 196 = .ok (.ireturn, 1) := by decide +kernel
def own_f2_195 (p1 : Int32) : Int32 := (0 : Int32)
set_option maxRecDepth 65536 in
set_option maxHeartbeats 4000000 in
theorem own_b2_195 {p : Program} {l : Launch} {e : Env} {R : Room} {s : State} {m : MethodId} {args : Array Value} {below : List Frame} {meth : Method} {c : Code} {T : State} {locs : List Loc} {cells slots : Nat} {Z : State} {a0 : Array Value} (X : Stand p l e R s m args below meth c T locs cells slots) (hx : p.tables.exec = Jvm.exec) (hby : c.code = prog_300_method_5_code) (hown : s.vm.findClass "com/example/bertilak/bertilak/util/XmlChars" = some m.cls) (hZ : Z.Warmed39 s.vm) (hw : ∀ d ∈ tables_1, d.before a0 Z = true) (hret : meth.sig.returnType = some .boolean) (p1 : Int32) (v : Int32) (hv : own_f2_195 p1 = v) {fs : List Frame} (hr : ∀ (f : JFrame) (acts : List Action), f.method = m → f.locked = none → f.entered = [] → (doReturn e (T.setTop f) acts (some (.int v))).1 = T.setFrames fs) :
    Steps p.tables e below (T.setTop (mkF m 195 #[.val (.int p1)] [])) (T.setFrames fs) := by
  unfold own_f2_195 at hv
  show Steps p.tables e below (T.setTop (mkF m 195 #[.val (.int p1)] [])) _
  refine XS.iconst X.here hx rfl (hb hby d2_195) ?_
  show Steps p.tables e below (T.setTop (mkF m 196 #[.val (.int p1)] [(.int (0 : Int32))])) _
  subst hv
  exact retN X hx (t := .boolean) hret (by simp) (hb hby d2_196) hr
def own_f2_191 (p1 : Int32) : Int32 := (1 : Int32)
set_option maxRecDepth 65536 in
set_option maxHeartbeats 4000000 in
theorem own_b2_191 {p : Program} {l : Launch} {e : Env} {R : Room} {s : State} {m : MethodId} {args : Array Value} {below : List Frame} {meth : Method} {c : Code} {T : State} {locs : List Loc} {cells slots : Nat} {Z : State} {a0 : Array Value} (X : Stand p l e R s m args below meth c T locs cells slots) (hx : p.tables.exec = Jvm.exec) (hby : c.code = prog_300_method_5_code) (hown : s.vm.findClass "com/example/bertilak/bertilak/util/XmlChars" = some m.cls) (hZ : Z.Warmed39 s.vm) (hw : ∀ d ∈ tables_1, d.before a0 Z = true) (hret : meth.sig.returnType = some .boolean) (p1 : Int32) (v : Int32) (hv : own_f2_191 p1 = v) {fs : List Frame} (hr : ∀ (f : JFrame) (acts : List Action), f.method = m → f.locked = none → f.entered = [] → (doReturn e (T.setTop f) acts (some (.int v))).1 = T.setFrames fs) :
    Steps p.tables e below (T.setTop (mkF m 191 #[.val (.int p1)] [])) (T.setFrames fs) := by
  unfold own_f2_191 at hv
  show Steps p.tables e below (T.setTop (mkF m 191 #[.val (.int p1)] [])) _
  refine XS.iconst X.here hx rfl (hb hby d2_191) ?_
  show Steps p.tables e below (T.setTop (mkF m 192 #[.val (.int p1)] [(.int (1 : Int32))])) _
  refine XS.goto X.here hx rfl (pc0 := 192) (pc' := 196) rfl (hb hby d2_192) (by decide) (by decide) ?_
  show Steps p.tables e below (T.setTop (mkF m 196 #[.val (.int p1)] [(.int (1 : Int32))])) _
  subst hv
  exact retN X hx (t := .boolean) hret (by simp) (hb hby d2_196) hr
def own_f2_179 (p1 : Int32) : Int32 := (if p1 < (65536 : Int32) then own_f2_195 p1 else (if (983039 : Int32) < p1 then own_f2_195 p1 else own_f2_191 p1))
set_option maxRecDepth 65536 in
set_option maxHeartbeats 4000000 in
theorem own_b2_179 {p : Program} {l : Launch} {e : Env} {R : Room} {s : State} {m : MethodId} {args : Array Value} {below : List Frame} {meth : Method} {c : Code} {T : State} {locs : List Loc} {cells slots : Nat} {Z : State} {a0 : Array Value} (X : Stand p l e R s m args below meth c T locs cells slots) (hx : p.tables.exec = Jvm.exec) (hby : c.code = prog_300_method_5_code) (hown : s.vm.findClass "com/example/bertilak/bertilak/util/XmlChars" = some m.cls) (hZ : Z.Warmed39 s.vm) (hw : ∀ d ∈ tables_1, d.before a0 Z = true) (hret : meth.sig.returnType = some .boolean) (p1 : Int32) (v : Int32) (hv : own_f2_179 p1 = v) {fs : List Frame} (hr : ∀ (f : JFrame) (acts : List Action), f.method = m → f.locked = none → f.entered = [] → (doReturn e (T.setTop f) acts (some (.int v))).1 = T.setFrames fs) :
    Steps p.tables e below (T.setTop (mkF m 179 #[.val (.int p1)] [])) (T.setFrames fs) := by
  unfold own_f2_179 at hv
  show Steps p.tables e below (T.setTop (mkF m 179 #[.val (.int p1)] [])) _
  refine XS.iloadN X.here hx rfl (hb hby d2_179) rfl ?_
  show Steps p.tables e below (T.setTop (mkF m 180 #[.val (.int p1)] [(.int p1)])) _
  refine X.ldcInt hx hown (mvT hZ (hw _ (List.mem_of_getElem? (i := 22) rfl))) (g := (mkF m 180 #[.val (.int p1)] [(.int p1)])) rfl (hb hby d2_180) _ ?_
  show Steps p.tables e below (T.setTop (mkF m 182 #[.val (.int p1)] [(.int (65536 : Int32)), (.int p1)])) _
  by_cases hc182 : p1 < (65536 : Int32)
  · rw [if_pos hc182] at hv
    refine XS.icmpYes X.here hx rfl (pc0 := 182) (pc' := 195) rfl (hb hby d2_182) rfl (tlt hc182).1 (by decide) (by decide) ?_
    show Steps p.tables e below (T.setTop (mkF m 195 #[.val (.int p1)] [])) _
    exact own_b2_195 X hx hby hown hZ hw hret p1 v hv hr
  · rw [if_neg hc182] at hv
    refine XS.icmpNo X.here hx rfl (hb hby d2_182) rfl (flt hc182).1 ?_
    show Steps p.tables e below (T.setTop (mkF m 185 #[.val (.int p1)] [])) _
    refine XS.iloadN X.here hx rfl (hb hby d2_185) rfl ?_
    show Steps p.tables e below (T.setTop (mkF m 186 #[.val (.int p1)] [(.int p1)])) _
    refine X.ldcInt hx hown (mvT hZ (hw _ (List.mem_of_getElem? (i := 23) rfl))) (g := (mkF m 186 #[.val (.int p1)] [(.int p1)])) rfl (hb hby d2_186) _ ?_
    show Steps p.tables e below (T.setTop (mkF m 188 #[.val (.int p1)] [(.int (983039 : Int32)), (.int p1)])) _
    by_cases hc188 : (983039 : Int32) < p1
    · rw [if_pos hc188] at hv
      refine XS.icmpYes X.here hx rfl (pc0 := 188) (pc' := 195) rfl (hb hby d2_188) rfl (tlt hc188).2.2.1 (by decide) (by decide) ?_
      show Steps p.tables e below (T.setTop (mkF m 195 #[.val (.int p1)] [])) _
      exact own_b2_195 X hx hby hown hZ hw hret p1 v hv hr
    · rw [if_neg hc188] at hv
      refine XS.icmpNo X.here hx rfl (hb hby d2_188) rfl (flt hc188).2.2.1 ?_
      show Steps p.tables e below (T.setTop (mkF m 191 #[.val (.int p1)] [])) _
      exact own_b2_191 X hx hby hown hZ hw hret p1 v hv hr
def own_f2_167 (p1 : Int32) : Int32 := (if p1 < (65008 : Int32) then own_f2_179 p1 else (if (65533 : Int32) < p1 then own_f2_179 p1 else own_f2_191 p1))
set_option maxRecDepth 65536 in
set_option maxHeartbeats 4000000 in
theorem own_b2_167 {p : Program} {l : Launch} {e : Env} {R : Room} {s : State} {m : MethodId} {args : Array Value} {below : List Frame} {meth : Method} {c : Code} {T : State} {locs : List Loc} {cells slots : Nat} {Z : State} {a0 : Array Value} (X : Stand p l e R s m args below meth c T locs cells slots) (hx : p.tables.exec = Jvm.exec) (hby : c.code = prog_300_method_5_code) (hown : s.vm.findClass "com/example/bertilak/bertilak/util/XmlChars" = some m.cls) (hZ : Z.Warmed39 s.vm) (hw : ∀ d ∈ tables_1, d.before a0 Z = true) (hret : meth.sig.returnType = some .boolean) (p1 : Int32) (v : Int32) (hv : own_f2_167 p1 = v) {fs : List Frame} (hr : ∀ (f : JFrame) (acts : List Action), f.method = m → f.locked = none → f.entered = [] → (doReturn e (T.setTop f) acts (some (.int v))).1 = T.setFrames fs) :
    Steps p.tables e below (T.setTop (mkF m 167 #[.val (.int p1)] [])) (T.setFrames fs) := by
  unfold own_f2_167 at hv
  show Steps p.tables e below (T.setTop (mkF m 167 #[.val (.int p1)] [])) _
  refine XS.iloadN X.here hx rfl (hb hby d2_167) rfl ?_
  show Steps p.tables e below (T.setTop (mkF m 168 #[.val (.int p1)] [(.int p1)])) _
  refine X.ldcInt hx hown (mvT hZ (hw _ (List.mem_of_getElem? (i := 20) rfl))) (g := (mkF m 168 #[.val (.int p1)] [(.int p1)])) rfl (hb hby d2_168) _ ?_
  show Steps p.tables e below (T.setTop (mkF m 170 #[.val (.int p1)] [(.int (65008 : Int32)), (.int p1)])) _
  by_cases hc170 : p1 < (65008 : Int32)
  · rw [if_pos hc170] at hv
    refine XS.icmpYes X.here hx rfl (pc0 := 170) (pc' := 179) rfl (hb hby d2_170) rfl (tlt hc170).1 (by decide) (by decide) ?_
    show Steps p.tables e below (T.setTop (mkF m 179 #[.val (.int p1)] [])) _
    exact own_b2_179 X hx hby hown hZ hw hret p1 v hv hr
  · rw [if_neg hc170] at hv
    refine XS.icmpNo X.here hx rfl (hb hby d2_170) rfl (flt hc170).1 ?_
    show Steps p.tables e below (T.setTop (mkF m 173 #[.val (.int p1)] [])) _
    refine XS.iloadN X.here hx rfl (hb hby d2_173) rfl ?_
    show Steps p.tables e below (T.setTop (mkF m 174 #[.val (.int p1)] [(.int p1)])) _
    refine X.ldcInt hx hown (mvT hZ (hw _ (List.mem_of_getElem? (i := 21) rfl))) (g := (mkF m 174 #[.val (.int p1)] [(.int p1)])) rfl (hb hby d2_174) _ ?_
    show Steps p.tables e below (T.setTop (mkF m 176 #[.val (.int p1)] [(.int (65533 : Int32)), (.int p1)])) _
    by_cases hc176 : (65533 : Int32) < p1
    · rw [if_pos hc176] at hv
      refine XS.icmpNo X.here hx rfl (hb hby d2_176) rfl (tlt hc176).2.2.2 ?_
      show Steps p.tables e below (T.setTop (mkF m 179 #[.val (.int p1)] [])) _
      exact own_b2_179 X hx hby hown hZ hw hret p1 v hv hr
    · rw [if_neg hc176] at hv
      refine XS.icmpYes X.here hx rfl (pc0 := 176) (pc' := 191) rfl (hb hby d2_176) rfl (flt hc176).2.2.2 (by decide) (by decide) ?_
      show Steps p.tables e below (T.setTop (mkF m 191 #[.val (.int p1)] [])) _
      exact own_b2_191 X hx hby hown hZ hw hret p1 v hv hr
def own_f2_155 (p1 : Int32) : Int32 := (if p1 < (63744 : Int32) then own_f2_167 p1 else (if (64975 : Int32) < p1 then own_f2_167 p1 else own_f2_191 p1))
set_option maxRecDepth 65536 in
set_option maxHeartbeats 4000000 in
theorem own_b2_155 {p : Program} {l : Launch} {e : Env} {R : Room} {s : State} {m : MethodId} {args : Array Value} {below : List Frame} {meth : Method} {c : Code} {T : State} {locs : List Loc} {cells slots : Nat} {Z : State} {a0 : Array Value} (X : Stand p l e R s m args below meth c T locs cells slots) (hx : p.tables.exec = Jvm.exec) (hby : c.code = prog_300_method_5_code) (hown : s.vm.findClass "com/example/bertilak/bertilak/util/XmlChars" = some m.cls) (hZ : Z.Warmed39 s.vm) (hw : ∀ d ∈ tables_1, d.before a0 Z = true) (hret : meth.sig.returnType = some .boolean) (p1 : Int32) (v : Int32) (hv : own_f2_155 p1 = v) {fs : List Frame} (hr : ∀ (f : JFrame) (acts : List Action), f.method = m → f.locked = none → f.entered = [] → (doReturn e (T.setTop f) acts (some (.int v))).1 = T.setFrames fs) :
    Steps p.tables e below (T.setTop (mkF m 155 #[.val (.int p1)] [])) (T.setFrames fs) := by
  unfold own_f2_155 at hv
  show Steps p.tables e below (T.setTop (mkF m 155 #[.val (.int p1)] [])) _
  refine XS.iloadN X.here hx rfl (hb hby d2_155) rfl ?_
  show Steps p.tables e below (T.setTop (mkF m 156 #[.val (.int p1)] [(.int p1)])) _
  refine X.ldcInt hx hown (mvT hZ (hw _ (List.mem_of_getElem? (i := 18) rfl))) (g := (mkF m 156 #[.val (.int p1)] [(.int p1)])) rfl (hb hby d2_156) _ ?_
  show Steps p.tables e below (T.setTop (mkF m 158 #[.val (.int p1)] [(.int (63744 : Int32)), (.int p1)])) _
  by_cases hc158 : p1 < (63744 : Int32)
  · rw [if_pos hc158] at hv
    refine XS.icmpYes X.here hx rfl (pc0 := 158) (pc' := 167) rfl (hb hby d2_158) rfl (tlt hc158).1 (by decide) (by decide) ?_
    show Steps p.tables e below (T.setTop (mkF m 167 #[.val (.int p1)] [])) _
    exact own_b2_167 X hx hby hown hZ hw hret p1 v hv hr
  · rw [if_neg hc158] at hv
    refine XS.icmpNo X.here hx rfl (hb hby d2_158) rfl (flt hc158).1 ?_
    show Steps p.tables e below (T.setTop (mkF m 161 #[.val (.int p1)] [])) _
    refine XS.iloadN X.here hx rfl (hb hby d2_161) rfl ?_
    show Steps p.tables e below (T.setTop (mkF m 162 #[.val (.int p1)] [(.int p1)])) _
    refine X.ldcInt hx hown (mvT hZ (hw _ (List.mem_of_getElem? (i := 19) rfl))) (g := (mkF m 162 #[.val (.int p1)] [(.int p1)])) rfl (hb hby d2_162) _ ?_
    show Steps p.tables e below (T.setTop (mkF m 164 #[.val (.int p1)] [(.int (64975 : Int32)), (.int p1)])) _
    by_cases hc164 : (64975 : Int32) < p1
    · rw [if_pos hc164] at hv
      refine XS.icmpNo X.here hx rfl (hb hby d2_164) rfl (tlt hc164).2.2.2 ?_
      show Steps p.tables e below (T.setTop (mkF m 167 #[.val (.int p1)] [])) _
      exact own_b2_167 X hx hby hown hZ hw hret p1 v hv hr
    · rw [if_neg hc164] at hv
      refine XS.icmpYes X.here hx rfl (pc0 := 164) (pc' := 191) rfl (hb hby d2_164) rfl (flt hc164).2.2.2 (by decide) (by decide) ?_
      show Steps p.tables e below (T.setTop (mkF m 191 #[.val (.int p1)] [])) _
      exact own_b2_191 X hx hby hown hZ hw hret p1 v hv hr
def own_f2_142 (p1 : Int32) : Int32 := (if p1 < (12289 : Int32) then own_f2_155 p1 else (if (55295 : Int32) < p1 then own_f2_155 p1 else own_f2_191 p1))
set_option maxRecDepth 65536 in
set_option maxHeartbeats 4000000 in
theorem own_b2_142 {p : Program} {l : Launch} {e : Env} {R : Room} {s : State} {m : MethodId} {args : Array Value} {below : List Frame} {meth : Method} {c : Code} {T : State} {locs : List Loc} {cells slots : Nat} {Z : State} {a0 : Array Value} (X : Stand p l e R s m args below meth c T locs cells slots) (hx : p.tables.exec = Jvm.exec) (hby : c.code = prog_300_method_5_code) (hown : s.vm.findClass "com/example/bertilak/bertilak/util/XmlChars" = some m.cls) (hZ : Z.Warmed39 s.vm) (hw : ∀ d ∈ tables_1, d.before a0 Z = true) (hret : meth.sig.returnType = some .boolean) (p1 : Int32) (v : Int32) (hv : own_f2_142 p1 = v) {fs : List Frame} (hr : ∀ (f : JFrame) (acts : List Action), f.method = m → f.locked = none → f.entered = [] → (doReturn e (T.setTop f) acts (some (.int v))).1 = T.setFrames fs) :
    Steps p.tables e below (T.setTop (mkF m 142 #[.val (.int p1)] [])) (T.setFrames fs) := by
  unfold own_f2_142 at hv
  show Steps p.tables e below (T.setTop (mkF m 142 #[.val (.int p1)] [])) _
  refine XS.iloadN X.here hx rfl (hb hby d2_142) rfl ?_
  show Steps p.tables e below (T.setTop (mkF m 143 #[.val (.int p1)] [(.int p1)])) _
  refine XS.sipush X.here hx rfl (hb hby d2_143) ?_
  show Steps p.tables e below (T.setTop (mkF m 146 #[.val (.int p1)] [(.int (12289 : Int32)), (.int p1)])) _
  by_cases hc146 : p1 < (12289 : Int32)
  · rw [if_pos hc146] at hv
    refine XS.icmpYes X.here hx rfl (pc0 := 146) (pc' := 155) rfl (hb hby d2_146) rfl (tlt hc146).1 (by decide) (by decide) ?_
    show Steps p.tables e below (T.setTop (mkF m 155 #[.val (.int p1)] [])) _
    exact own_b2_155 X hx hby hown hZ hw hret p1 v hv hr
  · rw [if_neg hc146] at hv
    refine XS.icmpNo X.here hx rfl (hb hby d2_146) rfl (flt hc146).1 ?_
    show Steps p.tables e below (T.setTop (mkF m 149 #[.val (.int p1)] [])) _
    refine XS.iloadN X.here hx rfl (hb hby d2_149) rfl ?_
    show Steps p.tables e below (T.setTop (mkF m 150 #[.val (.int p1)] [(.int p1)])) _
    refine X.ldcInt hx hown (mvT hZ (hw _ (List.mem_of_getElem? (i := 17) rfl))) (g := (mkF m 150 #[.val (.int p1)] [(.int p1)])) rfl (hb hby d2_150) _ ?_
    show Steps p.tables e below (T.setTop (mkF m 152 #[.val (.int p1)] [(.int (55295 : Int32)), (.int p1)])) _
    by_cases hc152 : (55295 : Int32) < p1
    · rw [if_pos hc152] at hv
      refine XS.icmpNo X.here hx rfl (hb hby d2_152) rfl (tlt hc152).2.2.2 ?_
      show Steps p.tables e below (T.setTop (mkF m 155 #[.val (.int p1)] [])) _
      exact own_b2_155 X hx hby hown hZ hw hret p1 v hv hr
    · rw [if_neg hc152] at hv
      refine XS.icmpYes X.here hx rfl (pc0 := 152) (pc' := 191) rfl (hb hby d2_152) rfl (flt hc152).2.2.2 (by decide) (by decide) ?_
      show Steps p.tables e below (T.setTop (mkF m 191 #[.val (.int p1)] [])) _
      exact own_b2_191 X hx hby hown hZ hw hret p1 v hv hr
def own_f2_128 (p1 : Int32) : Int32 := (if p1 < (11264 : Int32) then own_f2_142 p1 else (if (12271 : Int32) < p1 then own_f2_142 p1 else own_f2_191 p1))
set_option maxRecDepth 65536 in
set_option maxHeartbeats 4000000 in
theorem own_b2_128 {p : Program} {l : Launch} {e : Env} {R : Room} {s : State} {m : MethodId} {args : Array Value} {below : List Frame} {meth : Method} {c : Code} {T : State} {locs : List Loc} {cells slots : Nat} {Z : State} {a0 : Array Value} (X : Stand p l e R s m args below meth c T locs cells slots) (hx : p.tables.exec = Jvm.exec) (hby : c.code = prog_300_method_5_code) (hown : s.vm.findClass "com/example/bertilak/bertilak/util/XmlChars" = some m.cls) (hZ : Z.Warmed39 s.vm) (hw : ∀ d ∈ tables_1, d.before a0 Z = true) (hret : meth.sig.returnType = some .boolean) (p1 : Int32) (v : Int32) (hv : own_f2_128 p1 = v) {fs : List Frame} (hr : ∀ (f : JFrame) (acts : List Action), f.method = m → f.locked = none → f.entered = [] → (doReturn e (T.setTop f) acts (some (.int v))).1 = T.setFrames fs) :
    Steps p.tables e below (T.setTop (mkF m 128 #[.val (.int p1)] [])) (T.setFrames fs) := by
  unfold own_f2_128 at hv
  show Steps p.tables e below (T.setTop (mkF m 128 #[.val (.int p1)] [])) _
  refine XS.iloadN X.here hx rfl (hb hby d2_128) rfl ?_
  show Steps p.tables e below (T.setTop (mkF m 129 #[.val (.int p1)] [(.int p1)])) _
  refine XS.sipush X.here hx rfl (hb hby d2_129) ?_
  show Steps p.tables e below (T.setTop (mkF m 132 #[.val (.int p1)] [(.int (11264 : Int32)), (.int p1)])) _
  by_cases hc132 : p1 < (11264 : Int32)
  · rw [if_pos hc132] at hv
    refine XS.icmpYes X.here hx rfl (pc0 := 132) (pc' := 142) rfl (hb hby d2_132) rfl (tlt hc132).1 (by decide) (by decide) ?_
    show Steps p.tables e below (T.setTop (mkF m 142 #[.val (.int p1)] [])) _
    exact own_b2_142 X hx hby hown hZ hw hret p1 v hv hr
  · rw [if_neg hc132] at hv
    refine XS.icmpNo X.here hx rfl (hb hby d2_132) rfl (flt hc132).1 ?_
    show Steps p.tables e below (T.setTop (mkF m 135 #[.val (.int p1)] [])) _
    refine XS.iloadN X.here hx rfl (hb hby d2_135) rfl ?_
    show Steps p.tables e below (T.setTop (mkF m 136 #[.val (.int p1)] [(.int p1)])) _
    refine XS.sipush X.here hx rfl (hb hby d2_136) ?_
    show Steps p.tables e below (T.setTop (mkF m 139 #[.val (.int p1)] [(.int (12271 : Int32)), (.int p1)])) _
    by_cases hc139 : (12271 : Int32) < p1
    · rw [if_pos hc139] at hv
      refine XS.icmpNo X.here hx rfl (hb hby d2_139) rfl (tlt hc139).2.2.2 ?_
      show Steps p.tables e below (T.setTop (mkF m 142 #[.val (.int p1)] [])) _
      exact own_b2_142 X hx hby hown hZ hw hret p1 v hv hr
    · rw [if_neg hc139] at hv
      refine XS.icmpYes X.here hx rfl (pc0 := 139) (pc' := 191) rfl (hb hby d2_139) rfl (flt hc139).2.2.2 (by decide) (by decide) ?_
      show Steps p.tables e below (T.setTop (mkF m 191 #[.val (.int p1)] [])) _
      exact own_b2_191 X hx hby hown hZ hw hret p1 v hv hr
def own_f2_114 (p1 : Int32) : Int32 := (if p1 < (8304 : Int32) then own_f2_128 p1 else (if (8591 : Int32) < p1 then own_f2_128 p1 else own_f2_191 p1))
set_option maxRecDepth 65536 in
set_option maxHeartbeats 4000000 in
theorem own_b2_114 {p : Program} {l : Launch} {e : Env} {R : Room} {s : State} {m : MethodId} {args : Array Value} {below : List Frame} {meth : Method} {c : Code} {T : State} {locs : List Loc} {cells slots : Nat} {Z : State} {a0 : Array Value} (X : Stand p l e R s m args below meth c T locs cells slots) (hx : p.tables.exec = Jvm.exec) (hby : c.code = prog_300_method_5_code) (hown : s.vm.findClass "com/example/bertilak/bertilak/util/XmlChars" = some m.cls) (hZ : Z.Warmed39 s.vm) (hw : ∀ d ∈ tables_1, d.before a0 Z = true) (hret : meth.sig.returnType = some .boolean) (p1 : Int32) (v : Int32) (hv : own_f2_114 p1 = v) {fs : List Frame} (hr : ∀ (f : JFrame) (acts : List Action), f.method = m → f.locked = none → f.entered = [] → (doReturn e (T.setTop f) acts (some (.int v))).1 = T.setFrames fs) :
    Steps p.tables e below (T.setTop (mkF m 114 #[.val (.int p1)] [])) (T.setFrames fs) := by
  unfold own_f2_114 at hv
  show Steps p.tables e below (T.setTop (mkF m 114 #[.val (.int p1)] [])) _
  refine XS.iloadN X.here hx rfl (hb hby d2_114) rfl ?_
  show Steps p.tables e below (T.setTop (mkF m 115 #[.val (.int p1)] [(.int p1)])) _
  refine XS.sipush X.here hx rfl (hb hby d2_115) ?_
  show Steps p.tables e below (T.setTop (mkF m 118 #[.val (.int p1)] [(.int (8304 : Int32)), (.int p1)])) _
  by_cases hc118 : p1 < (8304 : Int32)
  · rw [if_pos hc118] at hv
    refine XS.icmpYes X.here hx rfl (pc0 := 118) (pc' := 128) rfl (hb hby d2_118) rfl (tlt hc118).1 (by decide) (by decide) ?_
    show Steps p.tables e below (T.setTop (mkF m 128 #[.val (.int p1)] [])) _
    exact own_b2_128 X hx hby hown hZ hw hret p1 v hv hr
  · rw [if_neg hc118] at hv
    refine XS.icmpNo X.here hx rfl (hb hby d2_118) rfl (flt hc118).1 ?_
    show Steps p.tables e below (T.setTop (mkF m 121 #[.val (.int p1)] [])) _
    refine XS.iloadN X.here hx rfl (hb hby d2_121) rfl ?_
    show Steps p.tables e below (T.setTop (mkF m 122 #[.val (.int p1)] [(.int p1)])) _
    refine XS.sipush X.here hx rfl (hb hby d2_122) ?_
    show Steps p.tables e below (T.setTop (mkF m 125 #[.val (.int p1)] [(.int (8591 : Int32)), (.int p1)])) _
    by_cases hc125 : (8591 : Int32) < p1
    · rw [if_pos hc125] at hv
      refine XS.icmpNo X.here hx rfl (hb hby d2_125) rfl (tlt hc125).2.2.2 ?_
      show Steps p.tables e below (T.setTop (mkF m 128 #[.val (.int p1)] [])) _
      exact own_b2_128 X hx hby hown hZ hw hret p1 v hv hr
    · rw [if_neg hc125] at hv
      refine XS.icmpYes X.here hx rfl (pc0 := 125) (pc' := 191) rfl (hb hby d2_125) rfl (flt hc125).2.2.2 (by decide) (by decide) ?_
      show Steps p.tables e below (T.setTop (mkF m 191 #[.val (.int p1)] [])) _
      exact own_b2_191 X hx hby hown hZ hw hret p1 v hv hr
def own_f2_100 (p1 : Int32) : Int32 := (if p1 < (8204 : Int32) then own_f2_114 p1 else (if (8205 : Int32) < p1 then own_f2_114 p1 else own_f2_191 p1))
set_option maxRecDepth 65536 in
set_option maxHeartbeats 4000000 in
theorem own_b2_100 {p : Program} {l : Launch} {e : Env} {R : Room} {s : State} {m : MethodId} {args : Array Value} {below : List Frame} {meth : Method} {c : Code} {T : State} {locs : List Loc} {cells slots : Nat} {Z : State} {a0 : Array Value} (X : Stand p l e R s m args below meth c T locs cells slots) (hx : p.tables.exec = Jvm.exec) (hby : c.code = prog_300_method_5_code) (hown : s.vm.findClass "com/example/bertilak/bertilak/util/XmlChars" = some m.cls) (hZ : Z.Warmed39 s.vm) (hw : ∀ d ∈ tables_1, d.before a0 Z = true) (hret : meth.sig.returnType = some .boolean) (p1 : Int32) (v : Int32) (hv : own_f2_100 p1 = v) {fs : List Frame} (hr : ∀ (f : JFrame) (acts : List Action), f.method = m → f.locked = none → f.entered = [] → (doReturn e (T.setTop f) acts (some (.int v))).1 = T.setFrames fs) :
    Steps p.tables e below (T.setTop (mkF m 100 #[.val (.int p1)] [])) (T.setFrames fs) := by
  unfold own_f2_100 at hv
  show Steps p.tables e below (T.setTop (mkF m 100 #[.val (.int p1)] [])) _
  refine XS.iloadN X.here hx rfl (hb hby d2_100) rfl ?_
  show Steps p.tables e below (T.setTop (mkF m 101 #[.val (.int p1)] [(.int p1)])) _
  refine XS.sipush X.here hx rfl (hb hby d2_101) ?_
  show Steps p.tables e below (T.setTop (mkF m 104 #[.val (.int p1)] [(.int (8204 : Int32)), (.int p1)])) _
  by_cases hc104 : p1 < (8204 : Int32)
  · rw [if_pos hc104] at hv
    refine XS.icmpYes X.here hx rfl (pc0 := 104) (pc' := 114) rfl (hb hby d2_104) rfl (tlt hc104).1 (by decide) (by decide) ?_
    show Steps p.tables e below (T.setTop (mkF m 114 #[.val (.int p1)] [])) _
    exact own_b2_114 X hx hby hown hZ hw hret p1 v hv hr
  · rw [if_neg hc104] at hv
    refine XS.icmpNo X.here hx rfl (hb hby d2_104) rfl (flt hc104).1 ?_
    show Steps p.tables e below (T.setTop (mkF m 107 #[.val (.int p1)] [])) _
    refine XS.iloadN X.here hx rfl (hb hby d2_107) rfl ?_
    show Steps p.tables e below (T.setTop (mkF m 108 #[.val (.int p1)] [(.int p1)])) _
    refine XS.sipush X.here hx rfl (hb hby d2_108) ?_
    show Steps p.tables e below (T.setTop (mkF m 111 #[.val (.int p1)] [(.int (8205 : Int32)), (.int p1)])) _
    by_cases hc111 : (8205 : Int32) < p1
    · rw [if_pos hc111] at hv
      refine XS.icmpNo X.here hx rfl (hb hby d2_111) rfl (tlt hc111).2.2.2 ?_
      show Steps p.tables e below (T.setTop (mkF m 114 #[.val (.int p1)] [])) _
      exact own_b2_114 X hx hby hown hZ hw hret p1 v hv hr
    · rw [if_neg hc111] at hv
      refine XS.icmpYes X.here hx rfl (pc0 := 111) (pc' := 191) rfl (hb hby d2_111) rfl (flt hc111).2.2.2 (by decide) (by decide) ?_
      show Steps p.tables e below (T.setTop (mkF m 191 #[.val (.int p1)] [])) _
      exact own_b2_191 X hx hby hown hZ hw hret p1 v hv hr
def own_f2_86 (p1 : Int32) : Int32 := (if p1 < (895 : Int32) then own_f2_100 p1 else (if (8191 : Int32) < p1 then own_f2_100 p1 else own_f2_191 p1))
set_option maxRecDepth 65536 in
set_option maxHeartbeats 4000000 in
theorem own_b2_86 {p : Program} {l : Launch} {e : Env} {R : Room} {s : State} {m : MethodId} {args : Array Value} {below : List Frame} {meth : Method} {c : Code} {T : State} {locs : List Loc} {cells slots : Nat} {Z : State} {a0 : Array Value} (X : Stand p l e R s m args below meth c T locs cells slots) (hx : p.tables.exec = Jvm.exec) (hby : c.code = prog_300_method_5_code) (hown : s.vm.findClass "com/example/bertilak/bertilak/util/XmlChars" = some m.cls) (hZ : Z.Warmed39 s.vm) (hw : ∀ d ∈ tables_1, d.before a0 Z = true) (hret : meth.sig.returnType = some .boolean) (p1 : Int32) (v : Int32) (hv : own_f2_86 p1 = v) {fs : List Frame} (hr : ∀ (f : JFrame) (acts : List Action), f.method = m → f.locked = none → f.entered = [] → (doReturn e (T.setTop f) acts (some (.int v))).1 = T.setFrames fs) :
    Steps p.tables e below (T.setTop (mkF m 86 #[.val (.int p1)] [])) (T.setFrames fs) := by
  unfold own_f2_86 at hv
  show Steps p.tables e below (T.setTop (mkF m 86 #[.val (.int p1)] [])) _
  refine XS.iloadN X.here hx rfl (hb hby d2_86) rfl ?_
  show Steps p.tables e below (T.setTop (mkF m 87 #[.val (.int p1)] [(.int p1)])) _
  refine XS.sipush X.here hx rfl (hb hby d2_87) ?_
  show Steps p.tables e below (T.setTop (mkF m 90 #[.val (.int p1)] [(.int (895 : Int32)), (.int p1)])) _
  by_cases hc90 : p1 < (895 : Int32)
  · rw [if_pos hc90] at hv
    refine XS.icmpYes X.here hx rfl (pc0 := 90) (pc' := 100) rfl (hb hby d2_90) rfl (tlt hc90).1 (by decide) (by decide) ?_
    show Steps p.tables e below (T.setTop (mkF m 100 #[.val (.int p1)] [])) _
    exact own_b2_100 X hx hby hown hZ hw hret p1 v hv hr
  · rw [if_neg hc90] at hv
    refine XS.icmpNo X.here hx rfl (hb hby d2_90) rfl (flt hc90).1 ?_
    show Steps p.tables e below (T.setTop (mkF m 93 #[.val (.int p1)] [])) _
    refine XS.iloadN X.here hx rfl (hb hby d2_93) rfl ?_
    show Steps p.tables e below (T.setTop (mkF m 94 #[.val (.int p1)] [(.int p1)])) _
    refine XS.sipush X.here hx rfl (hb hby d2_94) ?_
    show Steps p.tables e below (T.setTop (mkF m 97 #[.val (.int p1)] [(.int (8191 : Int32)), (.int p1)])) _
    by_cases hc97 : (8191 : Int32) < p1
    · rw [if_pos hc97] at hv
      refine XS.icmpNo X.here hx rfl (hb hby d2_97) rfl (tlt hc97).2.2.2 ?_
      show Steps p.tables e below (T.setTop (mkF m 100 #[.val (.int p1)] [])) _
      exact own_b2_100 X hx hby hown hZ hw hret p1 v hv hr
    · rw [if_neg hc97] at hv
      refine XS.icmpYes X.here hx rfl (pc0 := 97) (pc' := 191) rfl (hb hby d2_97) rfl (flt hc97).2.2.2 (by decide) (by decide) ?_
      show Steps p.tables e below (T.setTop (mkF m 191 #[.val (.int p1)] [])) _
      exact own_b2_191 X hx hby hown hZ hw hret p1 v hv hr
def own_f2_72 (p1 : Int32) : Int32 := (if p1 < (880 : Int32) then own_f2_86 p1 else (if (893 : Int32) < p1 then own_f2_86 p1 else own_f2_191 p1))
set_option maxRecDepth 65536 in
set_option maxHeartbeats 4000000 in
theorem own_b2_72 {p : Program} {l : Launch} {e : Env} {R : Room} {s : State} {m : MethodId} {args : Array Value} {below : List Frame} {meth : Method} {c : Code} {T : State} {locs : List Loc} {cells slots : Nat} {Z : State} {a0 : Array Value} (X : Stand p l e R s m args below meth c T locs cells slots) (hx : p.tables.exec = Jvm.exec) (hby : c.code = prog_300_method_5_code) (hown : s.vm.findClass "com/example/bertilak/bertilak/util/XmlChars" = some m.cls) (hZ : Z.Warmed39 s.vm) (hw : ∀ d ∈ tables_1, d.before a0 Z = true) (hret : meth.sig.returnType = some .boolean) (p1 : Int32) (v : Int32) (hv : own_f2_72 p1 = v) {fs : List Frame} (hr : ∀ (f : JFrame) (acts : List Action), f.method = m → f.locked = none → f.entered = [] → (doReturn e (T.setTop f) acts (some (.int v))).1 = T.setFrames fs) :
    Steps p.tables e below (T.setTop (mkF m 72 #[.val (.int p1)] [])) (T.setFrames fs) := by
  unfold own_f2_72 at hv
  show Steps p.tables e below (T.setTop (mkF m 72 #[.val (.int p1)] [])) _
  refine XS.iloadN X.here hx rfl (hb hby d2_72) rfl ?_
  show Steps p.tables e below (T.setTop (mkF m 73 #[.val (.int p1)] [(.int p1)])) _
  refine XS.sipush X.here hx rfl (hb hby d2_73) ?_
  show Steps p.tables e below (T.setTop (mkF m 76 #[.val (.int p1)] [(.int (880 : Int32)), (.int p1)])) _
  by_cases hc76 : p1 < (880 : Int32)
  · rw [if_pos hc76] at hv
    refine XS.icmpYes X.here hx rfl (pc0 := 76) (pc' := 86) rfl (hb hby d2_76) rfl (tlt hc76).1 (by decide) (by decide) ?_
    show Steps p.tables e below (T.setTop (mkF m 86 #[.val (.int p1)] [])) _
    exact own_b2_86 X hx hby hown hZ hw hret p1 v hv hr
  · rw [if_neg hc76] at hv
    refine XS.icmpNo X.here hx rfl (hb hby d2_76) rfl (flt hc76).1 ?_
    show Steps p.tables e below (T.setTop (mkF m 79 #[.val (.int p1)] [])) _
    refine XS.iloadN X.here hx rfl (hb hby d2_79) rfl ?_
    show Steps p.tables e below (T.setTop (mkF m 80 #[.val (.int p1)] [(.int p1)])) _
    refine XS.sipush X.here hx rfl (hb hby d2_80) ?_
    show Steps p.tables e below (T.setTop (mkF m 83 #[.val (.int p1)] [(.int (893 : Int32)), (.int p1)])) _
    by_cases hc83 : (893 : Int32) < p1
    · rw [if_pos hc83] at hv
      refine XS.icmpNo X.here hx rfl (hb hby d2_83) rfl (tlt hc83).2.2.2 ?_
      show Steps p.tables e below (T.setTop (mkF m 86 #[.val (.int p1)] [])) _
      exact own_b2_86 X hx hby hown hZ hw hret p1 v hv hr
    · rw [if_neg hc83] at hv
      refine XS.icmpYes X.here hx rfl (pc0 := 83) (pc' := 191) rfl (hb hby d2_83) rfl (flt hc83).2.2.2 (by decide) (by decide) ?_
      show Steps p.tables e below (T.setTop (mkF m 191 #[.val (.int p1)] [])) _
      exact own_b2_191 X hx hby hown hZ hw hret p1 v hv hr
def own_f2_58 (p1 : Int32) : Int32 := (if p1 < (248 : Int32) then own_f2_72 p1 else (if (767 : Int32) < p1 then own_f2_72 p1 else own_f2_191 p1))
set_option maxRecDepth 65536 in
set_option maxHeartbeats 4000000 in
theorem own_b2_58 {p : Program} {l : Launch} {e : Env} {R : Room} {s : State} {m : MethodId} {args : Array Value} {below : List Frame} {meth : Method} {c : Code} {T : State} {locs : List Loc} {cells slots : Nat} {Z : State} {a0 : Array Value} (X : Stand p l e R s m args below meth c T locs cells slots) (hx : p.tables.exec = Jvm.exec) (hby : c.code = prog_300_method_5_code) (hown : s.vm.findClass "com/example/bertilak/bertilak/util/XmlChars" = some m.cls) (hZ : Z.Warmed39 s.vm) (hw : ∀ d ∈ tables_1, d.before a0 Z = true) (hret : meth.sig.returnType = some .boolean) (p1 : Int32) (v : Int32) (hv : own_f2_58 p1 = v) {fs : List Frame} (hr : ∀ (f : JFrame) (acts : List Action), f.method = m → f.locked = none → f.entered = [] → (doReturn e (T.setTop f) acts (some (.int v))).1 = T.setFrames fs) :
    Steps p.tables e below (T.setTop (mkF m 58 #[.val (.int p1)] [])) (T.setFrames fs) := by
  unfold own_f2_58 at hv
  show Steps p.tables e below (T.setTop (mkF m 58 #[.val (.int p1)] [])) _
  refine XS.iloadN X.here hx rfl (hb hby d2_58) rfl ?_
  show Steps p.tables e below (T.setTop (mkF m 59 #[.val (.int p1)] [(.int p1)])) _
  refine XS.sipush X.here hx rfl (hb hby d2_59) ?_
  show Steps p.tables e below (T.setTop (mkF m 62 #[.val (.int p1)] [(.int (248 : Int32)), (.int p1)])) _
  by_cases hc62 : p1 < (248 : Int32)
  · rw [if_pos hc62] at hv
    refine XS.icmpYes X.here hx rfl (pc0 := 62) (pc' := 72) rfl (hb hby d2_62) rfl (tlt hc62).1 (by decide) (by decide) ?_
    show Steps p.tables e below (T.setTop (mkF m 72 #[.val (.int p1)] [])) _
    exact own_b2_72 X hx hby hown hZ hw hret p1 v hv hr
  · rw [if_neg hc62] at hv
    refine XS.icmpNo X.here hx rfl (hb hby d2_62) rfl (flt hc62).1 ?_
    show Steps p.tables e below (T.setTop (mkF m 65 #[.val (.int p1)] [])) _
    refine XS.iloadN X.here hx rfl (hb hby d2_65) rfl ?_
    show Steps p.tables e below (T.setTop (mkF m 66 #[.val (.int p1)] [(.int p1)])) _
    refine XS.sipush X.here hx rfl (hb hby d2_66) ?_
    show Steps p.tables e below (T.setTop (mkF m 69 #[.val (.int p1)] [(.int (767 : Int32)), (.int p1)])) _
    by_cases hc69 : (767 : Int32) < p1
    · rw [if_pos hc69] at hv
      refine XS.icmpNo X.here hx rfl (hb hby d2_69) rfl (tlt hc69).2.2.2 ?_
      show Steps p.tables e below (T.setTop (mkF m 72 #[.val (.int p1)] [])) _
      exact own_b2_72 X hx hby hown hZ hw hret p1 v hv hr
    · rw [if_neg hc69] at hv
      refine XS.icmpYes X.here hx rfl (pc0 := 69) (pc' := 191) rfl (hb hby d2_69) rfl (flt hc69).2.2.2 (by decide) (by decide) ?_
      show Steps p.tables e below (T.setTop (mkF m 191 #[.val (.int p1)] [])) _
      exact own_b2_191 X hx hby hown hZ hw hret p1 v hv hr
def own_f2_44 (p1 : Int32) : Int32 := (if p1 < (216 : Int32) then own_f2_58 p1 else (if (246 : Int32) < p1 then own_f2_58 p1 else own_f2_191 p1))
set_option maxRecDepth 65536 in
set_option maxHeartbeats 4000000 in
theorem own_b2_44 {p : Program} {l : Launch} {e : Env} {R : Room} {s : State} {m : MethodId} {args : Array Value} {below : List Frame} {meth : Method} {c : Code} {T : State} {locs : List Loc} {cells slots : Nat} {Z : State} {a0 : Array Value} (X : Stand p l e R s m args below meth c T locs cells slots) (hx : p.tables.exec = Jvm.exec) (hby : c.code = prog_300_method_5_code) (hown : s.vm.findClass "com/example/bertilak/bertilak/util/XmlChars" = some m.cls) (hZ : Z.Warmed39 s.vm) (hw : ∀ d ∈ tables_1, d.before a0 Z = true) (hret : meth.sig.returnType = some .boolean) (p1 : Int32) (v : Int32) (hv : own_f2_44 p1 = v) {fs : List Frame} (hr : ∀ (f : JFrame) (acts : List Action), f.method = m → f.locked = none → f.entered = [] → (doReturn e (T.setTop f) acts (some (.int v))).1 = T.setFrames fs) :
    Steps p.tables e below (T.setTop (mkF m 44 #[.val (.int p1)] [])) (T.setFrames fs) := by
  unfold own_f2_44 at hv
  show Steps p.tables e below (T.setTop (mkF m 44 #[.val (.int p1)] [])) _
  refine XS.iloadN X.here hx rfl (hb hby d2_44) rfl ?_
  show Steps p.tables e below (T.setTop (mkF m 45 #[.val (.int p1)] [(.int p1)])) _
  refine XS.sipush X.here hx rfl (hb hby d2_45) ?_
  show Steps p.tables e below (T.setTop (mkF m 48 #[.val (.int p1)] [(.int (216 : Int32)), (.int p1)])) _
  by_cases hc48 : p1 < (216 : Int32)
  · rw [if_pos hc48] at hv
    refine XS.icmpYes X.here hx rfl (pc0 := 48) (pc' := 58) rfl (hb hby d2_48) rfl (tlt hc48).1 (by decide) (by decide) ?_
    show Steps p.tables e below (T.setTop (mkF m 58 #[.val (.int p1)] [])) _
    exact own_b2_58 X hx hby hown hZ hw hret p1 v hv hr
  · rw [if_neg hc48] at hv
    refine XS.icmpNo X.here hx rfl (hb hby d2_48) rfl (flt hc48).1 ?_
    show Steps p.tables e below (T.setTop (mkF m 51 #[.val (.int p1)] [])) _
    refine XS.iloadN X.here hx rfl (hb hby d2_51) rfl ?_
    show Steps p.tables e below (T.setTop (mkF m 52 #[.val (.int p1)] [(.int p1)])) _
    refine XS.sipush X.here hx rfl (hb hby d2_52) ?_
    show Steps p.tables e below (T.setTop (mkF m 55 #[.val (.int p1)] [(.int (246 : Int32)), (.int p1)])) _
    by_cases hc55 : (246 : Int32) < p1
    · rw [if_pos hc55] at hv
      refine XS.icmpNo X.here hx rfl (hb hby d2_55) rfl (tlt hc55).2.2.2 ?_
      show Steps p.tables e below (T.setTop (mkF m 58 #[.val (.int p1)] [])) _
      exact own_b2_58 X hx hby hown hZ hw hret p1 v hv hr
    · rw [if_neg hc55] at hv
      refine XS.icmpYes X.here hx rfl (pc0 := 55) (pc' := 191) rfl (hb hby d2_55) rfl (flt hc55).2.2.2 (by decide) (by decide) ?_
      show Steps p.tables e below (T.setTop (mkF m 191 #[.val (.int p1)] [])) _
      exact own_b2_191 X hx hby hown hZ hw hret p1 v hv hr
def own_f2_24 (p1 : Int32) : Int32 := (if p1 = (95 : Int32) then own_f2_191 p1 else (if p1 < (192 : Int32) then own_f2_44 p1 else (if (214 : Int32) < p1 then own_f2_44 p1 else own_f2_191 p1)))
set_option maxRecDepth 65536 in
set_option maxHeartbeats 4000000 in
theorem own_b2_24 {p : Program} {l : Launch} {e : Env} {R : Room} {s : State} {m : MethodId} {args : Array Value} {below : List Frame} {meth : Method} {c : Code} {T : State} {locs : List Loc} {cells slots : Nat} {Z : State} {a0 : Array Value} (X : Stand p l e R s m args below meth c T locs cells slots) (hx : p.tables.exec = Jvm.exec) (hby : c.code = prog_300_method_5_code) (hown : s.vm.findClass "com/example/bertilak/bertilak/util/XmlChars" = some m.cls) (hZ : Z.Warmed39 s.vm) (hw : ∀ d ∈ tables_1, d.before a0 Z = true) (hret : meth.sig.returnType = some .boolean) (p1 : Int32) (v : Int32) (hv : own_f2_24 p1 = v) {fs : List Frame} (hr : ∀ (f : JFrame) (acts : List Action), f.method = m → f.locked = none → f.entered = [] → (doReturn e (T.setTop f) acts (some (.int v))).1 = T.setFrames fs) :
    Steps p.tables e below (T.setTop (mkF m 24 #[.val (.int p1)] [])) (T.setFrames fs) := by
  unfold own_f2_24 at hv
  show Steps p.tables e below (T.setTop (mkF m 24 #[.val (.int p1)] [])) _
  refine XS.iloadN X.here hx rfl (hb hby d2_24) rfl ?_
  show Steps p.tables e below (T.setTop (mkF m 25 #[.val (.int p1)] [(.int p1)])) _
  refine XS.bipush X.here hx rfl (hb hby d2_25) ?_
  show Steps p.tables e below (T.setTop (mkF m 27 #[.val (.int p1)] [(.int (95 : Int32)), (.int p1)])) _
  by_cases hc27 : p1 = (95 : Int32)
  · rw [if_pos hc27] at hv
    refine XS.icmpYes X.here hx rfl (pc0 := 27) (pc' := 191) rfl (hb hby d2_27) rfl (teq hc27).1 (by decide) (by decide) ?_
    show Steps p.tables e below (T.setTop (mkF m 191 #[.val (.int p1)] [])) _
    exact own_b2_191 X hx hby hown hZ hw hret p1 v hv hr
  · rw [if_neg hc27] at hv
    refine XS.icmpNo X.here hx rfl (hb hby d2_27) rfl (feq hc27).1 ?_
    show Steps p.tables e below (T.setTop (mkF m 30 #[.val (.int p1)] [])) _
    refine XS.iloadN X.here hx rfl (hb hby d2_30) rfl ?_
    show Steps p.tables e below (T.setTop (mkF m 31 #[.val (.int p1)] [(.int p1)])) _
    refine XS.sipush X.here hx rfl (hb hby d2_31) ?_
    show Steps p.tables e below (T.setTop (mkF m 34 #[.val (.int p1)] [(.int (192 : Int32)), (.int p1)])) _
    by_cases hc34 : p1 < (192 : Int32)
    · rw [if_pos hc34] at hv
      refine XS.icmpYes X.here hx rfl (pc0 := 34) (pc' := 44) rfl (hb hby d2_34) rfl (tlt hc34).1 (by decide) (by decide) ?_
      show Steps p.tables e below (T.setTop (mkF m 44 #[.val (.int p1)] [])) _
      exact own_b2_44 X hx hby hown hZ hw hret p1 v hv hr
    · rw [if_neg hc34] at hv
      refine XS.icmpNo X.here hx rfl (hb hby d2_34) rfl (flt hc34).1 ?_
      show Steps p.tables e below (T.setTop (mkF m 37 #[.val (.int p1)] [])) _
      refine XS.iloadN X.here hx rfl (hb hby d2_37) rfl ?_
      show Steps p.tables e below (T.setTop (mkF m 38 #[.val (.int p1)] [(.int p1)])) _
      refine XS.sipush X.here hx rfl (hb hby d2_38) ?_
      show Steps p.tables e below (T.setTop (mkF m 41 #[.val (.int p1)] [(.int (214 : Int32)), (.int p1)])) _
      by_cases hc41 : (214 : Int32) < p1
      · rw [if_pos hc41] at hv
        refine XS.icmpNo X.here hx rfl (hb hby d2_41) rfl (tlt hc41).2.2.2 ?_
        show Steps p.tables e below (T.setTop (mkF m 44 #[.val (.int p1)] [])) _
        exact own_b2_44 X hx hby hown hZ hw hret p1 v hv hr
      · rw [if_neg hc41] at hv
        refine XS.icmpYes X.here hx rfl (pc0 := 41) (pc' := 191) rfl (hb hby d2_41) rfl (flt hc41).2.2.2 (by decide) (by decide) ?_
        show Steps p.tables e below (T.setTop (mkF m 191 #[.val (.int p1)] [])) _
        exact own_b2_191 X hx hby hown hZ hw hret p1 v hv hr
def own_f2_12 (p1 : Int32) : Int32 := (if p1 < (65 : Int32) then own_f2_24 p1 else (if (90 : Int32) < p1 then own_f2_24 p1 else own_f2_191 p1))
set_option maxRecDepth 65536 in
set_option maxHeartbeats 4000000 in
theorem own_b2_12 {p : Program} {l : Launch} {e : Env} {R : Room} {s : State} {m : MethodId} {args : Array Value} {below : List Frame} {meth : Method} {c : Code} {T : State} {locs : List Loc} {cells slots : Nat} {Z : State} {a0 : Array Value} (X : Stand p l e R s m args below meth c T locs cells slots) (hx : p.tables.exec = Jvm.exec) (hby : c.code = prog_300_method_5_code) (hown : s.vm.findClass "com/example/bertilak/bertilak/util/XmlChars" = some m.cls) (hZ : Z.Warmed39 s.vm) (hw : ∀ d ∈ tables_1, d.before a0 Z = true) (hret : meth.sig.returnType = some .boolean) (p1 : Int32) (v : Int32) (hv : own_f2_12 p1 = v) {fs : List Frame} (hr : ∀ (f : JFrame) (acts : List Action), f.method = m → f.locked = none → f.entered = [] → (doReturn e (T.setTop f) acts (some (.int v))).1 = T.setFrames fs) :
    Steps p.tables e below (T.setTop (mkF m 12 #[.val (.int p1)] [])) (T.setFrames fs) := by
  unfold own_f2_12 at hv
  show Steps p.tables e below (T.setTop (mkF m 12 #[.val (.int p1)] [])) _
  refine XS.iloadN X.here hx rfl (hb hby d2_12) rfl ?_
  show Steps p.tables e below (T.setTop (mkF m 13 #[.val (.int p1)] [(.int p1)])) _
  refine XS.bipush X.here hx rfl (hb hby d2_13) ?_
  show Steps p.tables e below (T.setTop (mkF m 15 #[.val (.int p1)] [(.int (65 : Int32)), (.int p1)])) _
  by_cases hc15 : p1 < (65 : Int32)
  · rw [if_pos hc15] at hv
    refine XS.icmpYes X.here hx rfl (pc0 := 15) (pc' := 24) rfl (hb hby d2_15) rfl (tlt hc15).1 (by decide) (by decide) ?_
    show Steps p.tables e below (T.setTop (mkF m 24 #[.val (.int p1)] [])) _
    exact own_b2_24 X hx hby hown hZ hw hret p1 v hv hr
  · rw [if_neg hc15] at hv
    refine XS.icmpNo X.here hx rfl (hb hby d2_15) rfl (flt hc15).1 ?_
    show Steps p.tables e below (T.setTop (mkF m 18 #[.val (.int p1)] [])) _
    refine XS.iloadN X.here hx rfl (hb hby d2_18) rfl ?_
    show Steps p.tables e below (T.setTop (mkF m 19 #[.val (.int p1)] [(.int p1)])) _
    refine XS.bipush X.here hx rfl (hb hby d2_19) ?_
    show Steps p.tables e below (T.setTop (mkF m 21 #[.val (.int p1)] [(.int (90 : Int32)), (.int p1)])) _
    by_cases hc21 : (90 : Int32) < p1
    · rw [if_pos hc21] at hv
      refine XS.icmpNo X.here hx rfl (hb hby d2_21) rfl (tlt hc21).2.2.2 ?_
      show Steps p.tables e below (T.setTop (mkF m 24 #[.val (.int p1)] [])) _
      exact own_b2_24 X hx hby hown hZ hw hret p1 v hv hr
    · rw [if_neg hc21] at hv
      refine XS.icmpYes X.here hx rfl (pc0 := 21) (pc' := 191) rfl (hb hby d2_21) rfl (flt hc21).2.2.2 (by decide) (by decide) ?_
      show Steps p.tables e below (T.setTop (mkF m 191 #[.val (.int p1)] [])) _
      exact own_b2_191 X hx hby hown hZ hw hret p1 v hv hr
def own_f2_0 (p1 : Int32) : Int32 := (if p1 < (97 : Int32) then own_f2_12 p1 else (if (122 : Int32) < p1 then own_f2_12 p1 else own_f2_191 p1))
set_option maxRecDepth 65536 in
set_option maxHeartbeats 4000000 in
theorem own_b2_0 {p : Program} {l : Launch} {e : Env} {R : Room} {s : State} {m : MethodId} {args : Array Value} {below : List Frame} {meth : Method} {c : Code} {T : State} {locs : List Loc} {cells slots : Nat} {Z : State} {a0 : Array Value} (X : Stand p l e R s m args below meth c T locs cells slots) (hx : p.tables.exec = Jvm.exec) (hby : c.code = prog_300_method_5_code) (hown : s.vm.findClass "com/example/bertilak/bertilak/util/XmlChars" = some m.cls) (hZ : Z.Warmed39 s.vm) (hw : ∀ d ∈ tables_1, d.before a0 Z = true) (hret : meth.sig.returnType = some .boolean) (p1 : Int32) (v : Int32) (hv : own_f2_0 p1 = v) {fs : List Frame} (hr : ∀ (f : JFrame) (acts : List Action), f.method = m → f.locked = none → f.entered = [] → (doReturn e (T.setTop f) acts (some (.int v))).1 = T.setFrames fs) :
    Steps p.tables e below (T.setTop (mkF m 0 #[.val (.int p1)] [])) (T.setFrames fs) := by
  unfold own_f2_0 at hv
  show Steps p.tables e below (T.setTop (mkF m 0 #[.val (.int p1)] [])) _
  refine XS.iloadN X.here hx rfl (hb hby d2_0) rfl ?_
  show Steps p.tables e below (T.setTop (mkF m 1 #[.val (.int p1)] [(.int p1)])) _
  refine XS.bipush X.here hx rfl (hb hby d2_1) ?_
  show Steps p.tables e below (T.setTop (mkF m 3 #[.val (.int p1)] [(.int (97 : Int32)), (.int p1)])) _
  by_cases hc3 : p1 < (97 : Int32)
  · rw [if_pos hc3] at hv
    refine XS.icmpYes X.here hx rfl (pc0 := 3) (pc' := 12) rfl (hb hby d2_3) rfl (tlt hc3).1 (by decide) (by decide) ?_
    show Steps p.tables e below (T.setTop (mkF m 12 #[.val (.int p1)] [])) _
    exact own_b2_12 X hx hby hown hZ hw hret p1 v hv hr
  · rw [if_neg hc3] at hv
    refine XS.icmpNo X.here hx rfl (hb hby d2_3) rfl (flt hc3).1 ?_
    show Steps p.tables e below (T.setTop (mkF m 6 #[.val (.int p1)] [])) _
    refine XS.iloadN X.here hx rfl (hb hby d2_6) rfl ?_
    show Steps p.tables e below (T.setTop (mkF m 7 #[.val (.int p1)] [(.int p1)])) _
    refine XS.bipush X.here hx rfl (hb hby d2_7) ?_
    show Steps p.tables e below (T.setTop (mkF m 9 #[.val (.int p1)] [(.int (122 : Int32)), (.int p1)])) _
    by_cases hc9 : (122 : Int32) < p1
    · rw [if_pos hc9] at hv
      refine XS.icmpNo X.here hx rfl (hb hby d2_9) rfl (tlt hc9).2.2.2 ?_
      show Steps p.tables e below (T.setTop (mkF m 12 #[.val (.int p1)] [])) _
      exact own_b2_12 X hx hby hown hZ hw hret p1 v hv hr
    · rw [if_neg hc9] at hv
      refine XS.icmpYes X.here hx rfl (pc0 := 9) (pc' := 191) rfl (hb hby d2_9) rfl (flt hc9).2.2.2 (by decide) (by decide) ?_
      show Steps p.tables e below (T.setTop (mkF m 191 #[.val (.int p1)] [])) _
      exact own_b2_191 X hx hby hown hZ hw hret p1 v hv hr
theorem ef_2 (m : MethodId) (x0 : Int32) : entryFrame m #[(.int x0)] 1 = mkF m 0 #[.val (.int x0)] [] := by first | (simp [entryFrame, mkF, argsToLocals, Value.category, maxLocals]; done) | rfl
theorem pn_2 : plainName "com/example/bertilak/bertilak/util/XmlChars" = true := by first | (simp [plainName, overriddenIn]; done) | decide +kernel
def Q_rm2 (Z : State) (p1 : Int32)  (h0 : Heap) (n0 : Nat) (v : Option Value) (h : Heap) (L : List Loc) : Prop := v = some (.int (own_f2_0 p1)) ∧ Fr n0 L ∧ h = h0
set_option maxRecDepth 65536 in
set_option maxHeartbeats 40000000 in
theorem rm2 (l : Launch) (Z : State) (a0 : Array Value) (hw : ∀ d ∈ tables_1, d.before a0 Z = true) (ws : List Jvm.Cond) (p1 : Int32)  (h0 : Heap) (n0 : Nat) (Z0 : n0 ≤ h0.size)  :
    MetFree l (⟨"com/example/bertilak/bertilak/util/XmlChars", "isNameStartChar", "(I)Z"⟩ : MethodName) (head1 (Jvm.Cond.code (⟨"com/example/bertilak/bertilak/util/XmlChars", "isNameStartChar", "(I)Z"⟩ : MethodName) prog_300_method_5_code 1 (some .boolean) :: ws) ({ frames := 0, cells := 0, slots := 0, locals := 0 } : Room)) (fun a U => a = #[(.int p1)] ∧ Z.Warmed39 U.vm ∧ U.heap = h0) (fun _ _ _ _ _ => True) (fun _ U o U' => ∃ v L, o = .returned v ∧ Q_rm2 Z p1  h0 n0 v U'.heap L ∧ FrameEnd U o U' L ({ frames := 0, cells := 0, slots := 0, locals := 0 } : Room).cells ({ frames := 0, cells := 0, slots := 0, locals := 0 } : Room).slots) := by
  refine MetFree.of_bodySF (plainFor_of_name pn_2) hisR ?_
  intro p e s m args below meth c s₁ Bd hml0 hP hK
  obtain ⟨rfl, hZ, hh⟩ := hP
  have hx := Bd.exec
  have hby := Bd.bytes
  have hml : c.maxLocals = 1 := hml0
  have hown : s.vm.findClass "com/example/bertilak/bertilak/util/XmlChars" = some m.cls := findClass_of_methodNamed Bd.named
  have hnm := (name_of_methodNamed Bd.named Bd.method).1
  have X0 : Stand p l e ({ frames := 0, cells := 0, slots := 0, locals := 0 } : Room) s m #[(.int p1)] below meth c s₁ [] 0 0 := Stand.of_body Bd
  have e0 : s₁.heap = h0 := by rw [← hh, Bd.state]; rfl
  have N0 := Fr.nil n0
  have pre0 : ∀ t, Steps p.tables e below (s₁.setTop (mkF m 0 #[.val (.int p1)] [])) t → Steps p.tables e below (s₁.setTop (entryFrame m #[(.int p1)] 1)) t := fun t k => castTop (ef_2 m p1) k
  obtain ⟨fs, hr, hrun, hended, hW, hsame⟩ := X0.leave (v := some (.int (own_f2_0 p1))) (fun h => by rw [Bd.returns] at h; cases h) Bd.notSynchronized
  refine ⟨_, _, pre0 _ ?_, hrun, hended, _, _, rfl, ?_, ⟨_, rfl⟩, hW, hsame.mono (by decide) (by decide)⟩
  · exact own_b2_0 X0 hx hby hown hZ hw Bd.returns p1 _ rfl hr
  · exact ⟨rfl, N0, e0⟩
theorem own_f2_195_spec (x : Int32) : own_f2_195 x = if False then (1 : Int32) else (0 : Int32) := by
  have b1 := Int32.le_toInt x
  have b2 := Int32.toInt_lt x
  unfold own_f2_195
  simp only [Int32.lt_iff_toInt_lt, ← Int32.toInt_inj, Int32.reduceToInt, if_true, if_false]
  repeat' split
  all_goals first | (exfalso; omega) | rfl
theorem own_f2_191_spec (x : Int32) : own_f2_191 x = if True then (1 : Int32) else (0 : Int32) := by
  have b1 := Int32.le_toInt x
  have b2 := Int32.toInt_lt x
  unfold own_f2_191
  simp only [Int32.lt_iff_toInt_lt, ← Int32.toInt_inj, Int32.reduceToInt, if_true, if_false]
  repeat' split
  all_goals first | (exfalso; omega) | rfl
theorem own_f2_179_spec (x : Int32) : own_f2_179 x = if (65536 ≤ x.toInt ∧ x.toInt ≤ 983039) then (1 : Int32) else (0 : Int32) := by
  have b1 := Int32.le_toInt x
  have b2 := Int32.toInt_lt x
  unfold own_f2_179
  simp only [own_f2_195_spec, own_f2_191_spec, Int32.lt_iff_toInt_lt, ← Int32.toInt_inj, Int32.reduceToInt, if_true, if_false]
  repeat' split
  all_goals first | (exfalso; omega) | rfl
theorem own_f2_167_spec (x : Int32) : own_f2_167 x = if (65008 ≤ x.toInt ∧ x.toInt ≤ 65533) ∨ (65536 ≤ x.toInt ∧ x.toInt ≤ 983039) then (1 : Int32) else (0 : Int32) := by
  have b1 := Int32.le_toInt x
  have b2 := Int32.toInt_lt x
  unfold own_f2_167
  simp only [own_f2_179_spec, own_f2_191_spec, Int32.lt_iff_toInt_lt, ← Int32.toInt_inj, Int32.reduceToInt, if_true, if_false]
  repeat' split
  all_goals first | (exfalso; omega) | rfl
theorem own_f2_155_spec (x : Int32) : own_f2_155 x = if (63744 ≤ x.toInt ∧ x.toInt ≤ 64975) ∨ (65008 ≤ x.toInt ∧ x.toInt ≤ 65533) ∨ (65536 ≤ x.toInt ∧ x.toInt ≤ 983039) then (1 : Int32) else (0 : Int32) := by
  have b1 := Int32.le_toInt x
  have b2 := Int32.toInt_lt x
  unfold own_f2_155
  simp only [own_f2_167_spec, own_f2_191_spec, Int32.lt_iff_toInt_lt, ← Int32.toInt_inj, Int32.reduceToInt, if_true, if_false]
  repeat' split
  all_goals first | (exfalso; omega) | rfl
theorem own_f2_142_spec (x : Int32) : own_f2_142 x = if (12289 ≤ x.toInt ∧ x.toInt ≤ 55295) ∨ (63744 ≤ x.toInt ∧ x.toInt ≤ 64975) ∨ (65008 ≤ x.toInt ∧ x.toInt ≤ 65533) ∨ (65536 ≤ x.toInt ∧ x.toInt ≤ 983039) then (1 : Int32) else (0 : Int32) := by
  have b1 := Int32.le_toInt x
  have b2 := Int32.toInt_lt x
  unfold own_f2_142
  simp only [own_f2_155_spec, own_f2_191_spec, Int32.lt_iff_toInt_lt, ← Int32.toInt_inj, Int32.reduceToInt, if_true, if_false]
  repeat' split
  all_goals first | (exfalso; omega) | rfl
theorem own_f2_128_spec (x : Int32) : own_f2_128 x = if (11264 ≤ x.toInt ∧ x.toInt ≤ 12271) ∨ (12289 ≤ x.toInt ∧ x.toInt ≤ 55295) ∨ (63744 ≤ x.toInt ∧ x.toInt ≤ 64975) ∨ (65008 ≤ x.toInt ∧ x.toInt ≤ 65533) ∨ (65536 ≤ x.toInt ∧ x.toInt ≤ 983039) then (1 : Int32) else (0 : Int32) := by
  have b1 := Int32.le_toInt x
  have b2 := Int32.toInt_lt x
  unfold own_f2_128
  simp only [own_f2_142_spec, own_f2_191_spec, Int32.lt_iff_toInt_lt, ← Int32.toInt_inj, Int32.reduceToInt, if_true, if_false]
  repeat' split
  all_goals first | (exfalso; omega) | rfl
theorem own_f2_114_spec (x : Int32) : own_f2_114 x = if (8304 ≤ x.toInt ∧ x.toInt ≤ 8591) ∨ (11264 ≤ x.toInt ∧ x.toInt ≤ 12271) ∨ (12289 ≤ x.toInt ∧ x.toInt ≤ 55295) ∨ (63744 ≤ x.toInt ∧ x.toInt ≤ 64975) ∨ (65008 ≤ x.toInt ∧ x.toInt ≤ 65533) ∨ (65536 ≤ x.toInt ∧ x.toInt ≤ 983039) then (1 : Int32) else (0 : Int32) := by
  have b1 := Int32.le_toInt x
  have b2 := Int32.toInt_lt x
  unfold own_f2_114
  simp only [own_f2_128_spec, own_f2_191_spec, Int32.lt_iff_toInt_lt, ← Int32.toInt_inj, Int32.reduceToInt, if_true, if_false]
  repeat' split
  all_goals first | (exfalso; omega) | rfl
theorem own_f2_100_spec (x : Int32) : own_f2_100 x = if (8204 ≤ x.toInt ∧ x.toInt ≤ 8205) ∨ (8304 ≤ x.toInt ∧ x.toInt ≤ 8591) ∨ (11264 ≤ x.toInt ∧ x.toInt ≤ 12271) ∨ (12289 ≤ x.toInt ∧ x.toInt ≤ 55295) ∨ (63744 ≤ x.toInt ∧ x.toInt ≤ 64975) ∨ (65008 ≤ x.toInt ∧ x.toInt ≤ 65533) ∨ (65536 ≤ x.toInt ∧ x.toInt ≤ 983039) then (1 : Int32) else (0 : Int32) := by
  have b1 := Int32.le_toInt x
  have b2 := Int32.toInt_lt x
  unfold own_f2_100
  simp only [own_f2_114_spec, own_f2_191_spec, Int32.lt_iff_toInt_lt, ← Int32.toInt_inj, Int32.reduceToInt, if_true, if_false]
  repeat' split
  all_goals first | (exfalso; omega) | rfl
theorem own_f2_86_spec (x : Int32) : own_f2_86 x = if (895 ≤ x.toInt ∧ x.toInt ≤ 8191) ∨ (8204 ≤ x.toInt ∧ x.toInt ≤ 8205) ∨ (8304 ≤ x.toInt ∧ x.toInt ≤ 8591) ∨ (11264 ≤ x.toInt ∧ x.toInt ≤ 12271) ∨ (12289 ≤ x.toInt ∧ x.toInt ≤ 55295) ∨ (63744 ≤ x.toInt ∧ x.toInt ≤ 64975) ∨ (65008 ≤ x.toInt ∧ x.toInt ≤ 65533) ∨ (65536 ≤ x.toInt ∧ x.toInt ≤ 983039) then (1 : Int32) else (0 : Int32) := by
  have b1 := Int32.le_toInt x
  have b2 := Int32.toInt_lt x
  unfold own_f2_86
  simp only [own_f2_100_spec, own_f2_191_spec, Int32.lt_iff_toInt_lt, ← Int32.toInt_inj, Int32.reduceToInt, if_true, if_false]
  repeat' split
  all_goals first | (exfalso; omega) | rfl
theorem own_f2_72_spec (x : Int32) : own_f2_72 x = if (880 ≤ x.toInt ∧ x.toInt ≤ 893) ∨ (895 ≤ x.toInt ∧ x.toInt ≤ 8191) ∨ (8204 ≤ x.toInt ∧ x.toInt ≤ 8205) ∨ (8304 ≤ x.toInt ∧ x.toInt ≤ 8591) ∨ (11264 ≤ x.toInt ∧ x.toInt ≤ 12271) ∨ (12289 ≤ x.toInt ∧ x.toInt ≤ 55295) ∨ (63744 ≤ x.toInt ∧ x.toInt ≤ 64975) ∨ (65008 ≤ x.toInt ∧ x.toInt ≤ 65533) ∨ (65536 ≤ x.toInt ∧ x.toInt ≤ 983039) then (1 : Int32) else (0 : Int32) := by
  have b1 := Int32.le_toInt x
  have b2 := Int32.toInt_lt x
  unfold own_f2_72
  simp only [own_f2_86_spec, own_f2_191_spec, Int32.lt_iff_toInt_lt, ← Int32.toInt_inj, Int32.reduceToInt, if_true, if_false]
  repeat' split
  all_goals first | (exfalso; omega) | rfl
theorem own_f2_58_spec (x : Int32) : own_f2_58 x = if (248 ≤ x.toInt ∧ x.toInt ≤ 767) ∨ (880 ≤ x.toInt ∧ x.toInt ≤ 893) ∨ (895 ≤ x.toInt ∧ x.toInt ≤ 8191) ∨ (8204 ≤ x.toInt ∧ x.toInt ≤ 8205) ∨ (8304 ≤ x.toInt ∧ x.toInt ≤ 8591) ∨ (11264 ≤ x.toInt ∧ x.toInt ≤ 12271) ∨ (12289 ≤ x.toInt ∧ x.toInt ≤ 55295) ∨ (63744 ≤ x.toInt ∧ x.toInt ≤ 64975) ∨ (65008 ≤ x.toInt ∧ x.toInt ≤ 65533) ∨ (65536 ≤ x.toInt ∧ x.toInt ≤ 983039) then (1 : Int32) else (0 : Int32) := by
  have b1 := Int32.le_toInt x
  have b2 := Int32.toInt_lt x
  unfold own_f2_58
  simp only [own_f2_72_spec, own_f2_191_spec, Int32.lt_iff_toInt_lt, ← Int32.toInt_inj, Int32.reduceToInt, if_true, if_false]
  repeat' split
  all_goals first | (exfalso; omega) | rfl
theorem own_f2_44_spec (x : Int32) : own_f2_44 x = if (216 ≤ x.toInt ∧ x.toInt ≤ 246) ∨ (248 ≤ x.toInt ∧ x.toInt ≤ 767) ∨ (880 ≤ x.toInt ∧ x.toInt ≤ 893) ∨ (895 ≤ x.toInt ∧ x.toInt ≤ 8191) ∨ (8204 ≤ x.toInt ∧ x.toInt ≤ 8205) ∨ (8304 ≤ x.toInt ∧ x.toInt ≤ 8591) ∨ (11264 ≤ x.toInt ∧ x.toInt ≤ 12271) ∨ (12289 ≤ x.toInt ∧ x.toInt ≤ 55295) ∨ (63744 ≤ x.toInt ∧ x.toInt ≤ 64975) ∨ (65008 ≤ x.toInt ∧ x.toInt ≤ 65533) ∨ (65536 ≤ x.toInt ∧ x.toInt ≤ 983039) then (1 : Int32) else (0 : Int32) := by
  have b1 := Int32.le_toInt x
  have b2 := Int32.toInt_lt x
  unfold own_f2_44
  simp only [own_f2_58_spec, own_f2_191_spec, Int32.lt_iff_toInt_lt, ← Int32.toInt_inj, Int32.reduceToInt, if_true, if_false]
  repeat' split
  all_goals first | (exfalso; omega) | rfl
theorem own_f2_24_spec (x : Int32) : own_f2_24 x = if x.toInt = 95 ∨ (192 ≤ x.toInt ∧ x.toInt ≤ 214) ∨ (216 ≤ x.toInt ∧ x.toInt ≤ 246) ∨ (248 ≤ x.toInt ∧ x.toInt ≤ 767) ∨ (880 ≤ x.toInt ∧ x.toInt ≤ 893) ∨ (895 ≤ x.toInt ∧ x.toInt ≤ 8191) ∨ (8204 ≤ x.toInt ∧ x.toInt ≤ 8205) ∨ (8304 ≤ x.toInt ∧ x.toInt ≤ 8591) ∨ (11264 ≤ x.toInt ∧ x.toInt ≤ 12271) ∨ (12289 ≤ x.toInt ∧ x.toInt ≤ 55295) ∨ (63744 ≤ x.toInt ∧ x.toInt ≤ 64975) ∨ (65008 ≤ x.toInt ∧ x.toInt ≤ 65533) ∨ (65536 ≤ x.toInt ∧ x.toInt ≤ 983039) then (1 : Int32) else (0 : Int32) := by
  have b1 := Int32.le_toInt x
  have b2 := Int32.toInt_lt x
  unfold own_f2_24
  simp only [own_f2_191_spec, own_f2_44_spec, Int32.lt_iff_toInt_lt, ← Int32.toInt_inj, Int32.reduceToInt, if_true, if_false]
  repeat' split
  all_goals first | (exfalso; omega) | rfl
theorem own_f2_12_spec (x : Int32) : own_f2_12 x = if (65 ≤ x.toInt ∧ x.toInt ≤ 90) ∨ x.toInt = 95 ∨ (192 ≤ x.toInt ∧ x.toInt ≤ 214) ∨ (216 ≤ x.toInt ∧ x.toInt ≤ 246) ∨ (248 ≤ x.toInt ∧ x.toInt ≤ 767) ∨ (880 ≤ x.toInt ∧ x.toInt ≤ 893) ∨ (895 ≤ x.toInt ∧ x.toInt ≤ 8191) ∨ (8204 ≤ x.toInt ∧ x.toInt ≤ 8205) ∨ (8304 ≤ x.toInt ∧ x.toInt ≤ 8591) ∨ (11264 ≤ x.toInt ∧ x.toInt ≤ 12271) ∨ (12289 ≤ x.toInt ∧ x.toInt ≤ 55295) ∨ (63744 ≤ x.toInt ∧ x.toInt ≤ 64975) ∨ (65008 ≤ x.toInt ∧ x.toInt ≤ 65533) ∨ (65536 ≤ x.toInt ∧ x.toInt ≤ 983039) then (1 : Int32) else (0 : Int32) := by
  have b1 := Int32.le_toInt x
  have b2 := Int32.toInt_lt x
  unfold own_f2_12
  simp only [own_f2_24_spec, own_f2_191_spec, Int32.lt_iff_toInt_lt, ← Int32.toInt_inj, Int32.reduceToInt, if_true, if_false]
  repeat' split
  all_goals first | (exfalso; omega) | rfl
theorem own_f2_0_spec (x : Int32) : own_f2_0 x = if (65 ≤ x.toInt ∧ x.toInt ≤ 90) ∨ x.toInt = 95 ∨ (97 ≤ x.toInt ∧ x.toInt ≤ 122) ∨ (192 ≤ x.toInt ∧ x.toInt ≤ 214) ∨ (216 ≤ x.toInt ∧ x.toInt ≤ 246) ∨ (248 ≤ x.toInt ∧ x.toInt ≤ 767) ∨ (880 ≤ x.toInt ∧ x.toInt ≤ 893) ∨ (895 ≤ x.toInt ∧ x.toInt ≤ 8191) ∨ (8204 ≤ x.toInt ∧ x.toInt ≤ 8205) ∨ (8304 ≤ x.toInt ∧ x.toInt ≤ 8591) ∨ (11264 ≤ x.toInt ∧ x.toInt ≤ 12271) ∨ (12289 ≤ x.toInt ∧ x.toInt ≤ 55295) ∨ (63744 ≤ x.toInt ∧ x.toInt ≤ 64975) ∨ (65008 ≤ x.toInt ∧ x.toInt ≤ 65533) ∨ (65536 ≤ x.toInt ∧ x.toInt ≤ 983039) then (1 : Int32) else (0 : Int32) := by
  have b1 := Int32.le_toInt x
  have b2 := Int32.toInt_lt x
  unfold own_f2_0
  simp only [own_f2_12_spec, own_f2_191_spec, Int32.lt_iff_toInt_lt, ← Int32.toInt_inj, Int32.reduceToInt, if_true, if_false]
  repeat' split
  all_goals first | (exfalso; omega) | rfl
theorem own_nar (x : Int32) : nar .boolean (own_f2_0 x) = own_f2_0 x := by
  rw [own_f2_0_spec]; split <;> decide
theorem d1_0 : decode method_2_code 0 = .ok (.iload_n 0, 1) := by decide +kernel
theorem d1_1 : decode method_2_code 1 = .ok (.invokestatic 7, 3) := by decide +kernel
theorem d1_4 : decode method_2_code 4 = .ok (.ireturn, 1) := by decide +kernel
theorem ef_1 (m : MethodId) (x0 : Int32) : entryFrame m #[(.int x0)] 1 = mkF m 0 #[.val (.int x0)] [] := by first | (simp [entryFrame, mkF, argsToLocals, Value.category, maxLocals]; done) | rfl
theorem pn_1 : plainName "com/example/bertilak/bertilak/util/XmlCharsIsNameStartCharPinLaw" = true := by first | (simp [plainName, overriddenIn]; done) | decide +kernel
def Q_rm1 (Z : State) (p1 : Int32)  (h0 : Heap) (n0 : Nat) (v : Option Value) (h : Heap) (L : List Loc) : Prop := v = some (.int (own_f2_0 p1)) ∧ Fr n0 L ∧ h = h0
set_option maxRecDepth 65536 in
set_option maxHeartbeats 40000000 in
theorem rm1 (l : Launch) (Z : State) (a0 : Array Value) (hw : ∀ d ∈ tables_1, d.before a0 Z = true) (ws : List Jvm.Cond) (p1 : Int32)  (h0 : Heap) (n0 : Nat) (Z0 : n0 ≤ h0.size)  :
    MetFree l (⟨"com/example/bertilak/bertilak/util/XmlCharsIsNameStartCharPinLaw", "f", "(I)Z"⟩ : MethodName) (head1 (Jvm.Cond.code (⟨"com/example/bertilak/bertilak/util/XmlCharsIsNameStartCharPinLaw", "f", "(I)Z"⟩ : MethodName) method_2_code 1 (some .boolean) :: ws) ({ frames := 1, cells := 0, slots := 0, locals := 12 } : Room)) (fun a U => a = #[(.int p1)] ∧ Z.Warmed39 U.vm ∧ U.heap = h0) (fun _ _ _ _ _ => True) (fun _ U o U' => ∃ v L, o = .returned v ∧ Q_rm1 Z p1  h0 n0 v U'.heap L ∧ FrameEnd U o U' L ({ frames := 1, cells := 0, slots := 0, locals := 12 } : Room).cells ({ frames := 1, cells := 0, slots := 0, locals := 12 } : Room).slots) := by
  refine MetFree.of_bodySF (plainFor_of_name pn_1) hisR ?_
  intro p e s m args below meth c s₁ Bd hml0 hP hK
  obtain ⟨rfl, hZ, hh⟩ := hP
  have hx := Bd.exec
  have hby := Bd.bytes
  have hml : c.maxLocals = 1 := hml0
  have hown : s.vm.findClass "com/example/bertilak/bertilak/util/XmlCharsIsNameStartCharPinLaw" = some m.cls := findClass_of_methodNamed Bd.named
  have hnm := (name_of_methodNamed Bd.named Bd.method).1
  have X0 : Stand p l e ({ frames := 1, cells := 0, slots := 0, locals := 12 } : Room) s m #[(.int p1)] below meth c s₁ [] 0 0 := Stand.of_body Bd
  have e0 : s₁.heap = h0 := by rw [← hh, Bd.state]; rfl
  have N0 := Fr.nil n0
  have pre0 : ∀ t, Steps p.tables e below (s₁.setTop (mkF m 0 #[.val (.int p1)] [])) t → Steps p.tables e below (s₁.setTop (entryFrame m #[(.int p1)] 1)) t := fun t k => castTop (ef_1 m p1) k
  have K1 : ∀ t, Steps p.tables e below (s₁.setTop (mkF m 1 #[.val (.int p1)] [(.int p1)])) t → Steps p.tables e below (s₁.setTop (entryFrame m #[(.int p1)] 1)) t := by
    intro t hk
    refine pre0 t ?_
    show Steps p.tables e below (s₁.setTop (mkF m 0 #[.val (.int p1)] [])) _
    refine XS.iloadN X0.here hx rfl (hb hby d1_0) rfl ?_
    show Steps p.tables e below (s₁.setTop (mkF m 1 #[.val (.int p1)] [(.int p1)])) _
    exact hk
  obtain ⟨_, _, ⟨T2, L2, k2, n2⟩, -, X2, ⟨Lc2, hQ2, l2, y2, z2⟩, st2⟩ := Jvm.LawKit.callS X0 hx (y := (⟨"com/example/bertilak/bertilak/util/XmlChars", "isNameStartChar", "(I)Z"⟩ : MethodName)) hown (mvT hZ (hw _ (List.mem_of_getElem? (i := 13) rfl))) (mvT hZ (hw _ (List.mem_of_getElem? (i := 14) rfl))) (mvT hZ (hw _ (List.mem_of_getElem? (i := 15) rfl))) (mvT hZ (hw _ (List.mem_of_getElem? (i := 16) rfl))) (by decide) (backOf (W := 0) (rm2 l Z a0 hw [] p1  h0 n0 Z0 ) hZ (hw _ (List.mem_of_getElem? (i := 16) rfl)) (hw _ (List.mem_of_getElem? (i := 15) rfl)) (by decide) (by decide)) (g := (mkF m 1 #[.val (.int p1)] [(.int p1)])) rfl (by rw [hml]; rfl) (argsL := [(.int p1)]) (rest := []) (lenOf (by decide +kernel : parseMethodDescriptor "(I)Z" = some ⟨[.int], (some .boolean)⟩) rfl) rfl (by show 2 * 0 + _ ≤ _; exact Nat.le_of_eq rfl) (hb hby d1_1) (fun _ _ => ⟨rfl, e0, (by decide : 0 + 0 ≤ _), (by decide : 0 + 0 ≤ _)⟩)
  dsimp only [Pt.U, Pt.locs, Pt.cells, Pt.slots] at X2 l2 y2 z2 st2 hQ2
  replace y2 := y2.symm; replace z2 := z2.symm; subst l2 y2 z2
  obtain ⟨rfl, Nq2, e2⟩ := hQ2
  have N2 := Fr.app N0 Nq2
  have K2 : ∀ t, Steps p.tables e below (T2.setTop (mkF m 4 #[.val (.int p1)] [(.int (own_f2_0 p1))])) t → Steps p.tables e below (s₁.setTop (entryFrame m #[(.int p1)] 1)) t := fun t hk => K1 t (st2 _ hk)
  obtain ⟨fs, hr, hrun, hended, hW, hsame⟩ := X2.leave (v := some (.int (nar .boolean (own_f2_0 p1)))) (fun h => by rw [Bd.returns] at h; cases h) Bd.notSynchronized
  exact ⟨_, _, K2 _ (retN X2 hx (t := .boolean) Bd.returns (by simp) (hb hby d1_4) hr), hrun, hended, _, _, rfl, ⟨congrArg (fun z => some (Value.int z)) (own_nar p1), N2, e2⟩, ⟨_, rfl⟩, hW, hsame.mono (by decide) (by decide)⟩
theorem own_idx (x : Int32) : ¬ ((x &&& (2147483647 : Int32)) % (31 : Int32)) < 0 ∧ ((x &&& (2147483647 : Int32)) % (31 : Int32)) < (31 : Int32) := by
  have q := c_and x (2147483647 : Int32) (by decide)
  have r := (c_irem (x &&& (2147483647 : Int32)) (31 : Int32) 31 (by decide)).1 q.1
  rw [Int32.lt_iff_toInt_lt, Int32.lt_iff_toInt_lt, r]
  show ¬ _ < (0 : Int) ∧ _ < (31 : Int)
  omega
theorem own_in (a b m : Int32) (h1 : 0 ≤ a.toInt) (h2 : a.toInt ≤ b.toInt) (h3 : b.toInt < 2000000) (hm : 0 ≤ m.toInt) : (b - a + (1 : Int32)) ≠ 0 ∧ a.toInt ≤ (a + m % (b - a + (1 : Int32))).toInt ∧ (a + m % (b - a + (1 : Int32))).toInt ≤ b.toInt := by
  have e1 : (b - a).toInt = b.toInt - a.toInt := (Int32.toInt_sub b a).trans (Int.bmod_eq_of_le (by omega) (by omega))
  have e0 : (1 : Int32).toInt = 1 := by decide
  have e2 : (b - a + (1 : Int32)).toInt = b.toInt - a.toInt + 1 := by rw [(Int32.toInt_add (b - a) 1).trans (Int.bmod_eq_of_le (by rw [e1, e0]; omega) (by rw [e1, e0]; omega)), e1, e0]
  have e3 := (c_irem m (b - a + (1 : Int32)) _ e2).1 hm
  have q1 := Int.emod_nonneg m.toInt (show b.toInt - a.toInt + 1 ≠ 0 by omega)
  have q2 := Int.emod_lt_of_pos m.toInt (show 0 < b.toInt - a.toInt + 1 by omega)
  have e4 : (a + m % (b - a + (1 : Int32))).toInt = a.toInt + m.toInt % (b.toInt - a.toInt + 1) := by rw [(Int32.toInt_add a _).trans (Int.bmod_eq_of_le (by rw [e3]; omega) (by rw [e3]; omega)), e3]
  refine ⟨fun q => ?_, ?_, ?_⟩
  · rw [q] at e2; have : (0 : Int32).toInt = 0 := by decide
    omega
  · rw [e4]; omega
  · rw [e4]; omega
theorem own_yes (x : Int32) (a b : Int) (h : (a, b) ∈ [(65, 90), (95, 95), (97, 122), (192, 214), (216, 246), (248, 767), (880, 893), (895, 8191), (8204, 8205), (8304, 8591), (11264, 12271), (12289, 55295), (63744, 64975), (65008, 65533), (65536, 983039)]) (h1 : a ≤ x.toInt) (h2 : x.toInt ≤ b) : own_f2_0 x = 1 := by
  rw [own_f2_0_spec]
  simp only [List.mem_cons, List.not_mem_nil, or_false, Prod.mk.injEq] at h
  rw [if_pos (by omega)]
theorem own_no (x : Int32) (a b : Int) (h : (a, b) ∈ [(91, 94), (96, 96), (123, 191), (215, 215), (247, 247), (768, 879), (894, 894), (8192, 8203), (8206, 8303), (8592, 11263), (12272, 12288), (55296, 63743), (64976, 65007), (65534, 65535)]) (h1 : a ≤ x.toInt) (h2 : x.toInt ≤ b) : own_f2_0 x = 0 := by
  rw [own_f2_0_spec]
  simp only [List.mem_cons, List.not_mem_nil, or_false, Prod.mk.injEq] at h
  rw [if_neg (by omega)]
theorem own_clamp (s : Int32) (h0 : ¬ s < 0) (n : Nat) (k : Int32) (hk : k.toInt = n) (h1 : s < k) : s.toNatClampNeg < n ∧ s.toInt = s.toNatClampNeg := by
  rw [Int32.lt_iff_toInt_lt] at h0 h1
  have e0 : (0 : Int32).toInt = 0 := by decide
  simp only [Int32.toNatClampNeg]; omega
theorem own_litI (n : Nat) (h : n < 2000000) : (Int32.ofNat n).toInt = n := Int32.toInt_ofNat_small (by omega)
theorem own_tabA (n : Nat) (h : n < 15) (u w : Int32) (e1 : ([(.int (65 : Int32)), (.int (95 : Int32)), (.int (97 : Int32)), (.int (192 : Int32)), (.int (216 : Int32)), (.int (248 : Int32)), (.int (880 : Int32)), (.int (895 : Int32)), (.int (8204 : Int32)), (.int (8304 : Int32)), (.int (11264 : Int32)), (.int (12289 : Int32)), (.int (63744 : Int32)), (.int (65008 : Int32)), (.int (65536 : Int32))] : List Value).getD n (.int (0 : Int32)) = .int u) (e2 : ([(.int (90 : Int32)), (.int (95 : Int32)), (.int (122 : Int32)), (.int (214 : Int32)), (.int (246 : Int32)), (.int (767 : Int32)), (.int (893 : Int32)), (.int (8191 : Int32)), (.int (8205 : Int32)), (.int (8591 : Int32)), (.int (12271 : Int32)), (.int (55295 : Int32)), (.int (64975 : Int32)), (.int (65533 : Int32)), (.int (983039 : Int32))] : List Value).getD n (.int (0 : Int32)) = .int w) : (u.toInt, w.toInt) ∈ [(65, 90), (95, 95), (97, 122), (192, 214), (216, 246), (248, 767), (880, 893), (895, 8191), (8204, 8205), (8304, 8591), (11264, 12271), (12289, 55295), (63744, 64975), (65008, 65533), (65536, 983039)] ∧ 0 ≤ u.toInt ∧ u.toInt ≤ w.toInt ∧ w.toInt < 2000000 := by
  match n, h with
  | 0, _ => cases e1; cases e2; decide
  | 1, _ => cases e1; cases e2; decide
  | 2, _ => cases e1; cases e2; decide
  | 3, _ => cases e1; cases e2; decide
  | 4, _ => cases e1; cases e2; decide
  | 5, _ => cases e1; cases e2; decide
  | 6, _ => cases e1; cases e2; decide
  | 7, _ => cases e1; cases e2; decide
  | 8, _ => cases e1; cases e2; decide
  | 9, _ => cases e1; cases e2; decide
  | 10, _ => cases e1; cases e2; decide
  | 11, _ => cases e1; cases e2; decide
  | 12, _ => cases e1; cases e2; decide
  | 13, _ => cases e1; cases e2; decide
  | 14, _ => cases e1; cases e2; decide
theorem own_tabB (n : Nat) (h : n < 14) (u w : Int32) (e1 : ([(.int (90 : Int32)), (.int (95 : Int32)), (.int (122 : Int32)), (.int (214 : Int32)), (.int (246 : Int32)), (.int (767 : Int32)), (.int (893 : Int32)), (.int (8191 : Int32)), (.int (8205 : Int32)), (.int (8591 : Int32)), (.int (12271 : Int32)), (.int (55295 : Int32)), (.int (64975 : Int32)), (.int (65533 : Int32)), (.int (983039 : Int32))] : List Value).getD n (.int (0 : Int32)) = .int u) (e2 : ([(.int (65 : Int32)), (.int (95 : Int32)), (.int (97 : Int32)), (.int (192 : Int32)), (.int (216 : Int32)), (.int (248 : Int32)), (.int (880 : Int32)), (.int (895 : Int32)), (.int (8204 : Int32)), (.int (8304 : Int32)), (.int (11264 : Int32)), (.int (12289 : Int32)), (.int (63744 : Int32)), (.int (65008 : Int32)), (.int (65536 : Int32))] : List Value).getD (n + 1) (.int (0 : Int32)) = .int w) : ((u + (1 : Int32)).toInt, (w - (1 : Int32)).toInt) ∈ [(91, 94), (96, 96), (123, 191), (215, 215), (247, 247), (768, 879), (894, 894), (8192, 8203), (8206, 8303), (8592, 11263), (12272, 12288), (55296, 63743), (64976, 65007), (65534, 65535)] ∧ 0 ≤ (u + (1 : Int32)).toInt ∧ (u + (1 : Int32)).toInt ≤ (w - (1 : Int32)).toInt ∧ (w - (1 : Int32)).toInt < 2000000 := by
  match n, h with
  | 0, _ => cases e1; cases e2; decide
  | 1, _ => cases e1; cases e2; decide
  | 2, _ => cases e1; cases e2; decide
  | 3, _ => cases e1; cases e2; decide
  | 4, _ => cases e1; cases e2; decide
  | 5, _ => cases e1; cases e2; decide
  | 6, _ => cases e1; cases e2; decide
  | 7, _ => cases e1; cases e2; decide
  | 8, _ => cases e1; cases e2; decide
  | 9, _ => cases e1; cases e2; decide
  | 10, _ => cases e1; cases e2; decide
  | 11, _ => cases e1; cases e2; decide
  | 12, _ => cases e1; cases e2; decide
  | 13, _ => cases e1; cases e2; decide
set_option maxRecDepth 65536 in
set_option maxHeartbeats 40000000 in
theorem own_tail {p : Program} {l : Launch} {e : Env} {s : State} {m : MethodId} {args : Array Value} {below : List Frame} {meth : Method} {c : Code} {T : State} {locs : List Loc} {cells slots : Nat} {Z : State} {a0 : Array Value} {h0 : Heap} {n0 : Nat} {S0 : State} (X : Stand p l e room_1 s m args below meth c T locs cells slots) (hx : p.tables.exec = Jvm.exec) (hby : c.code = code) (hml : c.maxLocals = 10) (hown : s.vm.findClass "com/example/bertilak/bertilak/util/XmlCharsIsNameStartCharPinLaw" = some m.cls) (hZ : Z.Warmed39 s.vm) (hw : ∀ d ∈ tables_1, d.before a0 Z = true) (hret : meth.sig.returnType = ret) (hlk : meth.locks = false) (p1 : Int32) (p2 : Int32) (bl : Addr) (bh : Addr) (s5 : Int32) (m5 : Int32) (e0 : T.heap = h0) (Z0 : n0 ≤ h0.size) (N0 : Fr n0 locs) (hcb : cells ≤ 16) (hsb : slots ≤ 128) {c1 c2 : ClassId} (V901 : Arv Z h0 bl c1 .int (15 : Int32) [(.int (65 : Int32)), (.int (95 : Int32)), (.int (97 : Int32)), (.int (192 : Int32)), (.int (216 : Int32)), (.int (248 : Int32)), (.int (880 : Int32)), (.int (895 : Int32)), (.int (8204 : Int32)), (.int (8304 : Int32)), (.int (11264 : Int32)), (.int (12289 : Int32)), (.int (63744 : Int32)), (.int (65008 : Int32)), (.int (65536 : Int32))] (.int (0 : Int32))) (V902 : Arv Z h0 bh c2 .int (15 : Int32) [(.int (90 : Int32)), (.int (95 : Int32)), (.int (122 : Int32)), (.int (214 : Int32)), (.int (246 : Int32)), (.int (767 : Int32)), (.int (893 : Int32)), (.int (8191 : Int32)), (.int (8205 : Int32)), (.int (8591 : Int32)), (.int (12271 : Int32)), (.int (55295 : Int32)), (.int (64975 : Int32)), (.int (65533 : Int32)), (.int (983039 : Int32))] (.int (0 : Int32))) (bs : ¬ s5 < 0 ∧ s5 < (31 : Int32)) (bm : 0 ≤ m5.toInt) (K0 : ∀ t, Steps p.tables e below (T.setTop (mkF m 214 #[.val (.int p1), .val (.int p2), .val (.ref bl), .val (.ref bh), .val (.int s5), .val (.int m5), .unset, .unset, .unset, .unset] [(.int (15 : Int32)), (.int s5)])) t → Steps p.tables e below S0 t) :
    ∃ s₂ o, Steps p.tables e below S0 s₂ ∧ s₂.status = .running ∧ Ended s₂ below o ∧ (∃ v L, o = .returned v ∧ (v = some (.int (1 : Int32)) ∧ Fr n0 L) ∧ FrameEnd s o s₂ L 16 128) := by
  by_cases hc214 : s5 < (15 : Int32)
  · have K1 : ∀ t, Steps p.tables e below (T.setTop (mkF m 217 #[.val (.int p1), .val (.int p2), .val (.ref bl), .val (.ref bh), .val (.int s5), .val (.int m5), .unset, .unset, .unset, .unset] [])) t → Steps p.tables e below S0 t := by
      intro t hk
      refine K0 t ?_
      show Steps p.tables e below (T.setTop (mkF m 214 #[.val (.int p1), .val (.int p2), .val (.ref bl), .val (.ref bh), .val (.int s5), .val (.int m5), .unset, .unset, .unset, .unset] [(.int (15 : Int32)), (.int s5)])) _
      refine XS.icmpNo X.here hx rfl (hb hby at_214) rfl (tlt hc214).2.1 ?_
      exact hk
    obtain ⟨bA, cA⟩ := own_clamp s5 bs.1 15 (15 : Int32) (by decide) hc214
    have bb : ¬ s5 < 0 ∧ s5 < (15 : Int32) := ⟨bs.1, hc214⟩
    have K2 : ∀ t, Steps p.tables e below (T.setTop (mkF m 220 #[.val (.int p1), .val (.int p2), .val (.ref bl), .val (.ref bh), .val (.int s5), .val (.int m5), .unset, .unset, .unset, .unset] [(.int s5), (.ref bl)])) t → Steps p.tables e below S0 t := by
      intro t hk
      refine K1 t ?_
      show Steps p.tables e below (T.setTop (mkF m 217 #[.val (.int p1), .val (.int p2), .val (.ref bl), .val (.ref bh), .val (.int s5), .val (.int m5), .unset, .unset, .unset, .unset] [])) _
      refine XS.aloadN X.here hx rfl (hb hby at_217) rfl rfl ?_
      show Steps p.tables e below (T.setTop (mkF m 218 #[.val (.int p1), .val (.int p2), .val (.ref bl), .val (.ref bh), .val (.int s5), .val (.int m5), .unset, .unset, .unset, .unset] [(.ref bl)])) _
      refine XS.iload X.here hx rfl (hb hby at_218) rfl ?_
      show Steps p.tables e below (T.setTop (mkF m 220 #[.val (.int p1), .val (.int p2), .val (.ref bl), .val (.ref bh), .val (.int s5), .val (.int m5), .unset, .unset, .unset, .unset] [(.int s5), (.ref bl)])) _
      exact hk
    obtain ⟨u1, hv_u1, st3⟩ := own_ldI X hx hZ e0 V901 (j := s5) bb (g := (mkF m 220 #[.val (.int p1), .val (.int p2), .val (.ref bl), .val (.ref bh), .val (.int s5), .val (.int m5), .unset, .unset, .unset, .unset] [(.int s5), (.ref bl)])) rfl rfl (hb hby at_220)
    have K3 : ∀ t, Steps p.tables e below (T.setTop (mkF m 221 #[.val (.int p1), .val (.int p2), .val (.ref bl), .val (.ref bh), .val (.int s5), .val (.int m5), .unset, .unset, .unset, .unset] [(.int u1)])) t → Steps p.tables e below S0 t := fun t hk => K2 t (st3 _ hk)
    have K4 : ∀ t, Steps p.tables e below (T.setTop (mkF m 226 #[.val (.int p1), .val (.int p2), .val (.ref bl), .val (.ref bh), .val (.int s5), .val (.int m5), .unset, .unset, .unset, .unset] [(.int s5), (.ref bh), (.int m5), (.int u1)])) t → Steps p.tables e below S0 t := by
      intro t hk
      refine K3 t ?_
      show Steps p.tables e below (T.setTop (mkF m 221 #[.val (.int p1), .val (.int p2), .val (.ref bl), .val (.ref bh), .val (.int s5), .val (.int m5), .unset, .unset, .unset, .unset] [(.int u1)])) _
      refine XS.iload X.here hx rfl (hb hby at_221) rfl ?_
      show Steps p.tables e below (T.setTop (mkF m 223 #[.val (.int p1), .val (.int p2), .val (.ref bl), .val (.ref bh), .val (.int s5), .val (.int m5), .unset, .unset, .unset, .unset] [(.int m5), (.int u1)])) _
      refine XS.aloadN X.here hx rfl (hb hby at_223) rfl rfl ?_
      show Steps p.tables e below (T.setTop (mkF m 224 #[.val (.int p1), .val (.int p2), .val (.ref bl), .val (.ref bh), .val (.int s5), .val (.int m5), .unset, .unset, .unset, .unset] [(.ref bh), (.int m5), (.int u1)])) _
      refine XS.iload X.here hx rfl (hb hby at_224) rfl ?_
      show Steps p.tables e below (T.setTop (mkF m 226 #[.val (.int p1), .val (.int p2), .val (.ref bl), .val (.ref bh), .val (.int s5), .val (.int m5), .unset, .unset, .unset, .unset] [(.int s5), (.ref bh), (.int m5), (.int u1)])) _
      exact hk
    obtain ⟨u2, hv_u2, st5⟩ := own_ldI X hx hZ e0 V902 (j := s5) bb (g := (mkF m 226 #[.val (.int p1), .val (.int p2), .val (.ref bl), .val (.ref bh), .val (.int s5), .val (.int m5), .unset, .unset, .unset, .unset] [(.int s5), (.ref bh), (.int m5), (.int u1)])) rfl rfl (hb hby at_226)
    have K5 : ∀ t, Steps p.tables e below (T.setTop (mkF m 227 #[.val (.int p1), .val (.int p2), .val (.ref bl), .val (.ref bh), .val (.int s5), .val (.int m5), .unset, .unset, .unset, .unset] [(.int u2), (.int m5), (.int u1)])) t → Steps p.tables e below S0 t := fun t hk => K4 t (st5 _ hk)
    have K6 : ∀ t, Steps p.tables e below (T.setTop (mkF m 230 #[.val (.int p1), .val (.int p2), .val (.ref bl), .val (.ref bh), .val (.int s5), .val (.int m5), .unset, .unset, .unset, .unset] [(.int s5), (.ref bl), (.int u2), (.int m5), (.int u1)])) t → Steps p.tables e below S0 t := by
      intro t hk
      refine K5 t ?_
      show Steps p.tables e below (T.setTop (mkF m 227 #[.val (.int p1), .val (.int p2), .val (.ref bl), .val (.ref bh), .val (.int s5), .val (.int m5), .unset, .unset, .unset, .unset] [(.int u2), (.int m5), (.int u1)])) _
      refine XS.aloadN X.here hx rfl (hb hby at_227) rfl rfl ?_
      show Steps p.tables e below (T.setTop (mkF m 228 #[.val (.int p1), .val (.int p2), .val (.ref bl), .val (.ref bh), .val (.int s5), .val (.int m5), .unset, .unset, .unset, .unset] [(.ref bl), (.int u2), (.int m5), (.int u1)])) _
      refine XS.iload X.here hx rfl (hb hby at_228) rfl ?_
      show Steps p.tables e below (T.setTop (mkF m 230 #[.val (.int p1), .val (.int p2), .val (.ref bl), .val (.ref bh), .val (.int s5), .val (.int m5), .unset, .unset, .unset, .unset] [(.int s5), (.ref bl), (.int u2), (.int m5), (.int u1)])) _
      exact hk
    obtain ⟨u3, hv_u3, st7⟩ := own_ldI X hx hZ e0 V901 (j := s5) bb (g := (mkF m 230 #[.val (.int p1), .val (.int p2), .val (.ref bl), .val (.ref bh), .val (.int s5), .val (.int m5), .unset, .unset, .unset, .unset] [(.int s5), (.ref bl), (.int u2), (.int m5), (.int u1)])) rfl rfl (hb hby at_230)
    rw [show u3 = u1 from Value.int.inj (hv_u3.symm.trans hv_u1)] at st7
    have K7 : ∀ t, Steps p.tables e below (T.setTop (mkF m 231 #[.val (.int p1), .val (.int p2), .val (.ref bl), .val (.ref bh), .val (.int s5), .val (.int m5), .unset, .unset, .unset, .unset] [(.int u1), (.int u2), (.int m5), (.int u1)])) t → Steps p.tables e below S0 t := fun t hk => K6 t (st7 _ hk)
    obtain ⟨tA, tA1, tA2, tA3⟩ := own_tabA _ bA u1 u2 hv_u1 hv_u2
    obtain ⟨hnz234, iA1, iA2⟩ := own_in u1 u2 m5 tA1 tA2 tA3 bm
    have K8 : ∀ t, Steps p.tables e below (T.setTop (mkF m 240 #[.val (.int p1), .val (.int p2), .val (.ref bl), .val (.ref bh), .val (.int s5), .val (.int m5), .val (.int (u1 + (m5 % ((u2 - u1) + (1 : Int32))))), .unset, .unset, .unset] [(.int (u1 + (m5 % ((u2 - u1) + (1 : Int32)))))])) t → Steps p.tables e below S0 t := by
      intro t hk
      refine K7 t ?_
      show Steps p.tables e below (T.setTop (mkF m 231 #[.val (.int p1), .val (.int p2), .val (.ref bl), .val (.ref bh), .val (.int s5), .val (.int m5), .unset, .unset, .unset, .unset] [(.int u1), (.int u2), (.int m5), (.int u1)])) _
      refine XS.isub X.here hx rfl (hb hby at_231) rfl ?_
      show Steps p.tables e below (T.setTop (mkF m 232 #[.val (.int p1), .val (.int p2), .val (.ref bl), .val (.ref bh), .val (.int s5), .val (.int m5), .unset, .unset, .unset, .unset] [(.int (u2 - u1)), (.int m5), (.int u1)])) _
      refine XS.iconst X.here hx rfl (hb hby at_232) ?_
      show Steps p.tables e below (T.setTop (mkF m 233 #[.val (.int p1), .val (.int p2), .val (.ref bl), .val (.ref bh), .val (.int s5), .val (.int m5), .unset, .unset, .unset, .unset] [(.int (1 : Int32)), (.int (u2 - u1)), (.int m5), (.int u1)])) _
      refine XS.iadd X.here hx rfl (hb hby at_233) rfl ?_
      show Steps p.tables e below (T.setTop (mkF m 234 #[.val (.int p1), .val (.int p2), .val (.ref bl), .val (.ref bh), .val (.int s5), .val (.int m5), .unset, .unset, .unset, .unset] [(.int ((u2 - u1) + (1 : Int32))), (.int m5), (.int u1)])) _
      refine XS.irem X.here hx rfl (hb hby at_234) rfl hnz234 ?_
      rw [Jvm.irem_eq_mod m5 ((u2 - u1) + (1 : Int32))]
      show Steps p.tables e below (T.setTop (mkF m 235 #[.val (.int p1), .val (.int p2), .val (.ref bl), .val (.ref bh), .val (.int s5), .val (.int m5), .unset, .unset, .unset, .unset] [(.int (m5 % ((u2 - u1) + (1 : Int32)))), (.int u1)])) _
      refine XS.iadd X.here hx rfl (hb hby at_235) rfl ?_
      show Steps p.tables e below (T.setTop (mkF m 236 #[.val (.int p1), .val (.int p2), .val (.ref bl), .val (.ref bh), .val (.int s5), .val (.int m5), .unset, .unset, .unset, .unset] [(.int (u1 + (m5 % ((u2 - u1) + (1 : Int32)))))])) _
      refine XS.istore X.here hx rfl (hb hby at_236) rfl (l' := #[.val (.int p1), .val (.int p2), .val (.ref bl), .val (.ref bh), .val (.int s5), .val (.int m5), .val (.int (u1 + (m5 % ((u2 - u1) + (1 : Int32))))), .unset, .unset, .unset]) rfl ?_
      show Steps p.tables e below (T.setTop (mkF m 238 #[.val (.int p1), .val (.int p2), .val (.ref bl), .val (.ref bh), .val (.int s5), .val (.int m5), .val (.int (u1 + (m5 % ((u2 - u1) + (1 : Int32))))), .unset, .unset, .unset] [])) _
      refine XS.iload X.here hx rfl (hb hby at_238) rfl ?_
      show Steps p.tables e below (T.setTop (mkF m 240 #[.val (.int p1), .val (.int p2), .val (.ref bl), .val (.ref bh), .val (.int s5), .val (.int m5), .val (.int (u1 + (m5 % ((u2 - u1) + (1 : Int32))))), .unset, .unset, .unset] [(.int (u1 + (m5 % ((u2 - u1) + (1 : Int32)))))])) _
      exact hk
    obtain ⟨_, _, ⟨T9, L9, k9, n9⟩, -, X9, ⟨Lc9, hQ9, l9, y9, z9⟩, st9⟩ := Jvm.LawKit.callS X hx (y := (⟨"com/example/bertilak/bertilak/util/XmlCharsIsNameStartCharPinLaw", "f", "(I)Z"⟩ : MethodName)) hown (mvT hZ (hw _ (List.mem_of_getElem? (i := 9) rfl))) (mvT hZ (hw _ (List.mem_of_getElem? (i := 10) rfl))) (mvT hZ (hw _ (List.mem_of_getElem? (i := 11) rfl))) (mvT hZ (hw _ (List.mem_of_getElem? (i := 12) rfl))) (by decide) (backOf (W := 0) (rm1 l Z a0 hw [] (u1 + (m5 % ((u2 - u1) + (1 : Int32))))  h0 n0 Z0 ) hZ (hw _ (List.mem_of_getElem? (i := 12) rfl)) (hw _ (List.mem_of_getElem? (i := 11) rfl)) (by decide) (by decide)) (g := (mkF m 240 #[.val (.int p1), .val (.int p2), .val (.ref bl), .val (.ref bh), .val (.int s5), .val (.int m5), .val (.int (u1 + (m5 % ((u2 - u1) + (1 : Int32))))), .unset, .unset, .unset] [(.int (u1 + (m5 % ((u2 - u1) + (1 : Int32)))))])) rfl (by rw [hml]; rfl) (argsL := [(.int (u1 + (m5 % ((u2 - u1) + (1 : Int32)))))]) (rest := []) (lenOf (by decide +kernel : parseMethodDescriptor "(I)Z" = some ⟨[.int], (some .boolean)⟩) rfl) rfl (by show 2 * 0 + _ ≤ _; exact Nat.le_of_eq rfl) (hb hby at_240) (fun _ _ => ⟨rfl, e0, (by show cells + 0 ≤ 16; omega), (by show slots + 0 ≤ 128; omega)⟩)
    dsimp only [Pt.U, Pt.locs, Pt.cells, Pt.slots] at X9 l9 y9 z9 st9 hQ9
    replace y9 := y9.symm; replace z9 := z9.symm; subst l9 y9 z9
    obtain ⟨rfl, Nq9, e9⟩ := hQ9
    have N9 := Fr.app N0 Nq9
    have K9 : ∀ t, Steps p.tables e below (T9.setTop (mkF m 243 #[.val (.int p1), .val (.int p2), .val (.ref bl), .val (.ref bh), .val (.int s5), .val (.int m5), .val (.int (u1 + (m5 % ((u2 - u1) + (1 : Int32))))), .unset, .unset, .unset] [(.int (own_f2_0 (u1 + (m5 % ((u2 - u1) + (1 : Int32))))))])) t → Steps p.tables e below S0 t := fun t hk => K8 t (st9 _ hk)
    have hc243 : ¬ ((own_f2_0 (u1 + (m5 % ((u2 - u1) + (1 : Int32))))) = (0 : Int32)) := (fun q => by rw [own_yes _ _ _ tA iA1 iA2] at q; exact absurd q (by decide))
    have K10 : ∀ t, Steps p.tables e below (T9.setTop (mkF m 246 #[.val (.int p1), .val (.int p2), .val (.ref bl), .val (.ref bh), .val (.int s5), .val (.int m5), .val (.int (u1 + (m5 % ((u2 - u1) + (1 : Int32))))), .unset, .unset, .unset] [])) t → Steps p.tables e below S0 t := by
      intro t hk
      refine K9 t ?_
      show Steps p.tables e below (T9.setTop (mkF m 243 #[.val (.int p1), .val (.int p2), .val (.ref bl), .val (.ref bh), .val (.int s5), .val (.int m5), .val (.int (u1 + (m5 % ((u2 - u1) + (1 : Int32))))), .unset, .unset, .unset] [(.int (own_f2_0 (u1 + (m5 % ((u2 - u1) + (1 : Int32))))))])) _
      refine XS.ifNo X9.here hx rfl (hb hby at_243) rfl ((if0 _ _).trans (feq hc243).1) ?_
      exact hk
    have K11 : ∀ t, Steps p.tables e below (T9.setTop (mkF m 249 #[.val (.int p1), .val (.int p2), .val (.ref bl), .val (.ref bh), .val (.int s5), .val (.int m5), .val (.int (u1 + (m5 % ((u2 - u1) + (1 : Int32))))), .unset, .unset, .unset] [(.int s5), (.ref bl)])) t → Steps p.tables e below S0 t := by
      intro t hk
      refine K10 t ?_
      show Steps p.tables e below (T9.setTop (mkF m 246 #[.val (.int p1), .val (.int p2), .val (.ref bl), .val (.ref bh), .val (.int s5), .val (.int m5), .val (.int (u1 + (m5 % ((u2 - u1) + (1 : Int32))))), .unset, .unset, .unset] [])) _
      refine XS.aloadN X9.here hx rfl (hb hby at_246) rfl rfl ?_
      show Steps p.tables e below (T9.setTop (mkF m 247 #[.val (.int p1), .val (.int p2), .val (.ref bl), .val (.ref bh), .val (.int s5), .val (.int m5), .val (.int (u1 + (m5 % ((u2 - u1) + (1 : Int32))))), .unset, .unset, .unset] [(.ref bl)])) _
      refine XS.iload X9.here hx rfl (hb hby at_247) rfl ?_
      show Steps p.tables e below (T9.setTop (mkF m 249 #[.val (.int p1), .val (.int p2), .val (.ref bl), .val (.ref bh), .val (.int s5), .val (.int m5), .val (.int (u1 + (m5 % ((u2 - u1) + (1 : Int32))))), .unset, .unset, .unset] [(.int s5), (.ref bl)])) _
      exact hk
    obtain ⟨u4, hv_u4, st12⟩ := own_ldI X9 hx hZ e9 V901 (j := s5) bb (g := (mkF m 249 #[.val (.int p1), .val (.int p2), .val (.ref bl), .val (.ref bh), .val (.int s5), .val (.int m5), .val (.int (u1 + (m5 % ((u2 - u1) + (1 : Int32))))), .unset, .unset, .unset] [(.int s5), (.ref bl)])) rfl rfl (hb hby at_249)
    rw [show u4 = u1 from Value.int.inj (hv_u4.symm.trans hv_u1)] at st12
    have K12 : ∀ t, Steps p.tables e below (T9.setTop (mkF m 250 #[.val (.int p1), .val (.int p2), .val (.ref bl), .val (.ref bh), .val (.int s5), .val (.int m5), .val (.int (u1 + (m5 % ((u2 - u1) + (1 : Int32))))), .unset, .unset, .unset] [(.int u1)])) t → Steps p.tables e below S0 t := fun t hk => K11 t (st12 _ hk)
    obtain ⟨_, _, ⟨T13, L13, k13, n13⟩, -, X13, ⟨Lc13, hQ13, l13, y13, z13⟩, st13⟩ := Jvm.LawKit.callS X9 hx (y := (⟨"com/example/bertilak/bertilak/util/XmlCharsIsNameStartCharPinLaw", "f", "(I)Z"⟩ : MethodName)) hown (mvT hZ (hw _ (List.mem_of_getElem? (i := 9) rfl))) (mvT hZ (hw _ (List.mem_of_getElem? (i := 10) rfl))) (mvT hZ (hw _ (List.mem_of_getElem? (i := 11) rfl))) (mvT hZ (hw _ (List.mem_of_getElem? (i := 12) rfl))) (by decide) (backOf (W := 0) (rm1 l Z a0 hw [] u1  h0 n0 Z0 ) hZ (hw _ (List.mem_of_getElem? (i := 12) rfl)) (hw _ (List.mem_of_getElem? (i := 11) rfl)) (by decide) (by decide)) (g := (mkF m 250 #[.val (.int p1), .val (.int p2), .val (.ref bl), .val (.ref bh), .val (.int s5), .val (.int m5), .val (.int (u1 + (m5 % ((u2 - u1) + (1 : Int32))))), .unset, .unset, .unset] [(.int u1)])) rfl (by rw [hml]; rfl) (argsL := [(.int u1)]) (rest := []) (lenOf (by decide +kernel : parseMethodDescriptor "(I)Z" = some ⟨[.int], (some .boolean)⟩) rfl) rfl (by show 2 * 0 + _ ≤ _; exact Nat.le_of_eq rfl) (hb hby at_250) (fun _ _ => ⟨rfl, e9, (by show cells + 0 + 0 ≤ 16; omega), (by show slots + 0 + 0 ≤ 128; omega)⟩)
    dsimp only [Pt.U, Pt.locs, Pt.cells, Pt.slots] at X13 l13 y13 z13 st13 hQ13
    replace y13 := y13.symm; replace z13 := z13.symm; subst l13 y13 z13
    obtain ⟨rfl, Nq13, e13⟩ := hQ13
    have N13 := Fr.app N9 Nq13
    have K13 : ∀ t, Steps p.tables e below (T13.setTop (mkF m 253 #[.val (.int p1), .val (.int p2), .val (.ref bl), .val (.ref bh), .val (.int s5), .val (.int m5), .val (.int (u1 + (m5 % ((u2 - u1) + (1 : Int32))))), .unset, .unset, .unset] [(.int (own_f2_0 u1))])) t → Steps p.tables e below S0 t := fun t hk => K12 t (st13 _ hk)
    have hc253 : ¬ ((own_f2_0 u1) = (0 : Int32)) := (fun q => by rw [own_yes _ _ _ tA (Int.le_refl _) tA2] at q; exact absurd q (by decide))
    have K14 : ∀ t, Steps p.tables e below (T13.setTop (mkF m 256 #[.val (.int p1), .val (.int p2), .val (.ref bl), .val (.ref bh), .val (.int s5), .val (.int m5), .val (.int (u1 + (m5 % ((u2 - u1) + (1 : Int32))))), .unset, .unset, .unset] [])) t → Steps p.tables e below S0 t := by
      intro t hk
      refine K13 t ?_
      show Steps p.tables e below (T13.setTop (mkF m 253 #[.val (.int p1), .val (.int p2), .val (.ref bl), .val (.ref bh), .val (.int s5), .val (.int m5), .val (.int (u1 + (m5 % ((u2 - u1) + (1 : Int32))))), .unset, .unset, .unset] [(.int (own_f2_0 u1))])) _
      refine XS.ifNo X13.here hx rfl (hb hby at_253) rfl ((if0 _ _).trans (feq hc253).1) ?_
      exact hk
    have K15 : ∀ t, Steps p.tables e below (T13.setTop (mkF m 259 #[.val (.int p1), .val (.int p2), .val (.ref bl), .val (.ref bh), .val (.int s5), .val (.int m5), .val (.int (u1 + (m5 % ((u2 - u1) + (1 : Int32))))), .unset, .unset, .unset] [(.int s5), (.ref bh)])) t → Steps p.tables e below S0 t := by
      intro t hk
      refine K14 t ?_
      show Steps p.tables e below (T13.setTop (mkF m 256 #[.val (.int p1), .val (.int p2), .val (.ref bl), .val (.ref bh), .val (.int s5), .val (.int m5), .val (.int (u1 + (m5 % ((u2 - u1) + (1 : Int32))))), .unset, .unset, .unset] [])) _
      refine XS.aloadN X13.here hx rfl (hb hby at_256) rfl rfl ?_
      show Steps p.tables e below (T13.setTop (mkF m 257 #[.val (.int p1), .val (.int p2), .val (.ref bl), .val (.ref bh), .val (.int s5), .val (.int m5), .val (.int (u1 + (m5 % ((u2 - u1) + (1 : Int32))))), .unset, .unset, .unset] [(.ref bh)])) _
      refine XS.iload X13.here hx rfl (hb hby at_257) rfl ?_
      show Steps p.tables e below (T13.setTop (mkF m 259 #[.val (.int p1), .val (.int p2), .val (.ref bl), .val (.ref bh), .val (.int s5), .val (.int m5), .val (.int (u1 + (m5 % ((u2 - u1) + (1 : Int32))))), .unset, .unset, .unset] [(.int s5), (.ref bh)])) _
      exact hk
    obtain ⟨u5, hv_u5, st16⟩ := own_ldI X13 hx hZ e13 V902 (j := s5) bb (g := (mkF m 259 #[.val (.int p1), .val (.int p2), .val (.ref bl), .val (.ref bh), .val (.int s5), .val (.int m5), .val (.int (u1 + (m5 % ((u2 - u1) + (1 : Int32))))), .unset, .unset, .unset] [(.int s5), (.ref bh)])) rfl rfl (hb hby at_259)
    rw [show u5 = u2 from Value.int.inj (hv_u5.symm.trans hv_u2)] at st16
    have K16 : ∀ t, Steps p.tables e below (T13.setTop (mkF m 260 #[.val (.int p1), .val (.int p2), .val (.ref bl), .val (.ref bh), .val (.int s5), .val (.int m5), .val (.int (u1 + (m5 % ((u2 - u1) + (1 : Int32))))), .unset, .unset, .unset] [(.int u2)])) t → Steps p.tables e below S0 t := fun t hk => K15 t (st16 _ hk)
    obtain ⟨_, _, ⟨T17, L17, k17, n17⟩, -, X17, ⟨Lc17, hQ17, l17, y17, z17⟩, st17⟩ := Jvm.LawKit.callS X13 hx (y := (⟨"com/example/bertilak/bertilak/util/XmlCharsIsNameStartCharPinLaw", "f", "(I)Z"⟩ : MethodName)) hown (mvT hZ (hw _ (List.mem_of_getElem? (i := 9) rfl))) (mvT hZ (hw _ (List.mem_of_getElem? (i := 10) rfl))) (mvT hZ (hw _ (List.mem_of_getElem? (i := 11) rfl))) (mvT hZ (hw _ (List.mem_of_getElem? (i := 12) rfl))) (by decide) (backOf (W := 0) (rm1 l Z a0 hw [] u2  h0 n0 Z0 ) hZ (hw _ (List.mem_of_getElem? (i := 12) rfl)) (hw _ (List.mem_of_getElem? (i := 11) rfl)) (by decide) (by decide)) (g := (mkF m 260 #[.val (.int p1), .val (.int p2), .val (.ref bl), .val (.ref bh), .val (.int s5), .val (.int m5), .val (.int (u1 + (m5 % ((u2 - u1) + (1 : Int32))))), .unset, .unset, .unset] [(.int u2)])) rfl (by rw [hml]; rfl) (argsL := [(.int u2)]) (rest := []) (lenOf (by decide +kernel : parseMethodDescriptor "(I)Z" = some ⟨[.int], (some .boolean)⟩) rfl) rfl (by show 2 * 0 + _ ≤ _; exact Nat.le_of_eq rfl) (hb hby at_260) (fun _ _ => ⟨rfl, e13, (by show cells + 0 + 0 + 0 ≤ 16; omega), (by show slots + 0 + 0 + 0 ≤ 128; omega)⟩)
    dsimp only [Pt.U, Pt.locs, Pt.cells, Pt.slots] at X17 l17 y17 z17 st17 hQ17
    replace y17 := y17.symm; replace z17 := z17.symm; subst l17 y17 z17
    obtain ⟨rfl, Nq17, e17⟩ := hQ17
    have N17 := Fr.app N13 Nq17
    have K17 : ∀ t, Steps p.tables e below (T17.setTop (mkF m 263 #[.val (.int p1), .val (.int p2), .val (.ref bl), .val (.ref bh), .val (.int s5), .val (.int m5), .val (.int (u1 + (m5 % ((u2 - u1) + (1 : Int32))))), .unset, .unset, .unset] [(.int (own_f2_0 u2))])) t → Steps p.tables e below S0 t := fun t hk => K16 t (st17 _ hk)
    have hc263 : ¬ ((own_f2_0 u2) = (0 : Int32)) := (fun q => by rw [own_yes _ _ _ tA tA2 (Int.le_refl _)] at q; exact absurd q (by decide))
    have K18 : ∀ t, Steps p.tables e below (T17.setTop (mkF m 266 #[.val (.int p1), .val (.int p2), .val (.ref bl), .val (.ref bh), .val (.int s5), .val (.int m5), .val (.int (u1 + (m5 % ((u2 - u1) + (1 : Int32))))), .unset, .unset, .unset] [])) t → Steps p.tables e below S0 t := by
      intro t hk
      refine K17 t ?_
      show Steps p.tables e below (T17.setTop (mkF m 263 #[.val (.int p1), .val (.int p2), .val (.ref bl), .val (.ref bh), .val (.int s5), .val (.int m5), .val (.int (u1 + (m5 % ((u2 - u1) + (1 : Int32))))), .unset, .unset, .unset] [(.int (own_f2_0 u2))])) _
      refine XS.ifNo X17.here hx rfl (hb hby at_263) rfl ((if0 _ _).trans (feq hc263).1) ?_
      exact hk
    have K19 : ∀ t, Steps p.tables e below (T17.setTop (mkF m 271 #[.val (.int p1), .val (.int p2), .val (.ref bl), .val (.ref bh), .val (.int s5), .val (.int m5), .val (.int (u1 + (m5 % ((u2 - u1) + (1 : Int32))))), .unset, .unset, .unset] [(.int (1 : Int32))])) t → Steps p.tables e below S0 t := by
      intro t hk
      refine K18 t ?_
      show Steps p.tables e below (T17.setTop (mkF m 266 #[.val (.int p1), .val (.int p2), .val (.ref bl), .val (.ref bh), .val (.int s5), .val (.int m5), .val (.int (u1 + (m5 % ((u2 - u1) + (1 : Int32))))), .unset, .unset, .unset] [])) _
      refine XS.iconst X17.here hx rfl (hb hby at_266) ?_
      show Steps p.tables e below (T17.setTop (mkF m 267 #[.val (.int p1), .val (.int p2), .val (.ref bl), .val (.ref bh), .val (.int s5), .val (.int m5), .val (.int (u1 + (m5 % ((u2 - u1) + (1 : Int32))))), .unset, .unset, .unset] [(.int (1 : Int32))])) _
      refine XS.goto X17.here hx rfl (pc0 := 267) (pc' := 271) rfl (hb hby at_267) (by decide) (by decide) ?_
      show Steps p.tables e below (T17.setTop (mkF m 271 #[.val (.int p1), .val (.int p2), .val (.ref bl), .val (.ref bh), .val (.int s5), .val (.int m5), .val (.int (u1 + (m5 % ((u2 - u1) + (1 : Int32))))), .unset, .unset, .unset] [(.int (1 : Int32))])) _
      exact hk
    obtain ⟨fs, hr, hrun, hended, hW, hsame⟩ := X17.leave (v := some (.int (1 : Int32))) (fun h => by rw [(hret.trans (rfl : ret = some .boolean))] at h; cases h) hlk
    exact ⟨_, _, K19 _ (retN X17 hx (t := .boolean) (hret.trans (rfl : ret = some .boolean)) (by simp) (hb hby at_271) hr), hrun, hended, _, _, rfl, ⟨rfl, N17⟩, ⟨_, rfl⟩, hW, hsame.mono hcb hsb⟩
  · have K20 : ∀ t, Steps p.tables e below (T.setTop (mkF m 272 #[.val (.int p1), .val (.int p2), .val (.ref bl), .val (.ref bh), .val (.int s5), .val (.int m5), .unset, .unset, .unset, .unset] [])) t → Steps p.tables e below S0 t := by
      intro t hk
      refine K0 t ?_
      show Steps p.tables e below (T.setTop (mkF m 214 #[.val (.int p1), .val (.int p2), .val (.ref bl), .val (.ref bh), .val (.int s5), .val (.int m5), .unset, .unset, .unset, .unset] [(.int (15 : Int32)), (.int s5)])) _
      refine XS.icmpYes X.here hx rfl (pc0 := 214) (pc' := 272) rfl (hb hby at_214) rfl (flt hc214).2.1 (by decide) (by decide) ?_
      exact hk
    have K21 : ∀ t, Steps p.tables e below (T.setTop (mkF m 276 #[.val (.int p1), .val (.int p2), .val (.ref bl), .val (.ref bh), .val (.int s5), .val (.int m5), .unset, .unset, .unset, .unset] [(.int (29 : Int32)), (.int s5)])) t → Steps p.tables e below S0 t := by
      intro t hk
      refine K20 t ?_
      show Steps p.tables e below (T.setTop (mkF m 272 #[.val (.int p1), .val (.int p2), .val (.ref bl), .val (.ref bh), .val (.int s5), .val (.int m5), .unset, .unset, .unset, .unset] [])) _
      refine XS.iload X.here hx rfl (hb hby at_272) rfl ?_
      show Steps p.tables e below (T.setTop (mkF m 274 #[.val (.int p1), .val (.int p2), .val (.ref bl), .val (.ref bh), .val (.int s5), .val (.int m5), .unset, .unset, .unset, .unset] [(.int s5)])) _
      refine XS.bipush X.here hx rfl (hb hby at_274) ?_
      show Steps p.tables e below (T.setTop (mkF m 276 #[.val (.int p1), .val (.int p2), .val (.ref bl), .val (.ref bh), .val (.int s5), .val (.int m5), .unset, .unset, .unset, .unset] [(.int (29 : Int32)), (.int s5)])) _
      exact hk
    by_cases hc276 : s5 < (29 : Int32)
    · have K22 : ∀ t, Steps p.tables e below (T.setTop (mkF m 279 #[.val (.int p1), .val (.int p2), .val (.ref bl), .val (.ref bh), .val (.int s5), .val (.int m5), .unset, .unset, .unset, .unset] [])) t → Steps p.tables e below S0 t := by
        intro t hk
        refine K21 t ?_
        show Steps p.tables e below (T.setTop (mkF m 276 #[.val (.int p1), .val (.int p2), .val (.ref bl), .val (.ref bh), .val (.int s5), .val (.int m5), .unset, .unset, .unset, .unset] [(.int (29 : Int32)), (.int s5)])) _
        refine XS.icmpNo X.here hx rfl (hb hby at_276) rfl (tlt hc276).2.1 ?_
        exact hk
      have b15 : (s5 - (15 : Int32)).toInt = s5.toInt - 15 := by
        have e15 : (15 : Int32).toInt = 15 := by decide
        rw [Int32.lt_iff_toInt_lt] at hc214 hc276
        have e29 : (29 : Int32).toInt = 29 := by decide
        rw [(Int32.toInt_sub s5 15).trans (Int.bmod_eq_of_le (by omega) (by omega)), e15]
      have bI : ¬ (s5 - (15 : Int32)) < 0 ∧ (s5 - (15 : Int32)) < (14 : Int32) := by
        have e15 : (15 : Int32).toInt = 15 := by decide
        have e29 : (29 : Int32).toInt = 29 := by decide
        have e14 : (14 : Int32).toInt = 14 := by decide
        have e0 : (0 : Int32).toInt = 0 := by decide
        rw [Int32.lt_iff_toInt_lt] at hc214 hc276
        rw [Int32.lt_iff_toInt_lt, Int32.lt_iff_toInt_lt, b15]
        omega
      have K23 : ∀ t, Steps p.tables e below (T.setTop (mkF m 284 #[.val (.int p1), .val (.int p2), .val (.ref bl), .val (.ref bh), .val (.int s5), .val (.int m5), .unset, .unset, .unset, .unset] [(.int (s5 - (15 : Int32)))])) t → Steps p.tables e below S0 t := by
        intro t hk
        refine K22 t ?_
        show Steps p.tables e below (T.setTop (mkF m 279 #[.val (.int p1), .val (.int p2), .val (.ref bl), .val (.ref bh), .val (.int s5), .val (.int m5), .unset, .unset, .unset, .unset] [])) _
        refine XS.iload X.here hx rfl (hb hby at_279) rfl ?_
        show Steps p.tables e below (T.setTop (mkF m 281 #[.val (.int p1), .val (.int p2), .val (.ref bl), .val (.ref bh), .val (.int s5), .val (.int m5), .unset, .unset, .unset, .unset] [(.int s5)])) _
        refine XS.bipush X.here hx rfl (hb hby at_281) ?_
        show Steps p.tables e below (T.setTop (mkF m 283 #[.val (.int p1), .val (.int p2), .val (.ref bl), .val (.ref bh), .val (.int s5), .val (.int m5), .unset, .unset, .unset, .unset] [(.int (15 : Int32)), (.int s5)])) _
        refine XS.isub X.here hx rfl (hb hby at_283) rfl ?_
        show Steps p.tables e below (T.setTop (mkF m 284 #[.val (.int p1), .val (.int p2), .val (.ref bl), .val (.ref bh), .val (.int s5), .val (.int m5), .unset, .unset, .unset, .unset] [(.int (s5 - (15 : Int32)))])) _
        exact hk
      obtain ⟨i6, hi6⟩ : ∃ z, z = (s5 - (15 : Int32)) := ⟨_, rfl⟩
      have K24 : ∀ t, Steps p.tables e below (T.setTop (mkF m 284 #[.val (.int p1), .val (.int p2), .val (.ref bl), .val (.ref bh), .val (.int s5), .val (.int m5), .unset, .unset, .unset, .unset] [(.int i6)])) t → Steps p.tables e below S0 t := by rw [hi6]; exact K23
      rw [← hi6] at bI
      obtain ⟨bB, cB⟩ := own_clamp i6 bI.1 14 (14 : Int32) (by decide) bI.2
      have eJ : (i6 + (1 : Int32)).toInt = i6.toInt + 1 := by
        have e1 : (1 : Int32).toInt = 1 := by decide
        rw [(Int32.toInt_add i6 1).trans (Int.bmod_eq_of_le (by omega) (by omega)), e1]
      have eJn : (i6 + (1 : Int32)).toNatClampNeg = i6.toNatClampNeg + 1 := by simp only [Int32.toNatClampNeg] at *; omega
      have bI2 : ¬ i6 < 0 ∧ i6 < (15 : Int32) := by
        refine ⟨bI.1, ?_⟩
        have e15 : (15 : Int32).toInt = 15 := by decide
        rw [Int32.lt_iff_toInt_lt]; omega
      have bJ : ¬ (i6 + (1 : Int32)) < 0 ∧ (i6 + (1 : Int32)) < (15 : Int32) := by
        have e15 : (15 : Int32).toInt = 15 := by decide
        have e0 : (0 : Int32).toInt = 0 := by decide
        rw [Int32.lt_iff_toInt_lt, Int32.lt_iff_toInt_lt, eJ]; omega
      have K25 : ∀ t, Steps p.tables e below (T.setTop (mkF m 289 #[.val (.int p1), .val (.int p2), .val (.ref bl), .val (.ref bh), .val (.int s5), .val (.int m5), .val (.int i6), .unset, .unset, .unset] [(.int i6), (.ref bh)])) t → Steps p.tables e below S0 t := by
        intro t hk
        refine K24 t ?_
        show Steps p.tables e below (T.setTop (mkF m 284 #[.val (.int p1), .val (.int p2), .val (.ref bl), .val (.ref bh), .val (.int s5), .val (.int m5), .unset, .unset, .unset, .unset] [(.int i6)])) _
        refine XS.istore X.here hx rfl (hb hby at_284) rfl (l' := #[.val (.int p1), .val (.int p2), .val (.ref bl), .val (.ref bh), .val (.int s5), .val (.int m5), .val (.int i6), .unset, .unset, .unset]) rfl ?_
        show Steps p.tables e below (T.setTop (mkF m 286 #[.val (.int p1), .val (.int p2), .val (.ref bl), .val (.ref bh), .val (.int s5), .val (.int m5), .val (.int i6), .unset, .unset, .unset] [])) _
        refine XS.aloadN X.here hx rfl (hb hby at_286) rfl rfl ?_
        show Steps p.tables e below (T.setTop (mkF m 287 #[.val (.int p1), .val (.int p2), .val (.ref bl), .val (.ref bh), .val (.int s5), .val (.int m5), .val (.int i6), .unset, .unset, .unset] [(.ref bh)])) _
        refine XS.iload X.here hx rfl (hb hby at_287) rfl ?_
        show Steps p.tables e below (T.setTop (mkF m 289 #[.val (.int p1), .val (.int p2), .val (.ref bl), .val (.ref bh), .val (.int s5), .val (.int m5), .val (.int i6), .unset, .unset, .unset] [(.int i6), (.ref bh)])) _
        exact hk
      obtain ⟨u1, hv_u1, st26⟩ := own_ldI X hx hZ e0 V902 (j := i6) bI2 (g := (mkF m 289 #[.val (.int p1), .val (.int p2), .val (.ref bl), .val (.ref bh), .val (.int s5), .val (.int m5), .val (.int i6), .unset, .unset, .unset] [(.int i6), (.ref bh)])) rfl rfl (hb hby at_289)
      have K26 : ∀ t, Steps p.tables e below (T.setTop (mkF m 290 #[.val (.int p1), .val (.int p2), .val (.ref bl), .val (.ref bh), .val (.int s5), .val (.int m5), .val (.int i6), .unset, .unset, .unset] [(.int u1)])) t → Steps p.tables e below S0 t := fun t hk => K25 t (st26 _ hk)
      have K27 : ∀ t, Steps p.tables e below (T.setTop (mkF m 299 #[.val (.int p1), .val (.int p2), .val (.ref bl), .val (.ref bh), .val (.int s5), .val (.int m5), .val (.int i6), .val (.int (u1 + (1 : Int32))), .unset, .unset] [(.int (i6 + (1 : Int32))), (.ref bl)])) t → Steps p.tables e below S0 t := by
        intro t hk
        refine K26 t ?_
        show Steps p.tables e below (T.setTop (mkF m 290 #[.val (.int p1), .val (.int p2), .val (.ref bl), .val (.ref bh), .val (.int s5), .val (.int m5), .val (.int i6), .unset, .unset, .unset] [(.int u1)])) _
        refine XS.iconst X.here hx rfl (hb hby at_290) ?_
        show Steps p.tables e below (T.setTop (mkF m 291 #[.val (.int p1), .val (.int p2), .val (.ref bl), .val (.ref bh), .val (.int s5), .val (.int m5), .val (.int i6), .unset, .unset, .unset] [(.int (1 : Int32)), (.int u1)])) _
        refine XS.iadd X.here hx rfl (hb hby at_291) rfl ?_
        show Steps p.tables e below (T.setTop (mkF m 292 #[.val (.int p1), .val (.int p2), .val (.ref bl), .val (.ref bh), .val (.int s5), .val (.int m5), .val (.int i6), .unset, .unset, .unset] [(.int (u1 + (1 : Int32)))])) _
        refine XS.istore X.here hx rfl (hb hby at_292) rfl (l' := #[.val (.int p1), .val (.int p2), .val (.ref bl), .val (.ref bh), .val (.int s5), .val (.int m5), .val (.int i6), .val (.int (u1 + (1 : Int32))), .unset, .unset]) rfl ?_
        show Steps p.tables e below (T.setTop (mkF m 294 #[.val (.int p1), .val (.int p2), .val (.ref bl), .val (.ref bh), .val (.int s5), .val (.int m5), .val (.int i6), .val (.int (u1 + (1 : Int32))), .unset, .unset] [])) _
        refine XS.aloadN X.here hx rfl (hb hby at_294) rfl rfl ?_
        show Steps p.tables e below (T.setTop (mkF m 295 #[.val (.int p1), .val (.int p2), .val (.ref bl), .val (.ref bh), .val (.int s5), .val (.int m5), .val (.int i6), .val (.int (u1 + (1 : Int32))), .unset, .unset] [(.ref bl)])) _
        refine XS.iload X.here hx rfl (hb hby at_295) rfl ?_
        show Steps p.tables e below (T.setTop (mkF m 297 #[.val (.int p1), .val (.int p2), .val (.ref bl), .val (.ref bh), .val (.int s5), .val (.int m5), .val (.int i6), .val (.int (u1 + (1 : Int32))), .unset, .unset] [(.int i6), (.ref bl)])) _
        refine XS.iconst X.here hx rfl (hb hby at_297) ?_
        show Steps p.tables e below (T.setTop (mkF m 298 #[.val (.int p1), .val (.int p2), .val (.ref bl), .val (.ref bh), .val (.int s5), .val (.int m5), .val (.int i6), .val (.int (u1 + (1 : Int32))), .unset, .unset] [(.int (1 : Int32)), (.int i6), (.ref bl)])) _
        refine XS.iadd X.here hx rfl (hb hby at_298) rfl ?_
        show Steps p.tables e below (T.setTop (mkF m 299 #[.val (.int p1), .val (.int p2), .val (.ref bl), .val (.ref bh), .val (.int s5), .val (.int m5), .val (.int i6), .val (.int (u1 + (1 : Int32))), .unset, .unset] [(.int (i6 + (1 : Int32))), (.ref bl)])) _
        exact hk
      obtain ⟨u2, hv_u2, st28⟩ := own_ldI X hx hZ e0 V901 (j := (i6 + (1 : Int32))) bJ (g := (mkF m 299 #[.val (.int p1), .val (.int p2), .val (.ref bl), .val (.ref bh), .val (.int s5), .val (.int m5), .val (.int i6), .val (.int (u1 + (1 : Int32))), .unset, .unset] [(.int (i6 + (1 : Int32))), (.ref bl)])) rfl rfl (hb hby at_299)
      have K28 : ∀ t, Steps p.tables e below (T.setTop (mkF m 300 #[.val (.int p1), .val (.int p2), .val (.ref bl), .val (.ref bh), .val (.int s5), .val (.int m5), .val (.int i6), .val (.int (u1 + (1 : Int32))), .unset, .unset] [(.int u2)])) t → Steps p.tables e below S0 t := fun t hk => K27 t (st28 _ hk)
      rw [eJn] at hv_u2
      obtain ⟨tA, tA1, tA2, tA3⟩ := own_tabB _ bB u1 u2 hv_u1 hv_u2
      have K29 : ∀ t, Steps p.tables e below (T.setTop (mkF m 301 #[.val (.int p1), .val (.int p2), .val (.ref bl), .val (.ref bh), .val (.int s5), .val (.int m5), .val (.int i6), .val (.int (u1 + (1 : Int32))), .unset, .unset] [(.int (1 : Int32)), (.int u2)])) t → Steps p.tables e below S0 t := by
        intro t hk
        refine K28 t ?_
        show Steps p.tables e below (T.setTop (mkF m 300 #[.val (.int p1), .val (.int p2), .val (.ref bl), .val (.ref bh), .val (.int s5), .val (.int m5), .val (.int i6), .val (.int (u1 + (1 : Int32))), .unset, .unset] [(.int u2)])) _
        refine XS.iconst X.here hx rfl (hb hby at_300) ?_
        show Steps p.tables e below (T.setTop (mkF m 301 #[.val (.int p1), .val (.int p2), .val (.ref bl), .val (.ref bh), .val (.int s5), .val (.int m5), .val (.int i6), .val (.int (u1 + (1 : Int32))), .unset, .unset] [(.int (1 : Int32)), (.int u2)])) _
        exact hk
      have K30 : ∀ t, Steps p.tables e below (T.setTop (mkF m 302 #[.val (.int p1), .val (.int p2), .val (.ref bl), .val (.ref bh), .val (.int s5), .val (.int m5), .val (.int i6), .val (.int (u1 + (1 : Int32))), .unset, .unset] [(.int (u2 - (1 : Int32)))])) t → Steps p.tables e below S0 t := by
        intro t hk
        refine K29 t ?_
        show Steps p.tables e below (T.setTop (mkF m 301 #[.val (.int p1), .val (.int p2), .val (.ref bl), .val (.ref bh), .val (.int s5), .val (.int m5), .val (.int i6), .val (.int (u1 + (1 : Int32))), .unset, .unset] [(.int (1 : Int32)), (.int u2)])) _
        refine XS.isub X.here hx rfl (hb hby at_301) rfl ?_
        show Steps p.tables e below (T.setTop (mkF m 302 #[.val (.int p1), .val (.int p2), .val (.ref bl), .val (.ref bh), .val (.int s5), .val (.int m5), .val (.int i6), .val (.int (u1 + (1 : Int32))), .unset, .unset] [(.int (u2 - (1 : Int32)))])) _
        exact hk
      obtain ⟨u7, hu7⟩ : ∃ z, z = (u2 - (1 : Int32)) := ⟨_, rfl⟩
      have K31 : ∀ t, Steps p.tables e below (T.setTop (mkF m 302 #[.val (.int p1), .val (.int p2), .val (.ref bl), .val (.ref bh), .val (.int s5), .val (.int m5), .val (.int i6), .val (.int (u1 + (1 : Int32))), .unset, .unset] [(.int u7)])) t → Steps p.tables e below S0 t := by rw [hu7]; exact K30
      obtain ⟨u6, hu6⟩ : ∃ z, z = (u1 + (1 : Int32)) := ⟨_, rfl⟩
      have K32 : ∀ t, Steps p.tables e below (T.setTop (mkF m 302 #[.val (.int p1), .val (.int p2), .val (.ref bl), .val (.ref bh), .val (.int s5), .val (.int m5), .val (.int i6), .val (.int u6), .unset, .unset] [(.int u7)])) t → Steps p.tables e below S0 t := by rw [hu6]; exact K31
      simp only [← hu6, ← hu7] at tA tA1 tA2 tA3
      obtain ⟨hnz315, iA1, iA2⟩ := own_in u6 u7 m5 tA1 tA2 tA3 bm
      have K33 : ∀ t, Steps p.tables e below (T.setTop (mkF m 321 #[.val (.int p1), .val (.int p2), .val (.ref bl), .val (.ref bh), .val (.int s5), .val (.int m5), .val (.int i6), .val (.int u6), .val (.int u7), .val (.int (u6 + (m5 % ((u7 - u6) + (1 : Int32)))))] [(.int (u6 + (m5 % ((u7 - u6) + (1 : Int32)))))])) t → Steps p.tables e below S0 t := by
        intro t hk
        refine K32 t ?_
        show Steps p.tables e below (T.setTop (mkF m 302 #[.val (.int p1), .val (.int p2), .val (.ref bl), .val (.ref bh), .val (.int s5), .val (.int m5), .val (.int i6), .val (.int u6), .unset, .unset] [(.int u7)])) _
        refine XS.istore X.here hx rfl (hb hby at_302) rfl (l' := #[.val (.int p1), .val (.int p2), .val (.ref bl), .val (.ref bh), .val (.int s5), .val (.int m5), .val (.int i6), .val (.int u6), .val (.int u7), .unset]) rfl ?_
        show Steps p.tables e below (T.setTop (mkF m 304 #[.val (.int p1), .val (.int p2), .val (.ref bl), .val (.ref bh), .val (.int s5), .val (.int m5), .val (.int i6), .val (.int u6), .val (.int u7), .unset] [])) _
        refine XS.iload X.here hx rfl (hb hby at_304) rfl ?_
        show Steps p.tables e below (T.setTop (mkF m 306 #[.val (.int p1), .val (.int p2), .val (.ref bl), .val (.ref bh), .val (.int s5), .val (.int m5), .val (.int i6), .val (.int u6), .val (.int u7), .unset] [(.int u6)])) _
        refine XS.iload X.here hx rfl (hb hby at_306) rfl ?_
        show Steps p.tables e below (T.setTop (mkF m 308 #[.val (.int p1), .val (.int p2), .val (.ref bl), .val (.ref bh), .val (.int s5), .val (.int m5), .val (.int i6), .val (.int u6), .val (.int u7), .unset] [(.int m5), (.int u6)])) _
        refine XS.iload X.here hx rfl (hb hby at_308) rfl ?_
        show Steps p.tables e below (T.setTop (mkF m 310 #[.val (.int p1), .val (.int p2), .val (.ref bl), .val (.ref bh), .val (.int s5), .val (.int m5), .val (.int i6), .val (.int u6), .val (.int u7), .unset] [(.int u7), (.int m5), (.int u6)])) _
        refine XS.iload X.here hx rfl (hb hby at_310) rfl ?_
        show Steps p.tables e below (T.setTop (mkF m 312 #[.val (.int p1), .val (.int p2), .val (.ref bl), .val (.ref bh), .val (.int s5), .val (.int m5), .val (.int i6), .val (.int u6), .val (.int u7), .unset] [(.int u6), (.int u7), (.int m5), (.int u6)])) _
        refine XS.isub X.here hx rfl (hb hby at_312) rfl ?_
        show Steps p.tables e below (T.setTop (mkF m 313 #[.val (.int p1), .val (.int p2), .val (.ref bl), .val (.ref bh), .val (.int s5), .val (.int m5), .val (.int i6), .val (.int u6), .val (.int u7), .unset] [(.int (u7 - u6)), (.int m5), (.int u6)])) _
        refine XS.iconst X.here hx rfl (hb hby at_313) ?_
        show Steps p.tables e below (T.setTop (mkF m 314 #[.val (.int p1), .val (.int p2), .val (.ref bl), .val (.ref bh), .val (.int s5), .val (.int m5), .val (.int i6), .val (.int u6), .val (.int u7), .unset] [(.int (1 : Int32)), (.int (u7 - u6)), (.int m5), (.int u6)])) _
        refine XS.iadd X.here hx rfl (hb hby at_314) rfl ?_
        show Steps p.tables e below (T.setTop (mkF m 315 #[.val (.int p1), .val (.int p2), .val (.ref bl), .val (.ref bh), .val (.int s5), .val (.int m5), .val (.int i6), .val (.int u6), .val (.int u7), .unset] [(.int ((u7 - u6) + (1 : Int32))), (.int m5), (.int u6)])) _
        refine XS.irem X.here hx rfl (hb hby at_315) rfl hnz315 ?_
        rw [Jvm.irem_eq_mod m5 ((u7 - u6) + (1 : Int32))]
        show Steps p.tables e below (T.setTop (mkF m 316 #[.val (.int p1), .val (.int p2), .val (.ref bl), .val (.ref bh), .val (.int s5), .val (.int m5), .val (.int i6), .val (.int u6), .val (.int u7), .unset] [(.int (m5 % ((u7 - u6) + (1 : Int32)))), (.int u6)])) _
        refine XS.iadd X.here hx rfl (hb hby at_316) rfl ?_
        show Steps p.tables e below (T.setTop (mkF m 317 #[.val (.int p1), .val (.int p2), .val (.ref bl), .val (.ref bh), .val (.int s5), .val (.int m5), .val (.int i6), .val (.int u6), .val (.int u7), .unset] [(.int (u6 + (m5 % ((u7 - u6) + (1 : Int32)))))])) _
        refine XS.istore X.here hx rfl (hb hby at_317) rfl (l' := #[.val (.int p1), .val (.int p2), .val (.ref bl), .val (.ref bh), .val (.int s5), .val (.int m5), .val (.int i6), .val (.int u6), .val (.int u7), .val (.int (u6 + (m5 % ((u7 - u6) + (1 : Int32)))))]) rfl ?_
        show Steps p.tables e below (T.setTop (mkF m 319 #[.val (.int p1), .val (.int p2), .val (.ref bl), .val (.ref bh), .val (.int s5), .val (.int m5), .val (.int i6), .val (.int u6), .val (.int u7), .val (.int (u6 + (m5 % ((u7 - u6) + (1 : Int32)))))] [])) _
        refine XS.iload X.here hx rfl (hb hby at_319) rfl ?_
        show Steps p.tables e below (T.setTop (mkF m 321 #[.val (.int p1), .val (.int p2), .val (.ref bl), .val (.ref bh), .val (.int s5), .val (.int m5), .val (.int i6), .val (.int u6), .val (.int u7), .val (.int (u6 + (m5 % ((u7 - u6) + (1 : Int32)))))] [(.int (u6 + (m5 % ((u7 - u6) + (1 : Int32)))))])) _
        exact hk
      obtain ⟨_, _, ⟨T34, L34, k34, n34⟩, -, X34, ⟨Lc34, hQ34, l34, y34, z34⟩, st34⟩ := Jvm.LawKit.callS X hx (y := (⟨"com/example/bertilak/bertilak/util/XmlCharsIsNameStartCharPinLaw", "f", "(I)Z"⟩ : MethodName)) hown (mvT hZ (hw _ (List.mem_of_getElem? (i := 9) rfl))) (mvT hZ (hw _ (List.mem_of_getElem? (i := 10) rfl))) (mvT hZ (hw _ (List.mem_of_getElem? (i := 11) rfl))) (mvT hZ (hw _ (List.mem_of_getElem? (i := 12) rfl))) (by decide) (backOf (W := 0) (rm1 l Z a0 hw [] (u6 + (m5 % ((u7 - u6) + (1 : Int32))))  h0 n0 Z0 ) hZ (hw _ (List.mem_of_getElem? (i := 12) rfl)) (hw _ (List.mem_of_getElem? (i := 11) rfl)) (by decide) (by decide)) (g := (mkF m 321 #[.val (.int p1), .val (.int p2), .val (.ref bl), .val (.ref bh), .val (.int s5), .val (.int m5), .val (.int i6), .val (.int u6), .val (.int u7), .val (.int (u6 + (m5 % ((u7 - u6) + (1 : Int32)))))] [(.int (u6 + (m5 % ((u7 - u6) + (1 : Int32)))))])) rfl (by rw [hml]; rfl) (argsL := [(.int (u6 + (m5 % ((u7 - u6) + (1 : Int32)))))]) (rest := []) (lenOf (by decide +kernel : parseMethodDescriptor "(I)Z" = some ⟨[.int], (some .boolean)⟩) rfl) rfl (by show 2 * 0 + _ ≤ _; exact Nat.le_of_eq rfl) (hb hby at_321) (fun _ _ => ⟨rfl, e0, (by show cells + 0 ≤ 16; omega), (by show slots + 0 ≤ 128; omega)⟩)
      dsimp only [Pt.U, Pt.locs, Pt.cells, Pt.slots] at X34 l34 y34 z34 st34 hQ34
      replace y34 := y34.symm; replace z34 := z34.symm; subst l34 y34 z34
      obtain ⟨rfl, Nq34, e34⟩ := hQ34
      have N34 := Fr.app N0 Nq34
      have K34 : ∀ t, Steps p.tables e below (T34.setTop (mkF m 324 #[.val (.int p1), .val (.int p2), .val (.ref bl), .val (.ref bh), .val (.int s5), .val (.int m5), .val (.int i6), .val (.int u6), .val (.int u7), .val (.int (u6 + (m5 % ((u7 - u6) + (1 : Int32)))))] [(.int (own_f2_0 (u6 + (m5 % ((u7 - u6) + (1 : Int32))))))])) t → Steps p.tables e below S0 t := fun t hk => K33 t (st34 _ hk)
      have hc324 : (own_f2_0 (u6 + (m5 % ((u7 - u6) + (1 : Int32))))) = (0 : Int32) := (own_no _ _ _ tA iA1 iA2)
      have K35 : ∀ t, Steps p.tables e below (T34.setTop (mkF m 327 #[.val (.int p1), .val (.int p2), .val (.ref bl), .val (.ref bh), .val (.int s5), .val (.int m5), .val (.int i6), .val (.int u6), .val (.int u7), .val (.int (u6 + (m5 % ((u7 - u6) + (1 : Int32)))))] [])) t → Steps p.tables e below S0 t := by
        intro t hk
        refine K34 t ?_
        show Steps p.tables e below (T34.setTop (mkF m 324 #[.val (.int p1), .val (.int p2), .val (.ref bl), .val (.ref bh), .val (.int s5), .val (.int m5), .val (.int i6), .val (.int u6), .val (.int u7), .val (.int (u6 + (m5 % ((u7 - u6) + (1 : Int32)))))] [(.int (own_f2_0 (u6 + (m5 % ((u7 - u6) + (1 : Int32))))))])) _
        refine XS.ifNo X34.here hx rfl (hb hby at_324) rfl ((if0 _ _).trans (teq hc324).2) ?_
        exact hk
      have K36 : ∀ t, Steps p.tables e below (T34.setTop (mkF m 329 #[.val (.int p1), .val (.int p2), .val (.ref bl), .val (.ref bh), .val (.int s5), .val (.int m5), .val (.int i6), .val (.int u6), .val (.int u7), .val (.int (u6 + (m5 % ((u7 - u6) + (1 : Int32)))))] [(.int u6)])) t → Steps p.tables e below S0 t := by
        intro t hk
        refine K35 t ?_
        show Steps p.tables e below (T34.setTop (mkF m 327 #[.val (.int p1), .val (.int p2), .val (.ref bl), .val (.ref bh), .val (.int s5), .val (.int m5), .val (.int i6), .val (.int u6), .val (.int u7), .val (.int (u6 + (m5 % ((u7 - u6) + (1 : Int32)))))] [])) _
        refine XS.iload X34.here hx rfl (hb hby at_327) rfl ?_
        show Steps p.tables e below (T34.setTop (mkF m 329 #[.val (.int p1), .val (.int p2), .val (.ref bl), .val (.ref bh), .val (.int s5), .val (.int m5), .val (.int i6), .val (.int u6), .val (.int u7), .val (.int (u6 + (m5 % ((u7 - u6) + (1 : Int32)))))] [(.int u6)])) _
        exact hk
      obtain ⟨_, _, ⟨T37, L37, k37, n37⟩, -, X37, ⟨Lc37, hQ37, l37, y37, z37⟩, st37⟩ := Jvm.LawKit.callS X34 hx (y := (⟨"com/example/bertilak/bertilak/util/XmlCharsIsNameStartCharPinLaw", "f", "(I)Z"⟩ : MethodName)) hown (mvT hZ (hw _ (List.mem_of_getElem? (i := 9) rfl))) (mvT hZ (hw _ (List.mem_of_getElem? (i := 10) rfl))) (mvT hZ (hw _ (List.mem_of_getElem? (i := 11) rfl))) (mvT hZ (hw _ (List.mem_of_getElem? (i := 12) rfl))) (by decide) (backOf (W := 0) (rm1 l Z a0 hw [] u6  h0 n0 Z0 ) hZ (hw _ (List.mem_of_getElem? (i := 12) rfl)) (hw _ (List.mem_of_getElem? (i := 11) rfl)) (by decide) (by decide)) (g := (mkF m 329 #[.val (.int p1), .val (.int p2), .val (.ref bl), .val (.ref bh), .val (.int s5), .val (.int m5), .val (.int i6), .val (.int u6), .val (.int u7), .val (.int (u6 + (m5 % ((u7 - u6) + (1 : Int32)))))] [(.int u6)])) rfl (by rw [hml]; rfl) (argsL := [(.int u6)]) (rest := []) (lenOf (by decide +kernel : parseMethodDescriptor "(I)Z" = some ⟨[.int], (some .boolean)⟩) rfl) rfl (by show 2 * 0 + _ ≤ _; exact Nat.le_of_eq rfl) (hb hby at_329) (fun _ _ => ⟨rfl, e34, (by show cells + 0 + 0 ≤ 16; omega), (by show slots + 0 + 0 ≤ 128; omega)⟩)
      dsimp only [Pt.U, Pt.locs, Pt.cells, Pt.slots] at X37 l37 y37 z37 st37 hQ37
      replace y37 := y37.symm; replace z37 := z37.symm; subst l37 y37 z37
      obtain ⟨rfl, Nq37, e37⟩ := hQ37
      have N37 := Fr.app N34 Nq37
      have K37 : ∀ t, Steps p.tables e below (T37.setTop (mkF m 332 #[.val (.int p1), .val (.int p2), .val (.ref bl), .val (.ref bh), .val (.int s5), .val (.int m5), .val (.int i6), .val (.int u6), .val (.int u7), .val (.int (u6 + (m5 % ((u7 - u6) + (1 : Int32)))))] [(.int (own_f2_0 u6))])) t → Steps p.tables e below S0 t := fun t hk => K36 t (st37 _ hk)
      have hc332 : (own_f2_0 u6) = (0 : Int32) := (own_no _ _ _ tA (Int.le_refl _) tA2)
      have K38 : ∀ t, Steps p.tables e below (T37.setTop (mkF m 335 #[.val (.int p1), .val (.int p2), .val (.ref bl), .val (.ref bh), .val (.int s5), .val (.int m5), .val (.int i6), .val (.int u6), .val (.int u7), .val (.int (u6 + (m5 % ((u7 - u6) + (1 : Int32)))))] [])) t → Steps p.tables e below S0 t := by
        intro t hk
        refine K37 t ?_
        show Steps p.tables e below (T37.setTop (mkF m 332 #[.val (.int p1), .val (.int p2), .val (.ref bl), .val (.ref bh), .val (.int s5), .val (.int m5), .val (.int i6), .val (.int u6), .val (.int u7), .val (.int (u6 + (m5 % ((u7 - u6) + (1 : Int32)))))] [(.int (own_f2_0 u6))])) _
        refine XS.ifNo X37.here hx rfl (hb hby at_332) rfl ((if0 _ _).trans (teq hc332).2) ?_
        exact hk
      have K39 : ∀ t, Steps p.tables e below (T37.setTop (mkF m 337 #[.val (.int p1), .val (.int p2), .val (.ref bl), .val (.ref bh), .val (.int s5), .val (.int m5), .val (.int i6), .val (.int u6), .val (.int u7), .val (.int (u6 + (m5 % ((u7 - u6) + (1 : Int32)))))] [(.int u7)])) t → Steps p.tables e below S0 t := by
        intro t hk
        refine K38 t ?_
        show Steps p.tables e below (T37.setTop (mkF m 335 #[.val (.int p1), .val (.int p2), .val (.ref bl), .val (.ref bh), .val (.int s5), .val (.int m5), .val (.int i6), .val (.int u6), .val (.int u7), .val (.int (u6 + (m5 % ((u7 - u6) + (1 : Int32)))))] [])) _
        refine XS.iload X37.here hx rfl (hb hby at_335) rfl ?_
        show Steps p.tables e below (T37.setTop (mkF m 337 #[.val (.int p1), .val (.int p2), .val (.ref bl), .val (.ref bh), .val (.int s5), .val (.int m5), .val (.int i6), .val (.int u6), .val (.int u7), .val (.int (u6 + (m5 % ((u7 - u6) + (1 : Int32)))))] [(.int u7)])) _
        exact hk
      obtain ⟨_, _, ⟨T40, L40, k40, n40⟩, -, X40, ⟨Lc40, hQ40, l40, y40, z40⟩, st40⟩ := Jvm.LawKit.callS X37 hx (y := (⟨"com/example/bertilak/bertilak/util/XmlCharsIsNameStartCharPinLaw", "f", "(I)Z"⟩ : MethodName)) hown (mvT hZ (hw _ (List.mem_of_getElem? (i := 9) rfl))) (mvT hZ (hw _ (List.mem_of_getElem? (i := 10) rfl))) (mvT hZ (hw _ (List.mem_of_getElem? (i := 11) rfl))) (mvT hZ (hw _ (List.mem_of_getElem? (i := 12) rfl))) (by decide) (backOf (W := 0) (rm1 l Z a0 hw [] u7  h0 n0 Z0 ) hZ (hw _ (List.mem_of_getElem? (i := 12) rfl)) (hw _ (List.mem_of_getElem? (i := 11) rfl)) (by decide) (by decide)) (g := (mkF m 337 #[.val (.int p1), .val (.int p2), .val (.ref bl), .val (.ref bh), .val (.int s5), .val (.int m5), .val (.int i6), .val (.int u6), .val (.int u7), .val (.int (u6 + (m5 % ((u7 - u6) + (1 : Int32)))))] [(.int u7)])) rfl (by rw [hml]; rfl) (argsL := [(.int u7)]) (rest := []) (lenOf (by decide +kernel : parseMethodDescriptor "(I)Z" = some ⟨[.int], (some .boolean)⟩) rfl) rfl (by show 2 * 0 + _ ≤ _; exact Nat.le_of_eq rfl) (hb hby at_337) (fun _ _ => ⟨rfl, e37, (by show cells + 0 + 0 + 0 ≤ 16; omega), (by show slots + 0 + 0 + 0 ≤ 128; omega)⟩)
      dsimp only [Pt.U, Pt.locs, Pt.cells, Pt.slots] at X40 l40 y40 z40 st40 hQ40
      replace y40 := y40.symm; replace z40 := z40.symm; subst l40 y40 z40
      obtain ⟨rfl, Nq40, e40⟩ := hQ40
      have N40 := Fr.app N37 Nq40
      have K40 : ∀ t, Steps p.tables e below (T40.setTop (mkF m 340 #[.val (.int p1), .val (.int p2), .val (.ref bl), .val (.ref bh), .val (.int s5), .val (.int m5), .val (.int i6), .val (.int u6), .val (.int u7), .val (.int (u6 + (m5 % ((u7 - u6) + (1 : Int32)))))] [(.int (own_f2_0 u7))])) t → Steps p.tables e below S0 t := fun t hk => K39 t (st40 _ hk)
      have hc340 : (own_f2_0 u7) = (0 : Int32) := (own_no _ _ _ tA tA2 (Int.le_refl _))
      have K41 : ∀ t, Steps p.tables e below (T40.setTop (mkF m 343 #[.val (.int p1), .val (.int p2), .val (.ref bl), .val (.ref bh), .val (.int s5), .val (.int m5), .val (.int i6), .val (.int u6), .val (.int u7), .val (.int (u6 + (m5 % ((u7 - u6) + (1 : Int32)))))] [])) t → Steps p.tables e below S0 t := by
        intro t hk
        refine K40 t ?_
        show Steps p.tables e below (T40.setTop (mkF m 340 #[.val (.int p1), .val (.int p2), .val (.ref bl), .val (.ref bh), .val (.int s5), .val (.int m5), .val (.int i6), .val (.int u6), .val (.int u7), .val (.int (u6 + (m5 % ((u7 - u6) + (1 : Int32)))))] [(.int (own_f2_0 u7))])) _
        refine XS.ifNo X40.here hx rfl (hb hby at_340) rfl ((if0 _ _).trans (teq hc340).2) ?_
        exact hk
      have K42 : ∀ t, Steps p.tables e below (T40.setTop (mkF m 348 #[.val (.int p1), .val (.int p2), .val (.ref bl), .val (.ref bh), .val (.int s5), .val (.int m5), .val (.int i6), .val (.int u6), .val (.int u7), .val (.int (u6 + (m5 % ((u7 - u6) + (1 : Int32)))))] [(.int (1 : Int32))])) t → Steps p.tables e below S0 t := by
        intro t hk
        refine K41 t ?_
        show Steps p.tables e below (T40.setTop (mkF m 343 #[.val (.int p1), .val (.int p2), .val (.ref bl), .val (.ref bh), .val (.int s5), .val (.int m5), .val (.int i6), .val (.int u6), .val (.int u7), .val (.int (u6 + (m5 % ((u7 - u6) + (1 : Int32)))))] [])) _
        refine XS.iconst X40.here hx rfl (hb hby at_343) ?_
        show Steps p.tables e below (T40.setTop (mkF m 344 #[.val (.int p1), .val (.int p2), .val (.ref bl), .val (.ref bh), .val (.int s5), .val (.int m5), .val (.int i6), .val (.int u6), .val (.int u7), .val (.int (u6 + (m5 % ((u7 - u6) + (1 : Int32)))))] [(.int (1 : Int32))])) _
        refine XS.goto X40.here hx rfl (pc0 := 344) (pc' := 348) rfl (hb hby at_344) (by decide) (by decide) ?_
        show Steps p.tables e below (T40.setTop (mkF m 348 #[.val (.int p1), .val (.int p2), .val (.ref bl), .val (.ref bh), .val (.int s5), .val (.int m5), .val (.int i6), .val (.int u6), .val (.int u7), .val (.int (u6 + (m5 % ((u7 - u6) + (1 : Int32)))))] [(.int (1 : Int32))])) _
        exact hk
      obtain ⟨fs, hr, hrun, hended, hW, hsame⟩ := X40.leave (v := some (.int (1 : Int32))) (fun h => by rw [(hret.trans (rfl : ret = some .boolean))] at h; cases h) hlk
      exact ⟨_, _, K42 _ (retN X40 hx (t := .boolean) (hret.trans (rfl : ret = some .boolean)) (by simp) (hb hby at_348) hr), hrun, hended, _, _, rfl, ⟨rfl, N40⟩, ⟨_, rfl⟩, hW, hsame.mono hcb hsb⟩
    · have K43 : ∀ t, Steps p.tables e below (T.setTop (mkF m 349 #[.val (.int p1), .val (.int p2), .val (.ref bl), .val (.ref bh), .val (.int s5), .val (.int m5), .unset, .unset, .unset, .unset] [])) t → Steps p.tables e below S0 t := by
        intro t hk
        refine K21 t ?_
        show Steps p.tables e below (T.setTop (mkF m 276 #[.val (.int p1), .val (.int p2), .val (.ref bl), .val (.ref bh), .val (.int s5), .val (.int m5), .unset, .unset, .unset, .unset] [(.int (29 : Int32)), (.int s5)])) _
        refine XS.icmpYes X.here hx rfl (pc0 := 276) (pc' := 349) rfl (hb hby at_276) rfl (flt hc276).2.1 (by decide) (by decide) ?_
        exact hk
      have K44 : ∀ t, Steps p.tables e below (T.setTop (mkF m 353 #[.val (.int p1), .val (.int p2), .val (.ref bl), .val (.ref bh), .val (.int s5), .val (.int m5), .unset, .unset, .unset, .unset] [(.int (29 : Int32)), (.int s5)])) t → Steps p.tables e below S0 t := by
        intro t hk
        refine K43 t ?_
        show Steps p.tables e below (T.setTop (mkF m 349 #[.val (.int p1), .val (.int p2), .val (.ref bl), .val (.ref bh), .val (.int s5), .val (.int m5), .unset, .unset, .unset, .unset] [])) _
        refine XS.iload X.here hx rfl (hb hby at_349) rfl ?_
        show Steps p.tables e below (T.setTop (mkF m 351 #[.val (.int p1), .val (.int p2), .val (.ref bl), .val (.ref bh), .val (.int s5), .val (.int m5), .unset, .unset, .unset, .unset] [(.int s5)])) _
        refine XS.bipush X.here hx rfl (hb hby at_351) ?_
        show Steps p.tables e below (T.setTop (mkF m 353 #[.val (.int p1), .val (.int p2), .val (.ref bl), .val (.ref bh), .val (.int s5), .val (.int m5), .unset, .unset, .unset, .unset] [(.int (29 : Int32)), (.int s5)])) _
        exact hk
      by_cases hc353 : s5 = (29 : Int32)
      · have K45 : ∀ t, Steps p.tables e below (T.setTop (mkF m 356 #[.val (.int p1), .val (.int p2), .val (.ref bl), .val (.ref bh), .val (.int s5), .val (.int m5), .unset, .unset, .unset, .unset] [])) t → Steps p.tables e below S0 t := by
          intro t hk
          refine K44 t ?_
          show Steps p.tables e below (T.setTop (mkF m 353 #[.val (.int p1), .val (.int p2), .val (.ref bl), .val (.ref bh), .val (.int s5), .val (.int m5), .unset, .unset, .unset, .unset] [(.int (29 : Int32)), (.int s5)])) _
          refine XS.icmpNo X.here hx rfl (hb hby at_353) rfl (teq hc353).2 ?_
          exact hk
        have K46 : ∀ t, Steps p.tables e below (T.setTop (mkF m 359 #[.val (.int p1), .val (.int p2), .val (.ref bl), .val (.ref bh), .val (.int s5), .val (.int m5), .unset, .unset, .unset, .unset] [(.int (65 : Int32)), (.int p2)])) t → Steps p.tables e below S0 t := by
          intro t hk
          refine K45 t ?_
          show Steps p.tables e below (T.setTop (mkF m 356 #[.val (.int p1), .val (.int p2), .val (.ref bl), .val (.ref bh), .val (.int s5), .val (.int m5), .unset, .unset, .unset, .unset] [])) _
          refine XS.iloadN X.here hx rfl (hb hby at_356) rfl ?_
          show Steps p.tables e below (T.setTop (mkF m 357 #[.val (.int p1), .val (.int p2), .val (.ref bl), .val (.ref bh), .val (.int s5), .val (.int m5), .unset, .unset, .unset, .unset] [(.int p2)])) _
          refine XS.bipush X.here hx rfl (hb hby at_357) ?_
          show Steps p.tables e below (T.setTop (mkF m 359 #[.val (.int p1), .val (.int p2), .val (.ref bl), .val (.ref bh), .val (.int s5), .val (.int m5), .unset, .unset, .unset, .unset] [(.int (65 : Int32)), (.int p2)])) _
          exact hk
        by_cases hc359 : p2 < (65 : Int32)
        · have K47 : ∀ t, Steps p.tables e below (T.setTop (mkF m 362 #[.val (.int p1), .val (.int p2), .val (.ref bl), .val (.ref bh), .val (.int s5), .val (.int m5), .unset, .unset, .unset, .unset] [])) t → Steps p.tables e below S0 t := by
            intro t hk
            refine K46 t ?_
            show Steps p.tables e below (T.setTop (mkF m 359 #[.val (.int p1), .val (.int p2), .val (.ref bl), .val (.ref bh), .val (.int s5), .val (.int m5), .unset, .unset, .unset, .unset] [(.int (65 : Int32)), (.int p2)])) _
            refine XS.icmpNo X.here hx rfl (hb hby at_359) rfl (tlt hc359).2.1 ?_
            exact hk
          have c65 : p2.toInt < 65 := by rw [Int32.lt_iff_toInt_lt] at hc359; exact hc359
          have K48 : ∀ t, Steps p.tables e below (T.setTop (mkF m 370 #[.val (.int p1), .val (.int p2), .val (.ref bl), .val (.ref bh), .val (.int s5), .val (.int m5), .unset, .unset, .unset, .unset] [(.int p2)])) t → Steps p.tables e below S0 t := by
            intro t hk
            refine K47 t ?_
            show Steps p.tables e below (T.setTop (mkF m 362 #[.val (.int p1), .val (.int p2), .val (.ref bl), .val (.ref bh), .val (.int s5), .val (.int m5), .unset, .unset, .unset, .unset] [])) _
            refine XS.iloadN X.here hx rfl (hb hby at_362) rfl ?_
            show Steps p.tables e below (T.setTop (mkF m 363 #[.val (.int p1), .val (.int p2), .val (.ref bl), .val (.ref bh), .val (.int s5), .val (.int m5), .unset, .unset, .unset, .unset] [(.int p2)])) _
            refine XS.goto X.here hx rfl (pc0 := 363) (pc' := 370) rfl (hb hby at_363) (by decide) (by decide) ?_
            show Steps p.tables e below (T.setTop (mkF m 370 #[.val (.int p1), .val (.int p2), .val (.ref bl), .val (.ref bh), .val (.int s5), .val (.int m5), .unset, .unset, .unset, .unset] [(.int p2)])) _
            exact hk
          have K49 : ∀ t, Steps p.tables e below (T.setTop (mkF m 374 #[.val (.int p1), .val (.int p2), .val (.ref bl), .val (.ref bh), .val (.int s5), .val (.int m5), .val (.int p2), .unset, .unset, .unset] [(.int p2)])) t → Steps p.tables e below S0 t := by
            intro t hk
            refine K48 t ?_
            show Steps p.tables e below (T.setTop (mkF m 370 #[.val (.int p1), .val (.int p2), .val (.ref bl), .val (.ref bh), .val (.int s5), .val (.int m5), .unset, .unset, .unset, .unset] [(.int p2)])) _
            refine XS.istore X.here hx rfl (hb hby at_370) rfl (l' := #[.val (.int p1), .val (.int p2), .val (.ref bl), .val (.ref bh), .val (.int s5), .val (.int m5), .val (.int p2), .unset, .unset, .unset]) rfl ?_
            show Steps p.tables e below (T.setTop (mkF m 372 #[.val (.int p1), .val (.int p2), .val (.ref bl), .val (.ref bh), .val (.int s5), .val (.int m5), .val (.int p2), .unset, .unset, .unset] [])) _
            refine XS.iload X.here hx rfl (hb hby at_372) rfl ?_
            show Steps p.tables e below (T.setTop (mkF m 374 #[.val (.int p1), .val (.int p2), .val (.ref bl), .val (.ref bh), .val (.int s5), .val (.int m5), .val (.int p2), .unset, .unset, .unset] [(.int p2)])) _
            exact hk
          obtain ⟨_, _, ⟨T50, L50, k50, n50⟩, -, X50, ⟨Lc50, hQ50, l50, y50, z50⟩, st50⟩ := Jvm.LawKit.callS X hx (y := (⟨"com/example/bertilak/bertilak/util/XmlCharsIsNameStartCharPinLaw", "f", "(I)Z"⟩ : MethodName)) hown (mvT hZ (hw _ (List.mem_of_getElem? (i := 9) rfl))) (mvT hZ (hw _ (List.mem_of_getElem? (i := 10) rfl))) (mvT hZ (hw _ (List.mem_of_getElem? (i := 11) rfl))) (mvT hZ (hw _ (List.mem_of_getElem? (i := 12) rfl))) (by decide) (backOf (W := 0) (rm1 l Z a0 hw [] p2  h0 n0 Z0 ) hZ (hw _ (List.mem_of_getElem? (i := 12) rfl)) (hw _ (List.mem_of_getElem? (i := 11) rfl)) (by decide) (by decide)) (g := (mkF m 374 #[.val (.int p1), .val (.int p2), .val (.ref bl), .val (.ref bh), .val (.int s5), .val (.int m5), .val (.int p2), .unset, .unset, .unset] [(.int p2)])) rfl (by rw [hml]; rfl) (argsL := [(.int p2)]) (rest := []) (lenOf (by decide +kernel : parseMethodDescriptor "(I)Z" = some ⟨[.int], (some .boolean)⟩) rfl) rfl (by show 2 * 0 + _ ≤ _; exact Nat.le_of_eq rfl) (hb hby at_374) (fun _ _ => ⟨rfl, e0, (by show cells + 0 ≤ 16; omega), (by show slots + 0 ≤ 128; omega)⟩)
          dsimp only [Pt.U, Pt.locs, Pt.cells, Pt.slots] at X50 l50 y50 z50 st50 hQ50
          replace y50 := y50.symm; replace z50 := z50.symm; subst l50 y50 z50
          obtain ⟨rfl, Nq50, e50⟩ := hQ50
          have N50 := Fr.app N0 Nq50
          have K50 : ∀ t, Steps p.tables e below (T50.setTop (mkF m 377 #[.val (.int p1), .val (.int p2), .val (.ref bl), .val (.ref bh), .val (.int s5), .val (.int m5), .val (.int p2), .unset, .unset, .unset] [(.int (own_f2_0 p2))])) t → Steps p.tables e below S0 t := fun t hk => K49 t (st50 _ hk)
          have hc377 : (own_f2_0 p2) = (0 : Int32) := (by rw [own_f2_0_spec]; rw [if_neg (by omega)])
          have K51 : ∀ t, Steps p.tables e below (T50.setTop (mkF m 380 #[.val (.int p1), .val (.int p2), .val (.ref bl), .val (.ref bh), .val (.int s5), .val (.int m5), .val (.int p2), .unset, .unset, .unset] [])) t → Steps p.tables e below S0 t := by
            intro t hk
            refine K50 t ?_
            show Steps p.tables e below (T50.setTop (mkF m 377 #[.val (.int p1), .val (.int p2), .val (.ref bl), .val (.ref bh), .val (.int s5), .val (.int m5), .val (.int p2), .unset, .unset, .unset] [(.int (own_f2_0 p2))])) _
            refine XS.ifNo X50.here hx rfl (hb hby at_377) rfl ((if0 _ _).trans (teq hc377).2) ?_
            exact hk
          have K52 : ∀ t, Steps p.tables e below (T50.setTop (mkF m 382 #[.val (.int p1), .val (.int p2), .val (.ref bl), .val (.ref bh), .val (.int s5), .val (.int m5), .val (.int p2), .unset, .unset, .unset] [(.int (64 : Int32))])) t → Steps p.tables e below S0 t := by
            intro t hk
            refine K51 t ?_
            show Steps p.tables e below (T50.setTop (mkF m 380 #[.val (.int p1), .val (.int p2), .val (.ref bl), .val (.ref bh), .val (.int s5), .val (.int m5), .val (.int p2), .unset, .unset, .unset] [])) _
            refine XS.bipush X50.here hx rfl (hb hby at_380) ?_
            show Steps p.tables e below (T50.setTop (mkF m 382 #[.val (.int p1), .val (.int p2), .val (.ref bl), .val (.ref bh), .val (.int s5), .val (.int m5), .val (.int p2), .unset, .unset, .unset] [(.int (64 : Int32))])) _
            exact hk
          obtain ⟨_, _, ⟨T53, L53, k53, n53⟩, -, X53, ⟨Lc53, hQ53, l53, y53, z53⟩, st53⟩ := Jvm.LawKit.callS X50 hx (y := (⟨"com/example/bertilak/bertilak/util/XmlCharsIsNameStartCharPinLaw", "f", "(I)Z"⟩ : MethodName)) hown (mvT hZ (hw _ (List.mem_of_getElem? (i := 9) rfl))) (mvT hZ (hw _ (List.mem_of_getElem? (i := 10) rfl))) (mvT hZ (hw _ (List.mem_of_getElem? (i := 11) rfl))) (mvT hZ (hw _ (List.mem_of_getElem? (i := 12) rfl))) (by decide) (backOf (W := 0) (rm1 l Z a0 hw [] (64 : Int32)  h0 n0 Z0 ) hZ (hw _ (List.mem_of_getElem? (i := 12) rfl)) (hw _ (List.mem_of_getElem? (i := 11) rfl)) (by decide) (by decide)) (g := (mkF m 382 #[.val (.int p1), .val (.int p2), .val (.ref bl), .val (.ref bh), .val (.int s5), .val (.int m5), .val (.int p2), .unset, .unset, .unset] [(.int (64 : Int32))])) rfl (by rw [hml]; rfl) (argsL := [(.int (64 : Int32))]) (rest := []) (lenOf (by decide +kernel : parseMethodDescriptor "(I)Z" = some ⟨[.int], (some .boolean)⟩) rfl) rfl (by show 2 * 0 + _ ≤ _; exact Nat.le_of_eq rfl) (hb hby at_382) (fun _ _ => ⟨rfl, e50, (by show cells + 0 + 0 ≤ 16; omega), (by show slots + 0 + 0 ≤ 128; omega)⟩)
          dsimp only [Pt.U, Pt.locs, Pt.cells, Pt.slots] at X53 l53 y53 z53 st53 hQ53
          replace y53 := y53.symm; replace z53 := z53.symm; subst l53 y53 z53
          obtain ⟨rfl, Nq53, e53⟩ := hQ53
          have N53 := Fr.app N50 Nq53
          have K53 : ∀ t, Steps p.tables e below (T53.setTop (mkF m 385 #[.val (.int p1), .val (.int p2), .val (.ref bl), .val (.ref bh), .val (.int s5), .val (.int m5), .val (.int p2), .unset, .unset, .unset] [(.int (own_f2_0 (64 : Int32)))])) t → Steps p.tables e below S0 t := fun t hk => K52 t (st53 _ hk)
          have hc385 : (own_f2_0 (64 : Int32)) = (0 : Int32) := (by rw [own_f2_0_spec]; decide)
          have K54 : ∀ t, Steps p.tables e below (T53.setTop (mkF m 388 #[.val (.int p1), .val (.int p2), .val (.ref bl), .val (.ref bh), .val (.int s5), .val (.int m5), .val (.int p2), .unset, .unset, .unset] [])) t → Steps p.tables e below S0 t := by
            intro t hk
            refine K53 t ?_
            show Steps p.tables e below (T53.setTop (mkF m 385 #[.val (.int p1), .val (.int p2), .val (.ref bl), .val (.ref bh), .val (.int s5), .val (.int m5), .val (.int p2), .unset, .unset, .unset] [(.int (own_f2_0 (64 : Int32)))])) _
            refine XS.ifNo X53.here hx rfl (hb hby at_385) rfl ((if0 _ _).trans (teq hc385).2) ?_
            exact hk
          have K55 : ∀ t, Steps p.tables e below (T53.setTop (mkF m 390 #[.val (.int p1), .val (.int p2), .val (.ref bl), .val (.ref bh), .val (.int s5), .val (.int m5), .val (.int p2), .unset, .unset, .unset] [(.int (-2147483648 : Int32))])) t → Steps p.tables e below S0 t := by
            intro t hk
            refine K54 t ?_
            show Steps p.tables e below (T53.setTop (mkF m 388 #[.val (.int p1), .val (.int p2), .val (.ref bl), .val (.ref bh), .val (.int s5), .val (.int m5), .val (.int p2), .unset, .unset, .unset] [])) _
            refine X53.ldcInt hx hown (mvT hZ (hw _ (List.mem_of_getElem? (i := 26) rfl))) (g := (mkF m 388 #[.val (.int p1), .val (.int p2), .val (.ref bl), .val (.ref bh), .val (.int s5), .val (.int m5), .val (.int p2), .unset, .unset, .unset] [])) rfl (hb hby at_388) _ ?_
            show Steps p.tables e below (T53.setTop (mkF m 390 #[.val (.int p1), .val (.int p2), .val (.ref bl), .val (.ref bh), .val (.int s5), .val (.int m5), .val (.int p2), .unset, .unset, .unset] [(.int (-2147483648 : Int32))])) _
            exact hk
          obtain ⟨_, _, ⟨T56, L56, k56, n56⟩, -, X56, ⟨Lc56, hQ56, l56, y56, z56⟩, st56⟩ := Jvm.LawKit.callS X53 hx (y := (⟨"com/example/bertilak/bertilak/util/XmlCharsIsNameStartCharPinLaw", "f", "(I)Z"⟩ : MethodName)) hown (mvT hZ (hw _ (List.mem_of_getElem? (i := 9) rfl))) (mvT hZ (hw _ (List.mem_of_getElem? (i := 10) rfl))) (mvT hZ (hw _ (List.mem_of_getElem? (i := 11) rfl))) (mvT hZ (hw _ (List.mem_of_getElem? (i := 12) rfl))) (by decide) (backOf (W := 0) (rm1 l Z a0 hw [] (-2147483648 : Int32)  h0 n0 Z0 ) hZ (hw _ (List.mem_of_getElem? (i := 12) rfl)) (hw _ (List.mem_of_getElem? (i := 11) rfl)) (by decide) (by decide)) (g := (mkF m 390 #[.val (.int p1), .val (.int p2), .val (.ref bl), .val (.ref bh), .val (.int s5), .val (.int m5), .val (.int p2), .unset, .unset, .unset] [(.int (-2147483648 : Int32))])) rfl (by rw [hml]; rfl) (argsL := [(.int (-2147483648 : Int32))]) (rest := []) (lenOf (by decide +kernel : parseMethodDescriptor "(I)Z" = some ⟨[.int], (some .boolean)⟩) rfl) rfl (by show 2 * 0 + _ ≤ _; exact Nat.le_of_eq rfl) (hb hby at_390) (fun _ _ => ⟨rfl, e53, (by show cells + 0 + 0 + 0 ≤ 16; omega), (by show slots + 0 + 0 + 0 ≤ 128; omega)⟩)
          dsimp only [Pt.U, Pt.locs, Pt.cells, Pt.slots] at X56 l56 y56 z56 st56 hQ56
          replace y56 := y56.symm; replace z56 := z56.symm; subst l56 y56 z56
          obtain ⟨rfl, Nq56, e56⟩ := hQ56
          have N56 := Fr.app N53 Nq56
          have K56 : ∀ t, Steps p.tables e below (T56.setTop (mkF m 393 #[.val (.int p1), .val (.int p2), .val (.ref bl), .val (.ref bh), .val (.int s5), .val (.int m5), .val (.int p2), .unset, .unset, .unset] [(.int (own_f2_0 (-2147483648 : Int32)))])) t → Steps p.tables e below S0 t := fun t hk => K55 t (st56 _ hk)
          have hc393 : (own_f2_0 (-2147483648 : Int32)) = (0 : Int32) := (by rw [own_f2_0_spec]; decide)
          have K57 : ∀ t, Steps p.tables e below (T56.setTop (mkF m 396 #[.val (.int p1), .val (.int p2), .val (.ref bl), .val (.ref bh), .val (.int s5), .val (.int m5), .val (.int p2), .unset, .unset, .unset] [])) t → Steps p.tables e below S0 t := by
            intro t hk
            refine K56 t ?_
            show Steps p.tables e below (T56.setTop (mkF m 393 #[.val (.int p1), .val (.int p2), .val (.ref bl), .val (.ref bh), .val (.int s5), .val (.int m5), .val (.int p2), .unset, .unset, .unset] [(.int (own_f2_0 (-2147483648 : Int32)))])) _
            refine XS.ifNo X56.here hx rfl (hb hby at_393) rfl ((if0 _ _).trans (teq hc393).2) ?_
            exact hk
          have K58 : ∀ t, Steps p.tables e below (T56.setTop (mkF m 401 #[.val (.int p1), .val (.int p2), .val (.ref bl), .val (.ref bh), .val (.int s5), .val (.int m5), .val (.int p2), .unset, .unset, .unset] [(.int (1 : Int32))])) t → Steps p.tables e below S0 t := by
            intro t hk
            refine K57 t ?_
            show Steps p.tables e below (T56.setTop (mkF m 396 #[.val (.int p1), .val (.int p2), .val (.ref bl), .val (.ref bh), .val (.int s5), .val (.int m5), .val (.int p2), .unset, .unset, .unset] [])) _
            refine XS.iconst X56.here hx rfl (hb hby at_396) ?_
            show Steps p.tables e below (T56.setTop (mkF m 397 #[.val (.int p1), .val (.int p2), .val (.ref bl), .val (.ref bh), .val (.int s5), .val (.int m5), .val (.int p2), .unset, .unset, .unset] [(.int (1 : Int32))])) _
            refine XS.goto X56.here hx rfl (pc0 := 397) (pc' := 401) rfl (hb hby at_397) (by decide) (by decide) ?_
            show Steps p.tables e below (T56.setTop (mkF m 401 #[.val (.int p1), .val (.int p2), .val (.ref bl), .val (.ref bh), .val (.int s5), .val (.int m5), .val (.int p2), .unset, .unset, .unset] [(.int (1 : Int32))])) _
            exact hk
          obtain ⟨fs, hr, hrun, hended, hW, hsame⟩ := X56.leave (v := some (.int (1 : Int32))) (fun h => by rw [(hret.trans (rfl : ret = some .boolean))] at h; cases h) hlk
          exact ⟨_, _, K58 _ (retN X56 hx (t := .boolean) (hret.trans (rfl : ret = some .boolean)) (by simp) (hb hby at_401) hr), hrun, hended, _, _, rfl, ⟨rfl, N56⟩, ⟨_, rfl⟩, hW, hsame.mono hcb hsb⟩
        · have K59 : ∀ t, Steps p.tables e below (T.setTop (mkF m 366 #[.val (.int p1), .val (.int p2), .val (.ref bl), .val (.ref bh), .val (.int s5), .val (.int m5), .unset, .unset, .unset, .unset] [])) t → Steps p.tables e below S0 t := by
            intro t hk
            refine K46 t ?_
            show Steps p.tables e below (T.setTop (mkF m 359 #[.val (.int p1), .val (.int p2), .val (.ref bl), .val (.ref bh), .val (.int s5), .val (.int m5), .unset, .unset, .unset, .unset] [(.int (65 : Int32)), (.int p2)])) _
            refine XS.icmpYes X.here hx rfl (pc0 := 359) (pc' := 366) rfl (hb hby at_359) rfl (flt hc359).2.1 (by decide) (by decide) ?_
            exact hk
          have c63 : (p2 &&& (63 : Int32)).toInt ≤ 63 := (c_and p2 (63 : Int32) (by decide)).2
          have K60 : ∀ t, Steps p.tables e below (T.setTop (mkF m 370 #[.val (.int p1), .val (.int p2), .val (.ref bl), .val (.ref bh), .val (.int s5), .val (.int m5), .unset, .unset, .unset, .unset] [(.int (p2 &&& (63 : Int32)))])) t → Steps p.tables e below S0 t := by
            intro t hk
            refine K59 t ?_
            show Steps p.tables e below (T.setTop (mkF m 366 #[.val (.int p1), .val (.int p2), .val (.ref bl), .val (.ref bh), .val (.int s5), .val (.int m5), .unset, .unset, .unset, .unset] [])) _
            refine XS.iloadN X.here hx rfl (hb hby at_366) rfl ?_
            show Steps p.tables e below (T.setTop (mkF m 367 #[.val (.int p1), .val (.int p2), .val (.ref bl), .val (.ref bh), .val (.int s5), .val (.int m5), .unset, .unset, .unset, .unset] [(.int p2)])) _
            refine XS.bipush X.here hx rfl (hb hby at_367) ?_
            show Steps p.tables e below (T.setTop (mkF m 369 #[.val (.int p1), .val (.int p2), .val (.ref bl), .val (.ref bh), .val (.int s5), .val (.int m5), .unset, .unset, .unset, .unset] [(.int (63 : Int32)), (.int p2)])) _
            refine XS.iand X.here hx rfl (hb hby at_369) rfl ?_
            show Steps p.tables e below (T.setTop (mkF m 370 #[.val (.int p1), .val (.int p2), .val (.ref bl), .val (.ref bh), .val (.int s5), .val (.int m5), .unset, .unset, .unset, .unset] [(.int (p2 &&& (63 : Int32)))])) _
            exact hk
          have K61 : ∀ t, Steps p.tables e below (T.setTop (mkF m 374 #[.val (.int p1), .val (.int p2), .val (.ref bl), .val (.ref bh), .val (.int s5), .val (.int m5), .val (.int (p2 &&& (63 : Int32))), .unset, .unset, .unset] [(.int (p2 &&& (63 : Int32)))])) t → Steps p.tables e below S0 t := by
            intro t hk
            refine K60 t ?_
            show Steps p.tables e below (T.setTop (mkF m 370 #[.val (.int p1), .val (.int p2), .val (.ref bl), .val (.ref bh), .val (.int s5), .val (.int m5), .unset, .unset, .unset, .unset] [(.int (p2 &&& (63 : Int32)))])) _
            refine XS.istore X.here hx rfl (hb hby at_370) rfl (l' := #[.val (.int p1), .val (.int p2), .val (.ref bl), .val (.ref bh), .val (.int s5), .val (.int m5), .val (.int (p2 &&& (63 : Int32))), .unset, .unset, .unset]) rfl ?_
            show Steps p.tables e below (T.setTop (mkF m 372 #[.val (.int p1), .val (.int p2), .val (.ref bl), .val (.ref bh), .val (.int s5), .val (.int m5), .val (.int (p2 &&& (63 : Int32))), .unset, .unset, .unset] [])) _
            refine XS.iload X.here hx rfl (hb hby at_372) rfl ?_
            show Steps p.tables e below (T.setTop (mkF m 374 #[.val (.int p1), .val (.int p2), .val (.ref bl), .val (.ref bh), .val (.int s5), .val (.int m5), .val (.int (p2 &&& (63 : Int32))), .unset, .unset, .unset] [(.int (p2 &&& (63 : Int32)))])) _
            exact hk
          obtain ⟨_, _, ⟨T62, L62, k62, n62⟩, -, X62, ⟨Lc62, hQ62, l62, y62, z62⟩, st62⟩ := Jvm.LawKit.callS X hx (y := (⟨"com/example/bertilak/bertilak/util/XmlCharsIsNameStartCharPinLaw", "f", "(I)Z"⟩ : MethodName)) hown (mvT hZ (hw _ (List.mem_of_getElem? (i := 9) rfl))) (mvT hZ (hw _ (List.mem_of_getElem? (i := 10) rfl))) (mvT hZ (hw _ (List.mem_of_getElem? (i := 11) rfl))) (mvT hZ (hw _ (List.mem_of_getElem? (i := 12) rfl))) (by decide) (backOf (W := 0) (rm1 l Z a0 hw [] (p2 &&& (63 : Int32))  h0 n0 Z0 ) hZ (hw _ (List.mem_of_getElem? (i := 12) rfl)) (hw _ (List.mem_of_getElem? (i := 11) rfl)) (by decide) (by decide)) (g := (mkF m 374 #[.val (.int p1), .val (.int p2), .val (.ref bl), .val (.ref bh), .val (.int s5), .val (.int m5), .val (.int (p2 &&& (63 : Int32))), .unset, .unset, .unset] [(.int (p2 &&& (63 : Int32)))])) rfl (by rw [hml]; rfl) (argsL := [(.int (p2 &&& (63 : Int32)))]) (rest := []) (lenOf (by decide +kernel : parseMethodDescriptor "(I)Z" = some ⟨[.int], (some .boolean)⟩) rfl) rfl (by show 2 * 0 + _ ≤ _; exact Nat.le_of_eq rfl) (hb hby at_374) (fun _ _ => ⟨rfl, e0, (by show cells + 0 ≤ 16; omega), (by show slots + 0 ≤ 128; omega)⟩)
          dsimp only [Pt.U, Pt.locs, Pt.cells, Pt.slots] at X62 l62 y62 z62 st62 hQ62
          replace y62 := y62.symm; replace z62 := z62.symm; subst l62 y62 z62
          obtain ⟨rfl, Nq62, e62⟩ := hQ62
          have N62 := Fr.app N0 Nq62
          have K62 : ∀ t, Steps p.tables e below (T62.setTop (mkF m 377 #[.val (.int p1), .val (.int p2), .val (.ref bl), .val (.ref bh), .val (.int s5), .val (.int m5), .val (.int (p2 &&& (63 : Int32))), .unset, .unset, .unset] [(.int (own_f2_0 (p2 &&& (63 : Int32))))])) t → Steps p.tables e below S0 t := fun t hk => K61 t (st62 _ hk)
          have hc377 : (own_f2_0 (p2 &&& (63 : Int32))) = (0 : Int32) := (by rw [own_f2_0_spec]; rw [if_neg (by omega)])
          have K63 : ∀ t, Steps p.tables e below (T62.setTop (mkF m 380 #[.val (.int p1), .val (.int p2), .val (.ref bl), .val (.ref bh), .val (.int s5), .val (.int m5), .val (.int (p2 &&& (63 : Int32))), .unset, .unset, .unset] [])) t → Steps p.tables e below S0 t := by
            intro t hk
            refine K62 t ?_
            show Steps p.tables e below (T62.setTop (mkF m 377 #[.val (.int p1), .val (.int p2), .val (.ref bl), .val (.ref bh), .val (.int s5), .val (.int m5), .val (.int (p2 &&& (63 : Int32))), .unset, .unset, .unset] [(.int (own_f2_0 (p2 &&& (63 : Int32))))])) _
            refine XS.ifNo X62.here hx rfl (hb hby at_377) rfl ((if0 _ _).trans (teq hc377).2) ?_
            exact hk
          have K64 : ∀ t, Steps p.tables e below (T62.setTop (mkF m 382 #[.val (.int p1), .val (.int p2), .val (.ref bl), .val (.ref bh), .val (.int s5), .val (.int m5), .val (.int (p2 &&& (63 : Int32))), .unset, .unset, .unset] [(.int (64 : Int32))])) t → Steps p.tables e below S0 t := by
            intro t hk
            refine K63 t ?_
            show Steps p.tables e below (T62.setTop (mkF m 380 #[.val (.int p1), .val (.int p2), .val (.ref bl), .val (.ref bh), .val (.int s5), .val (.int m5), .val (.int (p2 &&& (63 : Int32))), .unset, .unset, .unset] [])) _
            refine XS.bipush X62.here hx rfl (hb hby at_380) ?_
            show Steps p.tables e below (T62.setTop (mkF m 382 #[.val (.int p1), .val (.int p2), .val (.ref bl), .val (.ref bh), .val (.int s5), .val (.int m5), .val (.int (p2 &&& (63 : Int32))), .unset, .unset, .unset] [(.int (64 : Int32))])) _
            exact hk
          obtain ⟨_, _, ⟨T65, L65, k65, n65⟩, -, X65, ⟨Lc65, hQ65, l65, y65, z65⟩, st65⟩ := Jvm.LawKit.callS X62 hx (y := (⟨"com/example/bertilak/bertilak/util/XmlCharsIsNameStartCharPinLaw", "f", "(I)Z"⟩ : MethodName)) hown (mvT hZ (hw _ (List.mem_of_getElem? (i := 9) rfl))) (mvT hZ (hw _ (List.mem_of_getElem? (i := 10) rfl))) (mvT hZ (hw _ (List.mem_of_getElem? (i := 11) rfl))) (mvT hZ (hw _ (List.mem_of_getElem? (i := 12) rfl))) (by decide) (backOf (W := 0) (rm1 l Z a0 hw [] (64 : Int32)  h0 n0 Z0 ) hZ (hw _ (List.mem_of_getElem? (i := 12) rfl)) (hw _ (List.mem_of_getElem? (i := 11) rfl)) (by decide) (by decide)) (g := (mkF m 382 #[.val (.int p1), .val (.int p2), .val (.ref bl), .val (.ref bh), .val (.int s5), .val (.int m5), .val (.int (p2 &&& (63 : Int32))), .unset, .unset, .unset] [(.int (64 : Int32))])) rfl (by rw [hml]; rfl) (argsL := [(.int (64 : Int32))]) (rest := []) (lenOf (by decide +kernel : parseMethodDescriptor "(I)Z" = some ⟨[.int], (some .boolean)⟩) rfl) rfl (by show 2 * 0 + _ ≤ _; exact Nat.le_of_eq rfl) (hb hby at_382) (fun _ _ => ⟨rfl, e62, (by show cells + 0 + 0 ≤ 16; omega), (by show slots + 0 + 0 ≤ 128; omega)⟩)
          dsimp only [Pt.U, Pt.locs, Pt.cells, Pt.slots] at X65 l65 y65 z65 st65 hQ65
          replace y65 := y65.symm; replace z65 := z65.symm; subst l65 y65 z65
          obtain ⟨rfl, Nq65, e65⟩ := hQ65
          have N65 := Fr.app N62 Nq65
          have K65 : ∀ t, Steps p.tables e below (T65.setTop (mkF m 385 #[.val (.int p1), .val (.int p2), .val (.ref bl), .val (.ref bh), .val (.int s5), .val (.int m5), .val (.int (p2 &&& (63 : Int32))), .unset, .unset, .unset] [(.int (own_f2_0 (64 : Int32)))])) t → Steps p.tables e below S0 t := fun t hk => K64 t (st65 _ hk)
          have hc385 : (own_f2_0 (64 : Int32)) = (0 : Int32) := (by rw [own_f2_0_spec]; decide)
          have K66 : ∀ t, Steps p.tables e below (T65.setTop (mkF m 388 #[.val (.int p1), .val (.int p2), .val (.ref bl), .val (.ref bh), .val (.int s5), .val (.int m5), .val (.int (p2 &&& (63 : Int32))), .unset, .unset, .unset] [])) t → Steps p.tables e below S0 t := by
            intro t hk
            refine K65 t ?_
            show Steps p.tables e below (T65.setTop (mkF m 385 #[.val (.int p1), .val (.int p2), .val (.ref bl), .val (.ref bh), .val (.int s5), .val (.int m5), .val (.int (p2 &&& (63 : Int32))), .unset, .unset, .unset] [(.int (own_f2_0 (64 : Int32)))])) _
            refine XS.ifNo X65.here hx rfl (hb hby at_385) rfl ((if0 _ _).trans (teq hc385).2) ?_
            exact hk
          have K67 : ∀ t, Steps p.tables e below (T65.setTop (mkF m 390 #[.val (.int p1), .val (.int p2), .val (.ref bl), .val (.ref bh), .val (.int s5), .val (.int m5), .val (.int (p2 &&& (63 : Int32))), .unset, .unset, .unset] [(.int (-2147483648 : Int32))])) t → Steps p.tables e below S0 t := by
            intro t hk
            refine K66 t ?_
            show Steps p.tables e below (T65.setTop (mkF m 388 #[.val (.int p1), .val (.int p2), .val (.ref bl), .val (.ref bh), .val (.int s5), .val (.int m5), .val (.int (p2 &&& (63 : Int32))), .unset, .unset, .unset] [])) _
            refine X65.ldcInt hx hown (mvT hZ (hw _ (List.mem_of_getElem? (i := 26) rfl))) (g := (mkF m 388 #[.val (.int p1), .val (.int p2), .val (.ref bl), .val (.ref bh), .val (.int s5), .val (.int m5), .val (.int (p2 &&& (63 : Int32))), .unset, .unset, .unset] [])) rfl (hb hby at_388) _ ?_
            show Steps p.tables e below (T65.setTop (mkF m 390 #[.val (.int p1), .val (.int p2), .val (.ref bl), .val (.ref bh), .val (.int s5), .val (.int m5), .val (.int (p2 &&& (63 : Int32))), .unset, .unset, .unset] [(.int (-2147483648 : Int32))])) _
            exact hk
          obtain ⟨_, _, ⟨T68, L68, k68, n68⟩, -, X68, ⟨Lc68, hQ68, l68, y68, z68⟩, st68⟩ := Jvm.LawKit.callS X65 hx (y := (⟨"com/example/bertilak/bertilak/util/XmlCharsIsNameStartCharPinLaw", "f", "(I)Z"⟩ : MethodName)) hown (mvT hZ (hw _ (List.mem_of_getElem? (i := 9) rfl))) (mvT hZ (hw _ (List.mem_of_getElem? (i := 10) rfl))) (mvT hZ (hw _ (List.mem_of_getElem? (i := 11) rfl))) (mvT hZ (hw _ (List.mem_of_getElem? (i := 12) rfl))) (by decide) (backOf (W := 0) (rm1 l Z a0 hw [] (-2147483648 : Int32)  h0 n0 Z0 ) hZ (hw _ (List.mem_of_getElem? (i := 12) rfl)) (hw _ (List.mem_of_getElem? (i := 11) rfl)) (by decide) (by decide)) (g := (mkF m 390 #[.val (.int p1), .val (.int p2), .val (.ref bl), .val (.ref bh), .val (.int s5), .val (.int m5), .val (.int (p2 &&& (63 : Int32))), .unset, .unset, .unset] [(.int (-2147483648 : Int32))])) rfl (by rw [hml]; rfl) (argsL := [(.int (-2147483648 : Int32))]) (rest := []) (lenOf (by decide +kernel : parseMethodDescriptor "(I)Z" = some ⟨[.int], (some .boolean)⟩) rfl) rfl (by show 2 * 0 + _ ≤ _; exact Nat.le_of_eq rfl) (hb hby at_390) (fun _ _ => ⟨rfl, e65, (by show cells + 0 + 0 + 0 ≤ 16; omega), (by show slots + 0 + 0 + 0 ≤ 128; omega)⟩)
          dsimp only [Pt.U, Pt.locs, Pt.cells, Pt.slots] at X68 l68 y68 z68 st68 hQ68
          replace y68 := y68.symm; replace z68 := z68.symm; subst l68 y68 z68
          obtain ⟨rfl, Nq68, e68⟩ := hQ68
          have N68 := Fr.app N65 Nq68
          have K68 : ∀ t, Steps p.tables e below (T68.setTop (mkF m 393 #[.val (.int p1), .val (.int p2), .val (.ref bl), .val (.ref bh), .val (.int s5), .val (.int m5), .val (.int (p2 &&& (63 : Int32))), .unset, .unset, .unset] [(.int (own_f2_0 (-2147483648 : Int32)))])) t → Steps p.tables e below S0 t := fun t hk => K67 t (st68 _ hk)
          have hc393 : (own_f2_0 (-2147483648 : Int32)) = (0 : Int32) := (by rw [own_f2_0_spec]; decide)
          have K69 : ∀ t, Steps p.tables e below (T68.setTop (mkF m 396 #[.val (.int p1), .val (.int p2), .val (.ref bl), .val (.ref bh), .val (.int s5), .val (.int m5), .val (.int (p2 &&& (63 : Int32))), .unset, .unset, .unset] [])) t → Steps p.tables e below S0 t := by
            intro t hk
            refine K68 t ?_
            show Steps p.tables e below (T68.setTop (mkF m 393 #[.val (.int p1), .val (.int p2), .val (.ref bl), .val (.ref bh), .val (.int s5), .val (.int m5), .val (.int (p2 &&& (63 : Int32))), .unset, .unset, .unset] [(.int (own_f2_0 (-2147483648 : Int32)))])) _
            refine XS.ifNo X68.here hx rfl (hb hby at_393) rfl ((if0 _ _).trans (teq hc393).2) ?_
            exact hk
          have K70 : ∀ t, Steps p.tables e below (T68.setTop (mkF m 401 #[.val (.int p1), .val (.int p2), .val (.ref bl), .val (.ref bh), .val (.int s5), .val (.int m5), .val (.int (p2 &&& (63 : Int32))), .unset, .unset, .unset] [(.int (1 : Int32))])) t → Steps p.tables e below S0 t := by
            intro t hk
            refine K69 t ?_
            show Steps p.tables e below (T68.setTop (mkF m 396 #[.val (.int p1), .val (.int p2), .val (.ref bl), .val (.ref bh), .val (.int s5), .val (.int m5), .val (.int (p2 &&& (63 : Int32))), .unset, .unset, .unset] [])) _
            refine XS.iconst X68.here hx rfl (hb hby at_396) ?_
            show Steps p.tables e below (T68.setTop (mkF m 397 #[.val (.int p1), .val (.int p2), .val (.ref bl), .val (.ref bh), .val (.int s5), .val (.int m5), .val (.int (p2 &&& (63 : Int32))), .unset, .unset, .unset] [(.int (1 : Int32))])) _
            refine XS.goto X68.here hx rfl (pc0 := 397) (pc' := 401) rfl (hb hby at_397) (by decide) (by decide) ?_
            show Steps p.tables e below (T68.setTop (mkF m 401 #[.val (.int p1), .val (.int p2), .val (.ref bl), .val (.ref bh), .val (.int s5), .val (.int m5), .val (.int (p2 &&& (63 : Int32))), .unset, .unset, .unset] [(.int (1 : Int32))])) _
            exact hk
          obtain ⟨fs, hr, hrun, hended, hW, hsame⟩ := X68.leave (v := some (.int (1 : Int32))) (fun h => by rw [(hret.trans (rfl : ret = some .boolean))] at h; cases h) hlk
          exact ⟨_, _, K70 _ (retN X68 hx (t := .boolean) (hret.trans (rfl : ret = some .boolean)) (by simp) (hb hby at_401) hr), hrun, hended, _, _, rfl, ⟨rfl, N68⟩, ⟨_, rfl⟩, hW, hsame.mono hcb hsb⟩
      · have K71 : ∀ t, Steps p.tables e below (T.setTop (mkF m 402 #[.val (.int p1), .val (.int p2), .val (.ref bl), .val (.ref bh), .val (.int s5), .val (.int m5), .unset, .unset, .unset, .unset] [])) t → Steps p.tables e below S0 t := by
          intro t hk
          refine K44 t ?_
          show Steps p.tables e below (T.setTop (mkF m 353 #[.val (.int p1), .val (.int p2), .val (.ref bl), .val (.ref bh), .val (.int s5), .val (.int m5), .unset, .unset, .unset, .unset] [(.int (29 : Int32)), (.int s5)])) _
          refine XS.icmpYes X.here hx rfl (pc0 := 353) (pc' := 402) rfl (hb hby at_353) rfl (feq hc353).2 (by decide) (by decide) ?_
          exact hk
        have K72 : ∀ t, Steps p.tables e below (T.setTop (mkF m 405 #[.val (.int p1), .val (.int p2), .val (.ref bl), .val (.ref bh), .val (.int s5), .val (.int m5), .unset, .unset, .unset, .unset] [(.int (983039 : Int32)), (.int p2)])) t → Steps p.tables e below S0 t := by
          intro t hk
          refine K71 t ?_
          show Steps p.tables e below (T.setTop (mkF m 402 #[.val (.int p1), .val (.int p2), .val (.ref bl), .val (.ref bh), .val (.int s5), .val (.int m5), .unset, .unset, .unset, .unset] [])) _
          refine XS.iloadN X.here hx rfl (hb hby at_402) rfl ?_
          show Steps p.tables e below (T.setTop (mkF m 403 #[.val (.int p1), .val (.int p2), .val (.ref bl), .val (.ref bh), .val (.int s5), .val (.int m5), .unset, .unset, .unset, .unset] [(.int p2)])) _
          refine X.ldcInt hx hown (mvT hZ (hw _ (List.mem_of_getElem? (i := 7) rfl))) (g := (mkF m 403 #[.val (.int p1), .val (.int p2), .val (.ref bl), .val (.ref bh), .val (.int s5), .val (.int m5), .unset, .unset, .unset, .unset] [(.int p2)])) rfl (hb hby at_403) _ ?_
          show Steps p.tables e below (T.setTop (mkF m 405 #[.val (.int p1), .val (.int p2), .val (.ref bl), .val (.ref bh), .val (.int s5), .val (.int m5), .unset, .unset, .unset, .unset] [(.int (983039 : Int32)), (.int p2)])) _
          exact hk
        by_cases hc405 : (983039 : Int32) < p2
        · have K73 : ∀ t, Steps p.tables e below (T.setTop (mkF m 408 #[.val (.int p1), .val (.int p2), .val (.ref bl), .val (.ref bh), .val (.int s5), .val (.int m5), .unset, .unset, .unset, .unset] [])) t → Steps p.tables e below S0 t := by
            intro t hk
            refine K72 t ?_
            show Steps p.tables e below (T.setTop (mkF m 405 #[.val (.int p1), .val (.int p2), .val (.ref bl), .val (.ref bh), .val (.int s5), .val (.int m5), .unset, .unset, .unset, .unset] [(.int (983039 : Int32)), (.int p2)])) _
            refine XS.icmpNo X.here hx rfl (hb hby at_405) rfl (tlt hc405).2.2.2 ?_
            exact hk
          have c65 : 983039 < p2.toInt := by rw [Int32.lt_iff_toInt_lt] at hc405; exact hc405
          have K74 : ∀ t, Steps p.tables e below (T.setTop (mkF m 423 #[.val (.int p1), .val (.int p2), .val (.ref bl), .val (.ref bh), .val (.int s5), .val (.int m5), .val (.int p2), .unset, .unset, .unset] [(.int p2)])) t → Steps p.tables e below S0 t := by
            intro t hk
            refine K73 t ?_
            show Steps p.tables e below (T.setTop (mkF m 408 #[.val (.int p1), .val (.int p2), .val (.ref bl), .val (.ref bh), .val (.int s5), .val (.int m5), .unset, .unset, .unset, .unset] [])) _
            refine XS.iloadN X.here hx rfl (hb hby at_408) rfl ?_
            show Steps p.tables e below (T.setTop (mkF m 409 #[.val (.int p1), .val (.int p2), .val (.ref bl), .val (.ref bh), .val (.int s5), .val (.int m5), .unset, .unset, .unset, .unset] [(.int p2)])) _
            refine XS.goto X.here hx rfl (pc0 := 409) (pc' := 419) rfl (hb hby at_409) (by decide) (by decide) ?_
            show Steps p.tables e below (T.setTop (mkF m 419 #[.val (.int p1), .val (.int p2), .val (.ref bl), .val (.ref bh), .val (.int s5), .val (.int m5), .unset, .unset, .unset, .unset] [(.int p2)])) _
            refine XS.istore X.here hx rfl (hb hby at_419) rfl (l' := #[.val (.int p1), .val (.int p2), .val (.ref bl), .val (.ref bh), .val (.int s5), .val (.int m5), .val (.int p2), .unset, .unset, .unset]) rfl ?_
            show Steps p.tables e below (T.setTop (mkF m 421 #[.val (.int p1), .val (.int p2), .val (.ref bl), .val (.ref bh), .val (.int s5), .val (.int m5), .val (.int p2), .unset, .unset, .unset] [])) _
            refine XS.iload X.here hx rfl (hb hby at_421) rfl ?_
            show Steps p.tables e below (T.setTop (mkF m 423 #[.val (.int p1), .val (.int p2), .val (.ref bl), .val (.ref bh), .val (.int s5), .val (.int m5), .val (.int p2), .unset, .unset, .unset] [(.int p2)])) _
            exact hk
          obtain ⟨_, _, ⟨T75, L75, k75, n75⟩, -, X75, ⟨Lc75, hQ75, l75, y75, z75⟩, st75⟩ := Jvm.LawKit.callS X hx (y := (⟨"com/example/bertilak/bertilak/util/XmlCharsIsNameStartCharPinLaw", "f", "(I)Z"⟩ : MethodName)) hown (mvT hZ (hw _ (List.mem_of_getElem? (i := 9) rfl))) (mvT hZ (hw _ (List.mem_of_getElem? (i := 10) rfl))) (mvT hZ (hw _ (List.mem_of_getElem? (i := 11) rfl))) (mvT hZ (hw _ (List.mem_of_getElem? (i := 12) rfl))) (by decide) (backOf (W := 0) (rm1 l Z a0 hw [] p2  h0 n0 Z0 ) hZ (hw _ (List.mem_of_getElem? (i := 12) rfl)) (hw _ (List.mem_of_getElem? (i := 11) rfl)) (by decide) (by decide)) (g := (mkF m 423 #[.val (.int p1), .val (.int p2), .val (.ref bl), .val (.ref bh), .val (.int s5), .val (.int m5), .val (.int p2), .unset, .unset, .unset] [(.int p2)])) rfl (by rw [hml]; rfl) (argsL := [(.int p2)]) (rest := []) (lenOf (by decide +kernel : parseMethodDescriptor "(I)Z" = some ⟨[.int], (some .boolean)⟩) rfl) rfl (by show 2 * 0 + _ ≤ _; exact Nat.le_of_eq rfl) (hb hby at_423) (fun _ _ => ⟨rfl, e0, (by show cells + 0 ≤ 16; omega), (by show slots + 0 ≤ 128; omega)⟩)
          dsimp only [Pt.U, Pt.locs, Pt.cells, Pt.slots] at X75 l75 y75 z75 st75 hQ75
          replace y75 := y75.symm; replace z75 := z75.symm; subst l75 y75 z75
          obtain ⟨rfl, Nq75, e75⟩ := hQ75
          have N75 := Fr.app N0 Nq75
          have K75 : ∀ t, Steps p.tables e below (T75.setTop (mkF m 426 #[.val (.int p1), .val (.int p2), .val (.ref bl), .val (.ref bh), .val (.int s5), .val (.int m5), .val (.int p2), .unset, .unset, .unset] [(.int (own_f2_0 p2))])) t → Steps p.tables e below S0 t := fun t hk => K74 t (st75 _ hk)
          have hc426 : (own_f2_0 p2) = (0 : Int32) := (by rw [own_f2_0_spec]; rw [if_neg (by omega)])
          have K76 : ∀ t, Steps p.tables e below (T75.setTop (mkF m 429 #[.val (.int p1), .val (.int p2), .val (.ref bl), .val (.ref bh), .val (.int s5), .val (.int m5), .val (.int p2), .unset, .unset, .unset] [])) t → Steps p.tables e below S0 t := by
            intro t hk
            refine K75 t ?_
            show Steps p.tables e below (T75.setTop (mkF m 426 #[.val (.int p1), .val (.int p2), .val (.ref bl), .val (.ref bh), .val (.int s5), .val (.int m5), .val (.int p2), .unset, .unset, .unset] [(.int (own_f2_0 p2))])) _
            refine XS.ifNo X75.here hx rfl (hb hby at_426) rfl ((if0 _ _).trans (teq hc426).2) ?_
            exact hk
          have K77 : ∀ t, Steps p.tables e below (T75.setTop (mkF m 431 #[.val (.int p1), .val (.int p2), .val (.ref bl), .val (.ref bh), .val (.int s5), .val (.int m5), .val (.int p2), .unset, .unset, .unset] [(.int (983040 : Int32))])) t → Steps p.tables e below S0 t := by
            intro t hk
            refine K76 t ?_
            show Steps p.tables e below (T75.setTop (mkF m 429 #[.val (.int p1), .val (.int p2), .val (.ref bl), .val (.ref bh), .val (.int s5), .val (.int m5), .val (.int p2), .unset, .unset, .unset] [])) _
            refine X75.ldcInt hx hown (mvT hZ (hw _ (List.mem_of_getElem? (i := 24) rfl))) (g := (mkF m 429 #[.val (.int p1), .val (.int p2), .val (.ref bl), .val (.ref bh), .val (.int s5), .val (.int m5), .val (.int p2), .unset, .unset, .unset] [])) rfl (hb hby at_429) _ ?_
            show Steps p.tables e below (T75.setTop (mkF m 431 #[.val (.int p1), .val (.int p2), .val (.ref bl), .val (.ref bh), .val (.int s5), .val (.int m5), .val (.int p2), .unset, .unset, .unset] [(.int (983040 : Int32))])) _
            exact hk
          obtain ⟨_, _, ⟨T78, L78, k78, n78⟩, -, X78, ⟨Lc78, hQ78, l78, y78, z78⟩, st78⟩ := Jvm.LawKit.callS X75 hx (y := (⟨"com/example/bertilak/bertilak/util/XmlCharsIsNameStartCharPinLaw", "f", "(I)Z"⟩ : MethodName)) hown (mvT hZ (hw _ (List.mem_of_getElem? (i := 9) rfl))) (mvT hZ (hw _ (List.mem_of_getElem? (i := 10) rfl))) (mvT hZ (hw _ (List.mem_of_getElem? (i := 11) rfl))) (mvT hZ (hw _ (List.mem_of_getElem? (i := 12) rfl))) (by decide) (backOf (W := 0) (rm1 l Z a0 hw [] (983040 : Int32)  h0 n0 Z0 ) hZ (hw _ (List.mem_of_getElem? (i := 12) rfl)) (hw _ (List.mem_of_getElem? (i := 11) rfl)) (by decide) (by decide)) (g := (mkF m 431 #[.val (.int p1), .val (.int p2), .val (.ref bl), .val (.ref bh), .val (.int s5), .val (.int m5), .val (.int p2), .unset, .unset, .unset] [(.int (983040 : Int32))])) rfl (by rw [hml]; rfl) (argsL := [(.int (983040 : Int32))]) (rest := []) (lenOf (by decide +kernel : parseMethodDescriptor "(I)Z" = some ⟨[.int], (some .boolean)⟩) rfl) rfl (by show 2 * 0 + _ ≤ _; exact Nat.le_of_eq rfl) (hb hby at_431) (fun _ _ => ⟨rfl, e75, (by show cells + 0 + 0 ≤ 16; omega), (by show slots + 0 + 0 ≤ 128; omega)⟩)
          dsimp only [Pt.U, Pt.locs, Pt.cells, Pt.slots] at X78 l78 y78 z78 st78 hQ78
          replace y78 := y78.symm; replace z78 := z78.symm; subst l78 y78 z78
          obtain ⟨rfl, Nq78, e78⟩ := hQ78
          have N78 := Fr.app N75 Nq78
          have K78 : ∀ t, Steps p.tables e below (T78.setTop (mkF m 434 #[.val (.int p1), .val (.int p2), .val (.ref bl), .val (.ref bh), .val (.int s5), .val (.int m5), .val (.int p2), .unset, .unset, .unset] [(.int (own_f2_0 (983040 : Int32)))])) t → Steps p.tables e below S0 t := fun t hk => K77 t (st78 _ hk)
          have hc434 : (own_f2_0 (983040 : Int32)) = (0 : Int32) := (by rw [own_f2_0_spec]; decide)
          have K79 : ∀ t, Steps p.tables e below (T78.setTop (mkF m 437 #[.val (.int p1), .val (.int p2), .val (.ref bl), .val (.ref bh), .val (.int s5), .val (.int m5), .val (.int p2), .unset, .unset, .unset] [])) t → Steps p.tables e below S0 t := by
            intro t hk
            refine K78 t ?_
            show Steps p.tables e below (T78.setTop (mkF m 434 #[.val (.int p1), .val (.int p2), .val (.ref bl), .val (.ref bh), .val (.int s5), .val (.int m5), .val (.int p2), .unset, .unset, .unset] [(.int (own_f2_0 (983040 : Int32)))])) _
            refine XS.ifNo X78.here hx rfl (hb hby at_434) rfl ((if0 _ _).trans (teq hc434).2) ?_
            exact hk
          have K80 : ∀ t, Steps p.tables e below (T78.setTop (mkF m 439 #[.val (.int p1), .val (.int p2), .val (.ref bl), .val (.ref bh), .val (.int s5), .val (.int m5), .val (.int p2), .unset, .unset, .unset] [(.int (2147483647 : Int32))])) t → Steps p.tables e below S0 t := by
            intro t hk
            refine K79 t ?_
            show Steps p.tables e below (T78.setTop (mkF m 437 #[.val (.int p1), .val (.int p2), .val (.ref bl), .val (.ref bh), .val (.int s5), .val (.int m5), .val (.int p2), .unset, .unset, .unset] [])) _
            refine X78.ldcInt hx hown (mvT hZ (hw _ (List.mem_of_getElem? (i := 8) rfl))) (g := (mkF m 437 #[.val (.int p1), .val (.int p2), .val (.ref bl), .val (.ref bh), .val (.int s5), .val (.int m5), .val (.int p2), .unset, .unset, .unset] [])) rfl (hb hby at_437) _ ?_
            show Steps p.tables e below (T78.setTop (mkF m 439 #[.val (.int p1), .val (.int p2), .val (.ref bl), .val (.ref bh), .val (.int s5), .val (.int m5), .val (.int p2), .unset, .unset, .unset] [(.int (2147483647 : Int32))])) _
            exact hk
          obtain ⟨_, _, ⟨T81, L81, k81, n81⟩, -, X81, ⟨Lc81, hQ81, l81, y81, z81⟩, st81⟩ := Jvm.LawKit.callS X78 hx (y := (⟨"com/example/bertilak/bertilak/util/XmlCharsIsNameStartCharPinLaw", "f", "(I)Z"⟩ : MethodName)) hown (mvT hZ (hw _ (List.mem_of_getElem? (i := 9) rfl))) (mvT hZ (hw _ (List.mem_of_getElem? (i := 10) rfl))) (mvT hZ (hw _ (List.mem_of_getElem? (i := 11) rfl))) (mvT hZ (hw _ (List.mem_of_getElem? (i := 12) rfl))) (by decide) (backOf (W := 0) (rm1 l Z a0 hw [] (2147483647 : Int32)  h0 n0 Z0 ) hZ (hw _ (List.mem_of_getElem? (i := 12) rfl)) (hw _ (List.mem_of_getElem? (i := 11) rfl)) (by decide) (by decide)) (g := (mkF m 439 #[.val (.int p1), .val (.int p2), .val (.ref bl), .val (.ref bh), .val (.int s5), .val (.int m5), .val (.int p2), .unset, .unset, .unset] [(.int (2147483647 : Int32))])) rfl (by rw [hml]; rfl) (argsL := [(.int (2147483647 : Int32))]) (rest := []) (lenOf (by decide +kernel : parseMethodDescriptor "(I)Z" = some ⟨[.int], (some .boolean)⟩) rfl) rfl (by show 2 * 0 + _ ≤ _; exact Nat.le_of_eq rfl) (hb hby at_439) (fun _ _ => ⟨rfl, e78, (by show cells + 0 + 0 + 0 ≤ 16; omega), (by show slots + 0 + 0 + 0 ≤ 128; omega)⟩)
          dsimp only [Pt.U, Pt.locs, Pt.cells, Pt.slots] at X81 l81 y81 z81 st81 hQ81
          replace y81 := y81.symm; replace z81 := z81.symm; subst l81 y81 z81
          obtain ⟨rfl, Nq81, e81⟩ := hQ81
          have N81 := Fr.app N78 Nq81
          have K81 : ∀ t, Steps p.tables e below (T81.setTop (mkF m 442 #[.val (.int p1), .val (.int p2), .val (.ref bl), .val (.ref bh), .val (.int s5), .val (.int m5), .val (.int p2), .unset, .unset, .unset] [(.int (own_f2_0 (2147483647 : Int32)))])) t → Steps p.tables e below S0 t := fun t hk => K80 t (st81 _ hk)
          have hc442 : (own_f2_0 (2147483647 : Int32)) = (0 : Int32) := (by rw [own_f2_0_spec]; decide)
          have K82 : ∀ t, Steps p.tables e below (T81.setTop (mkF m 445 #[.val (.int p1), .val (.int p2), .val (.ref bl), .val (.ref bh), .val (.int s5), .val (.int m5), .val (.int p2), .unset, .unset, .unset] [])) t → Steps p.tables e below S0 t := by
            intro t hk
            refine K81 t ?_
            show Steps p.tables e below (T81.setTop (mkF m 442 #[.val (.int p1), .val (.int p2), .val (.ref bl), .val (.ref bh), .val (.int s5), .val (.int m5), .val (.int p2), .unset, .unset, .unset] [(.int (own_f2_0 (2147483647 : Int32)))])) _
            refine XS.ifNo X81.here hx rfl (hb hby at_442) rfl ((if0 _ _).trans (teq hc442).2) ?_
            exact hk
          have K83 : ∀ t, Steps p.tables e below (T81.setTop (mkF m 450 #[.val (.int p1), .val (.int p2), .val (.ref bl), .val (.ref bh), .val (.int s5), .val (.int m5), .val (.int p2), .unset, .unset, .unset] [(.int (1 : Int32))])) t → Steps p.tables e below S0 t := by
            intro t hk
            refine K82 t ?_
            show Steps p.tables e below (T81.setTop (mkF m 445 #[.val (.int p1), .val (.int p2), .val (.ref bl), .val (.ref bh), .val (.int s5), .val (.int m5), .val (.int p2), .unset, .unset, .unset] [])) _
            refine XS.iconst X81.here hx rfl (hb hby at_445) ?_
            show Steps p.tables e below (T81.setTop (mkF m 446 #[.val (.int p1), .val (.int p2), .val (.ref bl), .val (.ref bh), .val (.int s5), .val (.int m5), .val (.int p2), .unset, .unset, .unset] [(.int (1 : Int32))])) _
            refine XS.goto X81.here hx rfl (pc0 := 446) (pc' := 450) rfl (hb hby at_446) (by decide) (by decide) ?_
            show Steps p.tables e below (T81.setTop (mkF m 450 #[.val (.int p1), .val (.int p2), .val (.ref bl), .val (.ref bh), .val (.int s5), .val (.int m5), .val (.int p2), .unset, .unset, .unset] [(.int (1 : Int32))])) _
            exact hk
          obtain ⟨fs, hr, hrun, hended, hW, hsame⟩ := X81.leave (v := some (.int (1 : Int32))) (fun h => by rw [(hret.trans (rfl : ret = some .boolean))] at h; cases h) hlk
          exact ⟨_, _, K83 _ (retN X81 hx (t := .boolean) (hret.trans (rfl : ret = some .boolean)) (by simp) (hb hby at_450) hr), hrun, hended, _, _, rfl, ⟨rfl, N81⟩, ⟨_, rfl⟩, hW, hsame.mono hcb hsb⟩
        · have K84 : ∀ t, Steps p.tables e below (T.setTop (mkF m 412 #[.val (.int p1), .val (.int p2), .val (.ref bl), .val (.ref bh), .val (.int s5), .val (.int m5), .unset, .unset, .unset, .unset] [])) t → Steps p.tables e below S0 t := by
            intro t hk
            refine K72 t ?_
            show Steps p.tables e below (T.setTop (mkF m 405 #[.val (.int p1), .val (.int p2), .val (.ref bl), .val (.ref bh), .val (.int s5), .val (.int m5), .unset, .unset, .unset, .unset] [(.int (983039 : Int32)), (.int p2)])) _
            refine XS.icmpYes X.here hx rfl (pc0 := 405) (pc' := 412) rfl (hb hby at_405) rfl (flt hc405).2.2.2 (by decide) (by decide) ?_
            exact hk
          have c63 := c_and p2 (65535 : Int32) (by decide)
          have c64 : ((983040 : Int32) + (p2 &&& (65535 : Int32))).toInt = 983040 + (p2 &&& (65535 : Int32)).toInt := by
            have e1 : (983040 : Int32).toInt = 983040 := by decide
            have e2 : (65535 : Int32).toInt = 65535 := by decide
            rw [(Int32.toInt_add _ _).trans (Int.bmod_eq_of_le (by omega) (by omega)), e1]
          have K85 : ∀ t, Steps p.tables e below (T.setTop (mkF m 423 #[.val (.int p1), .val (.int p2), .val (.ref bl), .val (.ref bh), .val (.int s5), .val (.int m5), .val (.int ((983040 : Int32) + (p2 &&& (65535 : Int32)))), .unset, .unset, .unset] [(.int ((983040 : Int32) + (p2 &&& (65535 : Int32))))])) t → Steps p.tables e below S0 t := by
            intro t hk
            refine K84 t ?_
            show Steps p.tables e below (T.setTop (mkF m 412 #[.val (.int p1), .val (.int p2), .val (.ref bl), .val (.ref bh), .val (.int s5), .val (.int m5), .unset, .unset, .unset, .unset] [])) _
            refine X.ldcInt hx hown (mvT hZ (hw _ (List.mem_of_getElem? (i := 24) rfl))) (g := (mkF m 412 #[.val (.int p1), .val (.int p2), .val (.ref bl), .val (.ref bh), .val (.int s5), .val (.int m5), .unset, .unset, .unset, .unset] [])) rfl (hb hby at_412) _ ?_
            show Steps p.tables e below (T.setTop (mkF m 414 #[.val (.int p1), .val (.int p2), .val (.ref bl), .val (.ref bh), .val (.int s5), .val (.int m5), .unset, .unset, .unset, .unset] [(.int (983040 : Int32))])) _
            refine XS.iloadN X.here hx rfl (hb hby at_414) rfl ?_
            show Steps p.tables e below (T.setTop (mkF m 415 #[.val (.int p1), .val (.int p2), .val (.ref bl), .val (.ref bh), .val (.int s5), .val (.int m5), .unset, .unset, .unset, .unset] [(.int p2), (.int (983040 : Int32))])) _
            refine X.ldcInt hx hown (mvT hZ (hw _ (List.mem_of_getElem? (i := 25) rfl))) (g := (mkF m 415 #[.val (.int p1), .val (.int p2), .val (.ref bl), .val (.ref bh), .val (.int s5), .val (.int m5), .unset, .unset, .unset, .unset] [(.int p2), (.int (983040 : Int32))])) rfl (hb hby at_415) _ ?_
            show Steps p.tables e below (T.setTop (mkF m 417 #[.val (.int p1), .val (.int p2), .val (.ref bl), .val (.ref bh), .val (.int s5), .val (.int m5), .unset, .unset, .unset, .unset] [(.int (65535 : Int32)), (.int p2), (.int (983040 : Int32))])) _
            refine XS.iand X.here hx rfl (hb hby at_417) rfl ?_
            show Steps p.tables e below (T.setTop (mkF m 418 #[.val (.int p1), .val (.int p2), .val (.ref bl), .val (.ref bh), .val (.int s5), .val (.int m5), .unset, .unset, .unset, .unset] [(.int (p2 &&& (65535 : Int32))), (.int (983040 : Int32))])) _
            refine XS.iadd X.here hx rfl (hb hby at_418) rfl ?_
            show Steps p.tables e below (T.setTop (mkF m 419 #[.val (.int p1), .val (.int p2), .val (.ref bl), .val (.ref bh), .val (.int s5), .val (.int m5), .unset, .unset, .unset, .unset] [(.int ((983040 : Int32) + (p2 &&& (65535 : Int32))))])) _
            refine XS.istore X.here hx rfl (hb hby at_419) rfl (l' := #[.val (.int p1), .val (.int p2), .val (.ref bl), .val (.ref bh), .val (.int s5), .val (.int m5), .val (.int ((983040 : Int32) + (p2 &&& (65535 : Int32)))), .unset, .unset, .unset]) rfl ?_
            show Steps p.tables e below (T.setTop (mkF m 421 #[.val (.int p1), .val (.int p2), .val (.ref bl), .val (.ref bh), .val (.int s5), .val (.int m5), .val (.int ((983040 : Int32) + (p2 &&& (65535 : Int32)))), .unset, .unset, .unset] [])) _
            refine XS.iload X.here hx rfl (hb hby at_421) rfl ?_
            show Steps p.tables e below (T.setTop (mkF m 423 #[.val (.int p1), .val (.int p2), .val (.ref bl), .val (.ref bh), .val (.int s5), .val (.int m5), .val (.int ((983040 : Int32) + (p2 &&& (65535 : Int32)))), .unset, .unset, .unset] [(.int ((983040 : Int32) + (p2 &&& (65535 : Int32))))])) _
            exact hk
          obtain ⟨_, _, ⟨T86, L86, k86, n86⟩, -, X86, ⟨Lc86, hQ86, l86, y86, z86⟩, st86⟩ := Jvm.LawKit.callS X hx (y := (⟨"com/example/bertilak/bertilak/util/XmlCharsIsNameStartCharPinLaw", "f", "(I)Z"⟩ : MethodName)) hown (mvT hZ (hw _ (List.mem_of_getElem? (i := 9) rfl))) (mvT hZ (hw _ (List.mem_of_getElem? (i := 10) rfl))) (mvT hZ (hw _ (List.mem_of_getElem? (i := 11) rfl))) (mvT hZ (hw _ (List.mem_of_getElem? (i := 12) rfl))) (by decide) (backOf (W := 0) (rm1 l Z a0 hw [] ((983040 : Int32) + (p2 &&& (65535 : Int32)))  h0 n0 Z0 ) hZ (hw _ (List.mem_of_getElem? (i := 12) rfl)) (hw _ (List.mem_of_getElem? (i := 11) rfl)) (by decide) (by decide)) (g := (mkF m 423 #[.val (.int p1), .val (.int p2), .val (.ref bl), .val (.ref bh), .val (.int s5), .val (.int m5), .val (.int ((983040 : Int32) + (p2 &&& (65535 : Int32)))), .unset, .unset, .unset] [(.int ((983040 : Int32) + (p2 &&& (65535 : Int32))))])) rfl (by rw [hml]; rfl) (argsL := [(.int ((983040 : Int32) + (p2 &&& (65535 : Int32))))]) (rest := []) (lenOf (by decide +kernel : parseMethodDescriptor "(I)Z" = some ⟨[.int], (some .boolean)⟩) rfl) rfl (by show 2 * 0 + _ ≤ _; exact Nat.le_of_eq rfl) (hb hby at_423) (fun _ _ => ⟨rfl, e0, (by show cells + 0 ≤ 16; omega), (by show slots + 0 ≤ 128; omega)⟩)
          dsimp only [Pt.U, Pt.locs, Pt.cells, Pt.slots] at X86 l86 y86 z86 st86 hQ86
          replace y86 := y86.symm; replace z86 := z86.symm; subst l86 y86 z86
          obtain ⟨rfl, Nq86, e86⟩ := hQ86
          have N86 := Fr.app N0 Nq86
          have K86 : ∀ t, Steps p.tables e below (T86.setTop (mkF m 426 #[.val (.int p1), .val (.int p2), .val (.ref bl), .val (.ref bh), .val (.int s5), .val (.int m5), .val (.int ((983040 : Int32) + (p2 &&& (65535 : Int32)))), .unset, .unset, .unset] [(.int (own_f2_0 ((983040 : Int32) + (p2 &&& (65535 : Int32)))))])) t → Steps p.tables e below S0 t := fun t hk => K85 t (st86 _ hk)
          have hc426 : (own_f2_0 ((983040 : Int32) + (p2 &&& (65535 : Int32)))) = (0 : Int32) := (by rw [own_f2_0_spec]; rw [if_neg (by omega)])
          have K87 : ∀ t, Steps p.tables e below (T86.setTop (mkF m 429 #[.val (.int p1), .val (.int p2), .val (.ref bl), .val (.ref bh), .val (.int s5), .val (.int m5), .val (.int ((983040 : Int32) + (p2 &&& (65535 : Int32)))), .unset, .unset, .unset] [])) t → Steps p.tables e below S0 t := by
            intro t hk
            refine K86 t ?_
            show Steps p.tables e below (T86.setTop (mkF m 426 #[.val (.int p1), .val (.int p2), .val (.ref bl), .val (.ref bh), .val (.int s5), .val (.int m5), .val (.int ((983040 : Int32) + (p2 &&& (65535 : Int32)))), .unset, .unset, .unset] [(.int (own_f2_0 ((983040 : Int32) + (p2 &&& (65535 : Int32)))))])) _
            refine XS.ifNo X86.here hx rfl (hb hby at_426) rfl ((if0 _ _).trans (teq hc426).2) ?_
            exact hk
          have K88 : ∀ t, Steps p.tables e below (T86.setTop (mkF m 431 #[.val (.int p1), .val (.int p2), .val (.ref bl), .val (.ref bh), .val (.int s5), .val (.int m5), .val (.int ((983040 : Int32) + (p2 &&& (65535 : Int32)))), .unset, .unset, .unset] [(.int (983040 : Int32))])) t → Steps p.tables e below S0 t := by
            intro t hk
            refine K87 t ?_
            show Steps p.tables e below (T86.setTop (mkF m 429 #[.val (.int p1), .val (.int p2), .val (.ref bl), .val (.ref bh), .val (.int s5), .val (.int m5), .val (.int ((983040 : Int32) + (p2 &&& (65535 : Int32)))), .unset, .unset, .unset] [])) _
            refine X86.ldcInt hx hown (mvT hZ (hw _ (List.mem_of_getElem? (i := 24) rfl))) (g := (mkF m 429 #[.val (.int p1), .val (.int p2), .val (.ref bl), .val (.ref bh), .val (.int s5), .val (.int m5), .val (.int ((983040 : Int32) + (p2 &&& (65535 : Int32)))), .unset, .unset, .unset] [])) rfl (hb hby at_429) _ ?_
            show Steps p.tables e below (T86.setTop (mkF m 431 #[.val (.int p1), .val (.int p2), .val (.ref bl), .val (.ref bh), .val (.int s5), .val (.int m5), .val (.int ((983040 : Int32) + (p2 &&& (65535 : Int32)))), .unset, .unset, .unset] [(.int (983040 : Int32))])) _
            exact hk
          obtain ⟨_, _, ⟨T89, L89, k89, n89⟩, -, X89, ⟨Lc89, hQ89, l89, y89, z89⟩, st89⟩ := Jvm.LawKit.callS X86 hx (y := (⟨"com/example/bertilak/bertilak/util/XmlCharsIsNameStartCharPinLaw", "f", "(I)Z"⟩ : MethodName)) hown (mvT hZ (hw _ (List.mem_of_getElem? (i := 9) rfl))) (mvT hZ (hw _ (List.mem_of_getElem? (i := 10) rfl))) (mvT hZ (hw _ (List.mem_of_getElem? (i := 11) rfl))) (mvT hZ (hw _ (List.mem_of_getElem? (i := 12) rfl))) (by decide) (backOf (W := 0) (rm1 l Z a0 hw [] (983040 : Int32)  h0 n0 Z0 ) hZ (hw _ (List.mem_of_getElem? (i := 12) rfl)) (hw _ (List.mem_of_getElem? (i := 11) rfl)) (by decide) (by decide)) (g := (mkF m 431 #[.val (.int p1), .val (.int p2), .val (.ref bl), .val (.ref bh), .val (.int s5), .val (.int m5), .val (.int ((983040 : Int32) + (p2 &&& (65535 : Int32)))), .unset, .unset, .unset] [(.int (983040 : Int32))])) rfl (by rw [hml]; rfl) (argsL := [(.int (983040 : Int32))]) (rest := []) (lenOf (by decide +kernel : parseMethodDescriptor "(I)Z" = some ⟨[.int], (some .boolean)⟩) rfl) rfl (by show 2 * 0 + _ ≤ _; exact Nat.le_of_eq rfl) (hb hby at_431) (fun _ _ => ⟨rfl, e86, (by show cells + 0 + 0 ≤ 16; omega), (by show slots + 0 + 0 ≤ 128; omega)⟩)
          dsimp only [Pt.U, Pt.locs, Pt.cells, Pt.slots] at X89 l89 y89 z89 st89 hQ89
          replace y89 := y89.symm; replace z89 := z89.symm; subst l89 y89 z89
          obtain ⟨rfl, Nq89, e89⟩ := hQ89
          have N89 := Fr.app N86 Nq89
          have K89 : ∀ t, Steps p.tables e below (T89.setTop (mkF m 434 #[.val (.int p1), .val (.int p2), .val (.ref bl), .val (.ref bh), .val (.int s5), .val (.int m5), .val (.int ((983040 : Int32) + (p2 &&& (65535 : Int32)))), .unset, .unset, .unset] [(.int (own_f2_0 (983040 : Int32)))])) t → Steps p.tables e below S0 t := fun t hk => K88 t (st89 _ hk)
          have hc434 : (own_f2_0 (983040 : Int32)) = (0 : Int32) := (by rw [own_f2_0_spec]; decide)
          have K90 : ∀ t, Steps p.tables e below (T89.setTop (mkF m 437 #[.val (.int p1), .val (.int p2), .val (.ref bl), .val (.ref bh), .val (.int s5), .val (.int m5), .val (.int ((983040 : Int32) + (p2 &&& (65535 : Int32)))), .unset, .unset, .unset] [])) t → Steps p.tables e below S0 t := by
            intro t hk
            refine K89 t ?_
            show Steps p.tables e below (T89.setTop (mkF m 434 #[.val (.int p1), .val (.int p2), .val (.ref bl), .val (.ref bh), .val (.int s5), .val (.int m5), .val (.int ((983040 : Int32) + (p2 &&& (65535 : Int32)))), .unset, .unset, .unset] [(.int (own_f2_0 (983040 : Int32)))])) _
            refine XS.ifNo X89.here hx rfl (hb hby at_434) rfl ((if0 _ _).trans (teq hc434).2) ?_
            exact hk
          have K91 : ∀ t, Steps p.tables e below (T89.setTop (mkF m 439 #[.val (.int p1), .val (.int p2), .val (.ref bl), .val (.ref bh), .val (.int s5), .val (.int m5), .val (.int ((983040 : Int32) + (p2 &&& (65535 : Int32)))), .unset, .unset, .unset] [(.int (2147483647 : Int32))])) t → Steps p.tables e below S0 t := by
            intro t hk
            refine K90 t ?_
            show Steps p.tables e below (T89.setTop (mkF m 437 #[.val (.int p1), .val (.int p2), .val (.ref bl), .val (.ref bh), .val (.int s5), .val (.int m5), .val (.int ((983040 : Int32) + (p2 &&& (65535 : Int32)))), .unset, .unset, .unset] [])) _
            refine X89.ldcInt hx hown (mvT hZ (hw _ (List.mem_of_getElem? (i := 8) rfl))) (g := (mkF m 437 #[.val (.int p1), .val (.int p2), .val (.ref bl), .val (.ref bh), .val (.int s5), .val (.int m5), .val (.int ((983040 : Int32) + (p2 &&& (65535 : Int32)))), .unset, .unset, .unset] [])) rfl (hb hby at_437) _ ?_
            show Steps p.tables e below (T89.setTop (mkF m 439 #[.val (.int p1), .val (.int p2), .val (.ref bl), .val (.ref bh), .val (.int s5), .val (.int m5), .val (.int ((983040 : Int32) + (p2 &&& (65535 : Int32)))), .unset, .unset, .unset] [(.int (2147483647 : Int32))])) _
            exact hk
          obtain ⟨_, _, ⟨T92, L92, k92, n92⟩, -, X92, ⟨Lc92, hQ92, l92, y92, z92⟩, st92⟩ := Jvm.LawKit.callS X89 hx (y := (⟨"com/example/bertilak/bertilak/util/XmlCharsIsNameStartCharPinLaw", "f", "(I)Z"⟩ : MethodName)) hown (mvT hZ (hw _ (List.mem_of_getElem? (i := 9) rfl))) (mvT hZ (hw _ (List.mem_of_getElem? (i := 10) rfl))) (mvT hZ (hw _ (List.mem_of_getElem? (i := 11) rfl))) (mvT hZ (hw _ (List.mem_of_getElem? (i := 12) rfl))) (by decide) (backOf (W := 0) (rm1 l Z a0 hw [] (2147483647 : Int32)  h0 n0 Z0 ) hZ (hw _ (List.mem_of_getElem? (i := 12) rfl)) (hw _ (List.mem_of_getElem? (i := 11) rfl)) (by decide) (by decide)) (g := (mkF m 439 #[.val (.int p1), .val (.int p2), .val (.ref bl), .val (.ref bh), .val (.int s5), .val (.int m5), .val (.int ((983040 : Int32) + (p2 &&& (65535 : Int32)))), .unset, .unset, .unset] [(.int (2147483647 : Int32))])) rfl (by rw [hml]; rfl) (argsL := [(.int (2147483647 : Int32))]) (rest := []) (lenOf (by decide +kernel : parseMethodDescriptor "(I)Z" = some ⟨[.int], (some .boolean)⟩) rfl) rfl (by show 2 * 0 + _ ≤ _; exact Nat.le_of_eq rfl) (hb hby at_439) (fun _ _ => ⟨rfl, e89, (by show cells + 0 + 0 + 0 ≤ 16; omega), (by show slots + 0 + 0 + 0 ≤ 128; omega)⟩)
          dsimp only [Pt.U, Pt.locs, Pt.cells, Pt.slots] at X92 l92 y92 z92 st92 hQ92
          replace y92 := y92.symm; replace z92 := z92.symm; subst l92 y92 z92
          obtain ⟨rfl, Nq92, e92⟩ := hQ92
          have N92 := Fr.app N89 Nq92
          have K92 : ∀ t, Steps p.tables e below (T92.setTop (mkF m 442 #[.val (.int p1), .val (.int p2), .val (.ref bl), .val (.ref bh), .val (.int s5), .val (.int m5), .val (.int ((983040 : Int32) + (p2 &&& (65535 : Int32)))), .unset, .unset, .unset] [(.int (own_f2_0 (2147483647 : Int32)))])) t → Steps p.tables e below S0 t := fun t hk => K91 t (st92 _ hk)
          have hc442 : (own_f2_0 (2147483647 : Int32)) = (0 : Int32) := (by rw [own_f2_0_spec]; decide)
          have K93 : ∀ t, Steps p.tables e below (T92.setTop (mkF m 445 #[.val (.int p1), .val (.int p2), .val (.ref bl), .val (.ref bh), .val (.int s5), .val (.int m5), .val (.int ((983040 : Int32) + (p2 &&& (65535 : Int32)))), .unset, .unset, .unset] [])) t → Steps p.tables e below S0 t := by
            intro t hk
            refine K92 t ?_
            show Steps p.tables e below (T92.setTop (mkF m 442 #[.val (.int p1), .val (.int p2), .val (.ref bl), .val (.ref bh), .val (.int s5), .val (.int m5), .val (.int ((983040 : Int32) + (p2 &&& (65535 : Int32)))), .unset, .unset, .unset] [(.int (own_f2_0 (2147483647 : Int32)))])) _
            refine XS.ifNo X92.here hx rfl (hb hby at_442) rfl ((if0 _ _).trans (teq hc442).2) ?_
            exact hk
          have K94 : ∀ t, Steps p.tables e below (T92.setTop (mkF m 450 #[.val (.int p1), .val (.int p2), .val (.ref bl), .val (.ref bh), .val (.int s5), .val (.int m5), .val (.int ((983040 : Int32) + (p2 &&& (65535 : Int32)))), .unset, .unset, .unset] [(.int (1 : Int32))])) t → Steps p.tables e below S0 t := by
            intro t hk
            refine K93 t ?_
            show Steps p.tables e below (T92.setTop (mkF m 445 #[.val (.int p1), .val (.int p2), .val (.ref bl), .val (.ref bh), .val (.int s5), .val (.int m5), .val (.int ((983040 : Int32) + (p2 &&& (65535 : Int32)))), .unset, .unset, .unset] [])) _
            refine XS.iconst X92.here hx rfl (hb hby at_445) ?_
            show Steps p.tables e below (T92.setTop (mkF m 446 #[.val (.int p1), .val (.int p2), .val (.ref bl), .val (.ref bh), .val (.int s5), .val (.int m5), .val (.int ((983040 : Int32) + (p2 &&& (65535 : Int32)))), .unset, .unset, .unset] [(.int (1 : Int32))])) _
            refine XS.goto X92.here hx rfl (pc0 := 446) (pc' := 450) rfl (hb hby at_446) (by decide) (by decide) ?_
            show Steps p.tables e below (T92.setTop (mkF m 450 #[.val (.int p1), .val (.int p2), .val (.ref bl), .val (.ref bh), .val (.int s5), .val (.int m5), .val (.int ((983040 : Int32) + (p2 &&& (65535 : Int32)))), .unset, .unset, .unset] [(.int (1 : Int32))])) _
            exact hk
          obtain ⟨fs, hr, hrun, hended, hW, hsame⟩ := X92.leave (v := some (.int (1 : Int32))) (fun h => by rw [(hret.trans (rfl : ret = some .boolean))] at h; cases h) hlk
          exact ⟨_, _, K94 _ (retN X92 hx (t := .boolean) (hret.trans (rfl : ret = some .boolean)) (by simp) (hb hby at_450) hr), hrun, hended, _, _, rfl, ⟨rfl, N92⟩, ⟨_, rfl⟩, hW, hsame.mono hcb hsb⟩
theorem ef_0 (m : MethodId) (x0 : Int32) (x1 : Int32) : entryFrame m #[(.int x0), (.int x1)] maxLocals = mkF m 0 #[.val (.int x0), .val (.int x1), .unset, .unset, .unset, .unset, .unset, .unset, .unset, .unset] [] := by first | (simp [entryFrame, mkF, argsToLocals, Value.category, maxLocals]; done) | rfl
theorem pn_0 : plainName "com/example/bertilak/bertilak/util/XmlCharsIsNameStartCharPinLaw" = true := by first | (simp [plainName, overriddenIn]; done) | decide +kernel
def Q_rm0 (Z : State) (p1 : Int32) (p2 : Int32)  (h0 : Heap) (n0 : Nat) (v : Option Value) (h : Heap) (L : List Loc) : Prop := v = some (.int (1 : Int32)) ∧ Fr n0 L
set_option maxRecDepth 65536 in
set_option maxHeartbeats 40000000 in
theorem rm0 (l : Launch) (Z : State) (a0 : Array Value) (hw : ∀ d ∈ tables_1, d.before a0 Z = true) (ws : List Jvm.Cond) (p1 : Int32) (p2 : Int32)  (h0 : Heap) (n0 : Nat) (Z0 : n0 ≤ h0.size)  :
    MetFree l x (head1 (Jvm.Cond.code x code maxLocals ret :: ws) room_1) (fun a U => a = #[(.int p1), (.int p2)] ∧ Z.Warmed39 U.vm ∧ U.heap = h0) (fun _ _ _ _ _ => True) (fun _ U o U' => ∃ v L, o = .returned v ∧ Q_rm0 Z p1 p2  h0 n0 v U'.heap L ∧ FrameEnd U o U' L 16 128) := by
  refine MetFree.of_bodySF (plainFor_of_name pn_0) hisR ?_
  intro p e s m args below meth c s₁ Bd hml0 hP hK
  obtain ⟨rfl, hZ, hh⟩ := hP
  have hx := Bd.exec
  have hby := Bd.bytes
  have hml : c.maxLocals = 10 := hml0
  have hown : s.vm.findClass "com/example/bertilak/bertilak/util/XmlCharsIsNameStartCharPinLaw" = some m.cls := findClass_of_methodNamed Bd.named
  have hnm := (name_of_methodNamed Bd.named Bd.method).1
  have X0 : Stand p l e room_1 s m #[(.int p1), (.int p2)] below meth c s₁ [] 0 0 := Stand.of_body Bd
  have e0 : s₁.heap = h0 := by rw [← hh, Bd.state]; rfl
  have N0 := Fr.nil n0
  have pre0 : ∀ t, Steps p.tables e below (s₁.setTop (mkF m 0 #[.val (.int p1), .val (.int p2), .unset, .unset, .unset, .unset, .unset, .unset, .unset, .unset] [])) t → Steps p.tables e below (s₁.setTop (entryFrame m #[(.int p1), (.int p2)] maxLocals)) t := fun t k => castTop (ef_0 m p1 p2) k
  have K1 : ∀ t, Steps p.tables e below (s₁.setTop (mkF m 2 #[.val (.int p1), .val (.int p2), .unset, .unset, .unset, .unset, .unset, .unset, .unset, .unset] [(.int (15 : Int32))])) t → Steps p.tables e below (s₁.setTop (entryFrame m #[(.int p1), (.int p2)] maxLocals)) t := by
    intro t hk
    refine pre0 t ?_
    show Steps p.tables e below (s₁.setTop (mkF m 0 #[.val (.int p1), .val (.int p2), .unset, .unset, .unset, .unset, .unset, .unset, .unset, .unset] [])) _
    refine XS.bipush X0.here hx rfl (hb hby at_0) ?_
    show Steps p.tables e below (s₁.setTop (mkF m 2 #[.val (.int p1), .val (.int p2), .unset, .unset, .unset, .unset, .unset, .unset, .unset, .unset] [(.int (15 : Int32))])) _
    exact hk
  obtain ⟨T2, h2, c2, X2, e2, E2, A2, st2⟩ := newP X0 hx hZ (hw _ (List.mem_of_getElem? (i := 0) rfl)) e0 (g := (mkF m 2 #[.val (.int p1), .val (.int p2), .unset, .unset, .unset, .unset, .unset, .unset, .unset, .unset] [(.int (15 : Int32))])) rfl (hb hby at_2) rfl (by decide) (cap := 15) (by decide) (by decide) (by decide) (by decide)
  obtain ⟨b2, g2⟩ : ∃ z, z = h0.size := ⟨_, rfl⟩
  rw [← g2] at A2 st2
  have V2 : Arv Z h2 b2 c2 .int (15 : Int32) [(.int (0 : Int32)), (.int (0 : Int32)), (.int (0 : Int32)), (.int (0 : Int32)), (.int (0 : Int32)), (.int (0 : Int32)), (.int (0 : Int32)), (.int (0 : Int32)), (.int (0 : Int32)), (.int (0 : Int32)), (.int (0 : Int32)), (.int (0 : Int32)), (.int (0 : Int32)), (.int (0 : Int32)), (.int (0 : Int32))] (.int (0 : Int32)) := (Arv.new A2 (by decide)).pad (pad_rep [] (.int (0 : Int32)) 15)
  have gb2 : n0 ≤ b2 := Nat.le_trans Z0 (Nat.le_of_eq g2.symm)
  have K2 : ∀ t, Steps p.tables e below (T2.setTop (mkF m 4 #[.val (.int p1), .val (.int p2), .unset, .unset, .unset, .unset, .unset, .unset, .unset, .unset] [(.ref b2)])) t → Steps p.tables e below (s₁.setTop (entryFrame m #[(.int p1), (.int p2)] maxLocals)) t := fun t hk => K1 t (st2 _ hk)
  have sz2 : n0 ≤ h2.size := Nat.le_trans Z0 E2.1
  have K3 : ∀ t, Steps p.tables e below (T2.setTop (mkF m 8 #[.val (.int p1), .val (.int p2), .unset, .unset, .unset, .unset, .unset, .unset, .unset, .unset] [(.int (65 : Int32)), (.int (0 : Int32)), (.ref b2), (.ref b2)])) t → Steps p.tables e below (s₁.setTop (entryFrame m #[(.int p1), (.int p2)] maxLocals)) t := by
    intro t hk
    refine K2 t ?_
    show Steps p.tables e below (T2.setTop (mkF m 4 #[.val (.int p1), .val (.int p2), .unset, .unset, .unset, .unset, .unset, .unset, .unset, .unset] [(.ref b2)])) _
    refine XS.dup X2.here hx rfl (hb hby at_4) rfl rfl ?_
    show Steps p.tables e below (T2.setTop (mkF m 5 #[.val (.int p1), .val (.int p2), .unset, .unset, .unset, .unset, .unset, .unset, .unset, .unset] [(.ref b2), (.ref b2)])) _
    refine XS.iconst X2.here hx rfl (hb hby at_5) ?_
    show Steps p.tables e below (T2.setTop (mkF m 6 #[.val (.int p1), .val (.int p2), .unset, .unset, .unset, .unset, .unset, .unset, .unset, .unset] [(.int (0 : Int32)), (.ref b2), (.ref b2)])) _
    refine XS.bipush X2.here hx rfl (hb hby at_6) ?_
    show Steps p.tables e below (T2.setTop (mkF m 8 #[.val (.int p1), .val (.int p2), .unset, .unset, .unset, .unset, .unset, .unset, .unset, .unset] [(.int (65 : Int32)), (.int (0 : Int32)), (.ref b2), (.ref b2)])) _
    exact hk
  obtain ⟨T4, h4, X4, e4, W4, V4', st4⟩ := own_stI X2 hx hZ e2 V2 (j := (0 : Int32)) 0 rfl ⟨by decide, by decide⟩ (by decide) (g := (mkF m 8 #[.val (.int p1), .val (.int p2), .unset, .unset, .unset, .unset, .unset, .unset, .unset, .unset] [(.int (65 : Int32)), (.int (0 : Int32)), (.ref b2), (.ref b2)])) rfl rfl (hb hby at_8)
  have V4 : Arv Z h4 b2 c2 .int (15 : Int32) [(.int (65 : Int32)), (.int (0 : Int32)), (.int (0 : Int32)), (.int (0 : Int32)), (.int (0 : Int32)), (.int (0 : Int32)), (.int (0 : Int32)), (.int (0 : Int32)), (.int (0 : Int32)), (.int (0 : Int32)), (.int (0 : Int32)), (.int (0 : Int32)), (.int (0 : Int32)), (.int (0 : Int32)), (.int (0 : Int32))] (.int (0 : Int32)) := V4'
  have N4 := Fr.snoc X4 N0 gb2
  have sz4 : n0 ≤ h4.size := Nat.le_trans sz2 (Keep.of_wr W4).1
  have K4 : ∀ t, Steps p.tables e below (T4.setTop (mkF m 9 #[.val (.int p1), .val (.int p2), .unset, .unset, .unset, .unset, .unset, .unset, .unset, .unset] [(.ref b2)])) t → Steps p.tables e below (s₁.setTop (entryFrame m #[(.int p1), (.int p2)] maxLocals)) t := fun t hk => K3 t (st4 _ hk)
  have K5 : ∀ t, Steps p.tables e below (T4.setTop (mkF m 13 #[.val (.int p1), .val (.int p2), .unset, .unset, .unset, .unset, .unset, .unset, .unset, .unset] [(.int (95 : Int32)), (.int (1 : Int32)), (.ref b2), (.ref b2)])) t → Steps p.tables e below (s₁.setTop (entryFrame m #[(.int p1), (.int p2)] maxLocals)) t := by
    intro t hk
    refine K4 t ?_
    show Steps p.tables e below (T4.setTop (mkF m 9 #[.val (.int p1), .val (.int p2), .unset, .unset, .unset, .unset, .unset, .unset, .unset, .unset] [(.ref b2)])) _
    refine XS.dup X4.here hx rfl (hb hby at_9) rfl rfl ?_
    show Steps p.tables e below (T4.setTop (mkF m 10 #[.val (.int p1), .val (.int p2), .unset, .unset, .unset, .unset, .unset, .unset, .unset, .unset] [(.ref b2), (.ref b2)])) _
    refine XS.iconst X4.here hx rfl (hb hby at_10) ?_
    show Steps p.tables e below (T4.setTop (mkF m 11 #[.val (.int p1), .val (.int p2), .unset, .unset, .unset, .unset, .unset, .unset, .unset, .unset] [(.int (1 : Int32)), (.ref b2), (.ref b2)])) _
    refine XS.bipush X4.here hx rfl (hb hby at_11) ?_
    show Steps p.tables e below (T4.setTop (mkF m 13 #[.val (.int p1), .val (.int p2), .unset, .unset, .unset, .unset, .unset, .unset, .unset, .unset] [(.int (95 : Int32)), (.int (1 : Int32)), (.ref b2), (.ref b2)])) _
    exact hk
  obtain ⟨T6, h6, X6, e6, W6, V6', st6⟩ := own_stI X4 hx hZ e4 V4 (j := (1 : Int32)) 1 rfl ⟨by decide, by decide⟩ (by decide) (g := (mkF m 13 #[.val (.int p1), .val (.int p2), .unset, .unset, .unset, .unset, .unset, .unset, .unset, .unset] [(.int (95 : Int32)), (.int (1 : Int32)), (.ref b2), (.ref b2)])) rfl rfl (hb hby at_13)
  have V6 : Arv Z h6 b2 c2 .int (15 : Int32) [(.int (65 : Int32)), (.int (95 : Int32)), (.int (0 : Int32)), (.int (0 : Int32)), (.int (0 : Int32)), (.int (0 : Int32)), (.int (0 : Int32)), (.int (0 : Int32)), (.int (0 : Int32)), (.int (0 : Int32)), (.int (0 : Int32)), (.int (0 : Int32)), (.int (0 : Int32)), (.int (0 : Int32)), (.int (0 : Int32))] (.int (0 : Int32)) := V6'
  have N6 := Fr.snoc X6 N4 gb2
  have sz6 : n0 ≤ h6.size := Nat.le_trans sz4 (Keep.of_wr W6).1
  have K6 : ∀ t, Steps p.tables e below (T6.setTop (mkF m 14 #[.val (.int p1), .val (.int p2), .unset, .unset, .unset, .unset, .unset, .unset, .unset, .unset] [(.ref b2)])) t → Steps p.tables e below (s₁.setTop (entryFrame m #[(.int p1), (.int p2)] maxLocals)) t := fun t hk => K5 t (st6 _ hk)
  have K7 : ∀ t, Steps p.tables e below (T6.setTop (mkF m 18 #[.val (.int p1), .val (.int p2), .unset, .unset, .unset, .unset, .unset, .unset, .unset, .unset] [(.int (97 : Int32)), (.int (2 : Int32)), (.ref b2), (.ref b2)])) t → Steps p.tables e below (s₁.setTop (entryFrame m #[(.int p1), (.int p2)] maxLocals)) t := by
    intro t hk
    refine K6 t ?_
    show Steps p.tables e below (T6.setTop (mkF m 14 #[.val (.int p1), .val (.int p2), .unset, .unset, .unset, .unset, .unset, .unset, .unset, .unset] [(.ref b2)])) _
    refine XS.dup X6.here hx rfl (hb hby at_14) rfl rfl ?_
    show Steps p.tables e below (T6.setTop (mkF m 15 #[.val (.int p1), .val (.int p2), .unset, .unset, .unset, .unset, .unset, .unset, .unset, .unset] [(.ref b2), (.ref b2)])) _
    refine XS.iconst X6.here hx rfl (hb hby at_15) ?_
    show Steps p.tables e below (T6.setTop (mkF m 16 #[.val (.int p1), .val (.int p2), .unset, .unset, .unset, .unset, .unset, .unset, .unset, .unset] [(.int (2 : Int32)), (.ref b2), (.ref b2)])) _
    refine XS.bipush X6.here hx rfl (hb hby at_16) ?_
    show Steps p.tables e below (T6.setTop (mkF m 18 #[.val (.int p1), .val (.int p2), .unset, .unset, .unset, .unset, .unset, .unset, .unset, .unset] [(.int (97 : Int32)), (.int (2 : Int32)), (.ref b2), (.ref b2)])) _
    exact hk
  obtain ⟨T8, h8, X8, e8, W8, V8', st8⟩ := own_stI X6 hx hZ e6 V6 (j := (2 : Int32)) 2 rfl ⟨by decide, by decide⟩ (by decide) (g := (mkF m 18 #[.val (.int p1), .val (.int p2), .unset, .unset, .unset, .unset, .unset, .unset, .unset, .unset] [(.int (97 : Int32)), (.int (2 : Int32)), (.ref b2), (.ref b2)])) rfl rfl (hb hby at_18)
  have V8 : Arv Z h8 b2 c2 .int (15 : Int32) [(.int (65 : Int32)), (.int (95 : Int32)), (.int (97 : Int32)), (.int (0 : Int32)), (.int (0 : Int32)), (.int (0 : Int32)), (.int (0 : Int32)), (.int (0 : Int32)), (.int (0 : Int32)), (.int (0 : Int32)), (.int (0 : Int32)), (.int (0 : Int32)), (.int (0 : Int32)), (.int (0 : Int32)), (.int (0 : Int32))] (.int (0 : Int32)) := V8'
  have N8 := Fr.snoc X8 N6 gb2
  have sz8 : n0 ≤ h8.size := Nat.le_trans sz6 (Keep.of_wr W8).1
  have K8 : ∀ t, Steps p.tables e below (T8.setTop (mkF m 19 #[.val (.int p1), .val (.int p2), .unset, .unset, .unset, .unset, .unset, .unset, .unset, .unset] [(.ref b2)])) t → Steps p.tables e below (s₁.setTop (entryFrame m #[(.int p1), (.int p2)] maxLocals)) t := fun t hk => K7 t (st8 _ hk)
  have K9 : ∀ t, Steps p.tables e below (T8.setTop (mkF m 24 #[.val (.int p1), .val (.int p2), .unset, .unset, .unset, .unset, .unset, .unset, .unset, .unset] [(.int (192 : Int32)), (.int (3 : Int32)), (.ref b2), (.ref b2)])) t → Steps p.tables e below (s₁.setTop (entryFrame m #[(.int p1), (.int p2)] maxLocals)) t := by
    intro t hk
    refine K8 t ?_
    show Steps p.tables e below (T8.setTop (mkF m 19 #[.val (.int p1), .val (.int p2), .unset, .unset, .unset, .unset, .unset, .unset, .unset, .unset] [(.ref b2)])) _
    refine XS.dup X8.here hx rfl (hb hby at_19) rfl rfl ?_
    show Steps p.tables e below (T8.setTop (mkF m 20 #[.val (.int p1), .val (.int p2), .unset, .unset, .unset, .unset, .unset, .unset, .unset, .unset] [(.ref b2), (.ref b2)])) _
    refine XS.iconst X8.here hx rfl (hb hby at_20) ?_
    show Steps p.tables e below (T8.setTop (mkF m 21 #[.val (.int p1), .val (.int p2), .unset, .unset, .unset, .unset, .unset, .unset, .unset, .unset] [(.int (3 : Int32)), (.ref b2), (.ref b2)])) _
    refine XS.sipush X8.here hx rfl (hb hby at_21) ?_
    show Steps p.tables e below (T8.setTop (mkF m 24 #[.val (.int p1), .val (.int p2), .unset, .unset, .unset, .unset, .unset, .unset, .unset, .unset] [(.int (192 : Int32)), (.int (3 : Int32)), (.ref b2), (.ref b2)])) _
    exact hk
  obtain ⟨T10, h10, X10, e10, W10, V10', st10⟩ := own_stI X8 hx hZ e8 V8 (j := (3 : Int32)) 3 rfl ⟨by decide, by decide⟩ (by decide) (g := (mkF m 24 #[.val (.int p1), .val (.int p2), .unset, .unset, .unset, .unset, .unset, .unset, .unset, .unset] [(.int (192 : Int32)), (.int (3 : Int32)), (.ref b2), (.ref b2)])) rfl rfl (hb hby at_24)
  have V10 : Arv Z h10 b2 c2 .int (15 : Int32) [(.int (65 : Int32)), (.int (95 : Int32)), (.int (97 : Int32)), (.int (192 : Int32)), (.int (0 : Int32)), (.int (0 : Int32)), (.int (0 : Int32)), (.int (0 : Int32)), (.int (0 : Int32)), (.int (0 : Int32)), (.int (0 : Int32)), (.int (0 : Int32)), (.int (0 : Int32)), (.int (0 : Int32)), (.int (0 : Int32))] (.int (0 : Int32)) := V10'
  have N10 := Fr.snoc X10 N8 gb2
  have sz10 : n0 ≤ h10.size := Nat.le_trans sz8 (Keep.of_wr W10).1
  have K10 : ∀ t, Steps p.tables e below (T10.setTop (mkF m 25 #[.val (.int p1), .val (.int p2), .unset, .unset, .unset, .unset, .unset, .unset, .unset, .unset] [(.ref b2)])) t → Steps p.tables e below (s₁.setTop (entryFrame m #[(.int p1), (.int p2)] maxLocals)) t := fun t hk => K9 t (st10 _ hk)
  have K11 : ∀ t, Steps p.tables e below (T10.setTop (mkF m 30 #[.val (.int p1), .val (.int p2), .unset, .unset, .unset, .unset, .unset, .unset, .unset, .unset] [(.int (216 : Int32)), (.int (4 : Int32)), (.ref b2), (.ref b2)])) t → Steps p.tables e below (s₁.setTop (entryFrame m #[(.int p1), (.int p2)] maxLocals)) t := by
    intro t hk
    refine K10 t ?_
    show Steps p.tables e below (T10.setTop (mkF m 25 #[.val (.int p1), .val (.int p2), .unset, .unset, .unset, .unset, .unset, .unset, .unset, .unset] [(.ref b2)])) _
    refine XS.dup X10.here hx rfl (hb hby at_25) rfl rfl ?_
    show Steps p.tables e below (T10.setTop (mkF m 26 #[.val (.int p1), .val (.int p2), .unset, .unset, .unset, .unset, .unset, .unset, .unset, .unset] [(.ref b2), (.ref b2)])) _
    refine XS.iconst X10.here hx rfl (hb hby at_26) ?_
    show Steps p.tables e below (T10.setTop (mkF m 27 #[.val (.int p1), .val (.int p2), .unset, .unset, .unset, .unset, .unset, .unset, .unset, .unset] [(.int (4 : Int32)), (.ref b2), (.ref b2)])) _
    refine XS.sipush X10.here hx rfl (hb hby at_27) ?_
    show Steps p.tables e below (T10.setTop (mkF m 30 #[.val (.int p1), .val (.int p2), .unset, .unset, .unset, .unset, .unset, .unset, .unset, .unset] [(.int (216 : Int32)), (.int (4 : Int32)), (.ref b2), (.ref b2)])) _
    exact hk
  obtain ⟨T12, h12, X12, e12, W12, V12', st12⟩ := own_stI X10 hx hZ e10 V10 (j := (4 : Int32)) 4 rfl ⟨by decide, by decide⟩ (by decide) (g := (mkF m 30 #[.val (.int p1), .val (.int p2), .unset, .unset, .unset, .unset, .unset, .unset, .unset, .unset] [(.int (216 : Int32)), (.int (4 : Int32)), (.ref b2), (.ref b2)])) rfl rfl (hb hby at_30)
  have V12 : Arv Z h12 b2 c2 .int (15 : Int32) [(.int (65 : Int32)), (.int (95 : Int32)), (.int (97 : Int32)), (.int (192 : Int32)), (.int (216 : Int32)), (.int (0 : Int32)), (.int (0 : Int32)), (.int (0 : Int32)), (.int (0 : Int32)), (.int (0 : Int32)), (.int (0 : Int32)), (.int (0 : Int32)), (.int (0 : Int32)), (.int (0 : Int32)), (.int (0 : Int32))] (.int (0 : Int32)) := V12'
  have N12 := Fr.snoc X12 N10 gb2
  have sz12 : n0 ≤ h12.size := Nat.le_trans sz10 (Keep.of_wr W12).1
  have K12 : ∀ t, Steps p.tables e below (T12.setTop (mkF m 31 #[.val (.int p1), .val (.int p2), .unset, .unset, .unset, .unset, .unset, .unset, .unset, .unset] [(.ref b2)])) t → Steps p.tables e below (s₁.setTop (entryFrame m #[(.int p1), (.int p2)] maxLocals)) t := fun t hk => K11 t (st12 _ hk)
  have K13 : ∀ t, Steps p.tables e below (T12.setTop (mkF m 36 #[.val (.int p1), .val (.int p2), .unset, .unset, .unset, .unset, .unset, .unset, .unset, .unset] [(.int (248 : Int32)), (.int (5 : Int32)), (.ref b2), (.ref b2)])) t → Steps p.tables e below (s₁.setTop (entryFrame m #[(.int p1), (.int p2)] maxLocals)) t := by
    intro t hk
    refine K12 t ?_
    show Steps p.tables e below (T12.setTop (mkF m 31 #[.val (.int p1), .val (.int p2), .unset, .unset, .unset, .unset, .unset, .unset, .unset, .unset] [(.ref b2)])) _
    refine XS.dup X12.here hx rfl (hb hby at_31) rfl rfl ?_
    show Steps p.tables e below (T12.setTop (mkF m 32 #[.val (.int p1), .val (.int p2), .unset, .unset, .unset, .unset, .unset, .unset, .unset, .unset] [(.ref b2), (.ref b2)])) _
    refine XS.iconst X12.here hx rfl (hb hby at_32) ?_
    show Steps p.tables e below (T12.setTop (mkF m 33 #[.val (.int p1), .val (.int p2), .unset, .unset, .unset, .unset, .unset, .unset, .unset, .unset] [(.int (5 : Int32)), (.ref b2), (.ref b2)])) _
    refine XS.sipush X12.here hx rfl (hb hby at_33) ?_
    show Steps p.tables e below (T12.setTop (mkF m 36 #[.val (.int p1), .val (.int p2), .unset, .unset, .unset, .unset, .unset, .unset, .unset, .unset] [(.int (248 : Int32)), (.int (5 : Int32)), (.ref b2), (.ref b2)])) _
    exact hk
  obtain ⟨T14, h14, X14, e14, W14, V14', st14⟩ := own_stI X12 hx hZ e12 V12 (j := (5 : Int32)) 5 rfl ⟨by decide, by decide⟩ (by decide) (g := (mkF m 36 #[.val (.int p1), .val (.int p2), .unset, .unset, .unset, .unset, .unset, .unset, .unset, .unset] [(.int (248 : Int32)), (.int (5 : Int32)), (.ref b2), (.ref b2)])) rfl rfl (hb hby at_36)
  have V14 : Arv Z h14 b2 c2 .int (15 : Int32) [(.int (65 : Int32)), (.int (95 : Int32)), (.int (97 : Int32)), (.int (192 : Int32)), (.int (216 : Int32)), (.int (248 : Int32)), (.int (0 : Int32)), (.int (0 : Int32)), (.int (0 : Int32)), (.int (0 : Int32)), (.int (0 : Int32)), (.int (0 : Int32)), (.int (0 : Int32)), (.int (0 : Int32)), (.int (0 : Int32))] (.int (0 : Int32)) := V14'
  have N14 := Fr.snoc X14 N12 gb2
  have sz14 : n0 ≤ h14.size := Nat.le_trans sz12 (Keep.of_wr W14).1
  have K14 : ∀ t, Steps p.tables e below (T14.setTop (mkF m 37 #[.val (.int p1), .val (.int p2), .unset, .unset, .unset, .unset, .unset, .unset, .unset, .unset] [(.ref b2)])) t → Steps p.tables e below (s₁.setTop (entryFrame m #[(.int p1), (.int p2)] maxLocals)) t := fun t hk => K13 t (st14 _ hk)
  have K15 : ∀ t, Steps p.tables e below (T14.setTop (mkF m 43 #[.val (.int p1), .val (.int p2), .unset, .unset, .unset, .unset, .unset, .unset, .unset, .unset] [(.int (880 : Int32)), (.int (6 : Int32)), (.ref b2), (.ref b2)])) t → Steps p.tables e below (s₁.setTop (entryFrame m #[(.int p1), (.int p2)] maxLocals)) t := by
    intro t hk
    refine K14 t ?_
    show Steps p.tables e below (T14.setTop (mkF m 37 #[.val (.int p1), .val (.int p2), .unset, .unset, .unset, .unset, .unset, .unset, .unset, .unset] [(.ref b2)])) _
    refine XS.dup X14.here hx rfl (hb hby at_37) rfl rfl ?_
    show Steps p.tables e below (T14.setTop (mkF m 38 #[.val (.int p1), .val (.int p2), .unset, .unset, .unset, .unset, .unset, .unset, .unset, .unset] [(.ref b2), (.ref b2)])) _
    refine XS.bipush X14.here hx rfl (hb hby at_38) ?_
    show Steps p.tables e below (T14.setTop (mkF m 40 #[.val (.int p1), .val (.int p2), .unset, .unset, .unset, .unset, .unset, .unset, .unset, .unset] [(.int (6 : Int32)), (.ref b2), (.ref b2)])) _
    refine XS.sipush X14.here hx rfl (hb hby at_40) ?_
    show Steps p.tables e below (T14.setTop (mkF m 43 #[.val (.int p1), .val (.int p2), .unset, .unset, .unset, .unset, .unset, .unset, .unset, .unset] [(.int (880 : Int32)), (.int (6 : Int32)), (.ref b2), (.ref b2)])) _
    exact hk
  obtain ⟨T16, h16, X16, e16, W16, V16', st16⟩ := own_stI X14 hx hZ e14 V14 (j := (6 : Int32)) 6 rfl ⟨by decide, by decide⟩ (by decide) (g := (mkF m 43 #[.val (.int p1), .val (.int p2), .unset, .unset, .unset, .unset, .unset, .unset, .unset, .unset] [(.int (880 : Int32)), (.int (6 : Int32)), (.ref b2), (.ref b2)])) rfl rfl (hb hby at_43)
  have V16 : Arv Z h16 b2 c2 .int (15 : Int32) [(.int (65 : Int32)), (.int (95 : Int32)), (.int (97 : Int32)), (.int (192 : Int32)), (.int (216 : Int32)), (.int (248 : Int32)), (.int (880 : Int32)), (.int (0 : Int32)), (.int (0 : Int32)), (.int (0 : Int32)), (.int (0 : Int32)), (.int (0 : Int32)), (.int (0 : Int32)), (.int (0 : Int32)), (.int (0 : Int32))] (.int (0 : Int32)) := V16'
  have N16 := Fr.snoc X16 N14 gb2
  have sz16 : n0 ≤ h16.size := Nat.le_trans sz14 (Keep.of_wr W16).1
  have K16 : ∀ t, Steps p.tables e below (T16.setTop (mkF m 44 #[.val (.int p1), .val (.int p2), .unset, .unset, .unset, .unset, .unset, .unset, .unset, .unset] [(.ref b2)])) t → Steps p.tables e below (s₁.setTop (entryFrame m #[(.int p1), (.int p2)] maxLocals)) t := fun t hk => K15 t (st16 _ hk)
  have K17 : ∀ t, Steps p.tables e below (T16.setTop (mkF m 50 #[.val (.int p1), .val (.int p2), .unset, .unset, .unset, .unset, .unset, .unset, .unset, .unset] [(.int (895 : Int32)), (.int (7 : Int32)), (.ref b2), (.ref b2)])) t → Steps p.tables e below (s₁.setTop (entryFrame m #[(.int p1), (.int p2)] maxLocals)) t := by
    intro t hk
    refine K16 t ?_
    show Steps p.tables e below (T16.setTop (mkF m 44 #[.val (.int p1), .val (.int p2), .unset, .unset, .unset, .unset, .unset, .unset, .unset, .unset] [(.ref b2)])) _
    refine XS.dup X16.here hx rfl (hb hby at_44) rfl rfl ?_
    show Steps p.tables e below (T16.setTop (mkF m 45 #[.val (.int p1), .val (.int p2), .unset, .unset, .unset, .unset, .unset, .unset, .unset, .unset] [(.ref b2), (.ref b2)])) _
    refine XS.bipush X16.here hx rfl (hb hby at_45) ?_
    show Steps p.tables e below (T16.setTop (mkF m 47 #[.val (.int p1), .val (.int p2), .unset, .unset, .unset, .unset, .unset, .unset, .unset, .unset] [(.int (7 : Int32)), (.ref b2), (.ref b2)])) _
    refine XS.sipush X16.here hx rfl (hb hby at_47) ?_
    show Steps p.tables e below (T16.setTop (mkF m 50 #[.val (.int p1), .val (.int p2), .unset, .unset, .unset, .unset, .unset, .unset, .unset, .unset] [(.int (895 : Int32)), (.int (7 : Int32)), (.ref b2), (.ref b2)])) _
    exact hk
  obtain ⟨T18, h18, X18, e18, W18, V18', st18⟩ := own_stI X16 hx hZ e16 V16 (j := (7 : Int32)) 7 rfl ⟨by decide, by decide⟩ (by decide) (g := (mkF m 50 #[.val (.int p1), .val (.int p2), .unset, .unset, .unset, .unset, .unset, .unset, .unset, .unset] [(.int (895 : Int32)), (.int (7 : Int32)), (.ref b2), (.ref b2)])) rfl rfl (hb hby at_50)
  have V18 : Arv Z h18 b2 c2 .int (15 : Int32) [(.int (65 : Int32)), (.int (95 : Int32)), (.int (97 : Int32)), (.int (192 : Int32)), (.int (216 : Int32)), (.int (248 : Int32)), (.int (880 : Int32)), (.int (895 : Int32)), (.int (0 : Int32)), (.int (0 : Int32)), (.int (0 : Int32)), (.int (0 : Int32)), (.int (0 : Int32)), (.int (0 : Int32)), (.int (0 : Int32))] (.int (0 : Int32)) := V18'
  have N18 := Fr.snoc X18 N16 gb2
  have sz18 : n0 ≤ h18.size := Nat.le_trans sz16 (Keep.of_wr W18).1
  have K18 : ∀ t, Steps p.tables e below (T18.setTop (mkF m 51 #[.val (.int p1), .val (.int p2), .unset, .unset, .unset, .unset, .unset, .unset, .unset, .unset] [(.ref b2)])) t → Steps p.tables e below (s₁.setTop (entryFrame m #[(.int p1), (.int p2)] maxLocals)) t := fun t hk => K17 t (st18 _ hk)
  have K19 : ∀ t, Steps p.tables e below (T18.setTop (mkF m 57 #[.val (.int p1), .val (.int p2), .unset, .unset, .unset, .unset, .unset, .unset, .unset, .unset] [(.int (8204 : Int32)), (.int (8 : Int32)), (.ref b2), (.ref b2)])) t → Steps p.tables e below (s₁.setTop (entryFrame m #[(.int p1), (.int p2)] maxLocals)) t := by
    intro t hk
    refine K18 t ?_
    show Steps p.tables e below (T18.setTop (mkF m 51 #[.val (.int p1), .val (.int p2), .unset, .unset, .unset, .unset, .unset, .unset, .unset, .unset] [(.ref b2)])) _
    refine XS.dup X18.here hx rfl (hb hby at_51) rfl rfl ?_
    show Steps p.tables e below (T18.setTop (mkF m 52 #[.val (.int p1), .val (.int p2), .unset, .unset, .unset, .unset, .unset, .unset, .unset, .unset] [(.ref b2), (.ref b2)])) _
    refine XS.bipush X18.here hx rfl (hb hby at_52) ?_
    show Steps p.tables e below (T18.setTop (mkF m 54 #[.val (.int p1), .val (.int p2), .unset, .unset, .unset, .unset, .unset, .unset, .unset, .unset] [(.int (8 : Int32)), (.ref b2), (.ref b2)])) _
    refine XS.sipush X18.here hx rfl (hb hby at_54) ?_
    show Steps p.tables e below (T18.setTop (mkF m 57 #[.val (.int p1), .val (.int p2), .unset, .unset, .unset, .unset, .unset, .unset, .unset, .unset] [(.int (8204 : Int32)), (.int (8 : Int32)), (.ref b2), (.ref b2)])) _
    exact hk
  obtain ⟨T20, h20, X20, e20, W20, V20', st20⟩ := own_stI X18 hx hZ e18 V18 (j := (8 : Int32)) 8 rfl ⟨by decide, by decide⟩ (by decide) (g := (mkF m 57 #[.val (.int p1), .val (.int p2), .unset, .unset, .unset, .unset, .unset, .unset, .unset, .unset] [(.int (8204 : Int32)), (.int (8 : Int32)), (.ref b2), (.ref b2)])) rfl rfl (hb hby at_57)
  have V20 : Arv Z h20 b2 c2 .int (15 : Int32) [(.int (65 : Int32)), (.int (95 : Int32)), (.int (97 : Int32)), (.int (192 : Int32)), (.int (216 : Int32)), (.int (248 : Int32)), (.int (880 : Int32)), (.int (895 : Int32)), (.int (8204 : Int32)), (.int (0 : Int32)), (.int (0 : Int32)), (.int (0 : Int32)), (.int (0 : Int32)), (.int (0 : Int32)), (.int (0 : Int32))] (.int (0 : Int32)) := V20'
  have N20 := Fr.snoc X20 N18 gb2
  have sz20 : n0 ≤ h20.size := Nat.le_trans sz18 (Keep.of_wr W20).1
  have K20 : ∀ t, Steps p.tables e below (T20.setTop (mkF m 58 #[.val (.int p1), .val (.int p2), .unset, .unset, .unset, .unset, .unset, .unset, .unset, .unset] [(.ref b2)])) t → Steps p.tables e below (s₁.setTop (entryFrame m #[(.int p1), (.int p2)] maxLocals)) t := fun t hk => K19 t (st20 _ hk)
  have K21 : ∀ t, Steps p.tables e below (T20.setTop (mkF m 64 #[.val (.int p1), .val (.int p2), .unset, .unset, .unset, .unset, .unset, .unset, .unset, .unset] [(.int (8304 : Int32)), (.int (9 : Int32)), (.ref b2), (.ref b2)])) t → Steps p.tables e below (s₁.setTop (entryFrame m #[(.int p1), (.int p2)] maxLocals)) t := by
    intro t hk
    refine K20 t ?_
    show Steps p.tables e below (T20.setTop (mkF m 58 #[.val (.int p1), .val (.int p2), .unset, .unset, .unset, .unset, .unset, .unset, .unset, .unset] [(.ref b2)])) _
    refine XS.dup X20.here hx rfl (hb hby at_58) rfl rfl ?_
    show Steps p.tables e below (T20.setTop (mkF m 59 #[.val (.int p1), .val (.int p2), .unset, .unset, .unset, .unset, .unset, .unset, .unset, .unset] [(.ref b2), (.ref b2)])) _
    refine XS.bipush X20.here hx rfl (hb hby at_59) ?_
    show Steps p.tables e below (T20.setTop (mkF m 61 #[.val (.int p1), .val (.int p2), .unset, .unset, .unset, .unset, .unset, .unset, .unset, .unset] [(.int (9 : Int32)), (.ref b2), (.ref b2)])) _
    refine XS.sipush X20.here hx rfl (hb hby at_61) ?_
    show Steps p.tables e below (T20.setTop (mkF m 64 #[.val (.int p1), .val (.int p2), .unset, .unset, .unset, .unset, .unset, .unset, .unset, .unset] [(.int (8304 : Int32)), (.int (9 : Int32)), (.ref b2), (.ref b2)])) _
    exact hk
  obtain ⟨T22, h22, X22, e22, W22, V22', st22⟩ := own_stI X20 hx hZ e20 V20 (j := (9 : Int32)) 9 rfl ⟨by decide, by decide⟩ (by decide) (g := (mkF m 64 #[.val (.int p1), .val (.int p2), .unset, .unset, .unset, .unset, .unset, .unset, .unset, .unset] [(.int (8304 : Int32)), (.int (9 : Int32)), (.ref b2), (.ref b2)])) rfl rfl (hb hby at_64)
  have V22 : Arv Z h22 b2 c2 .int (15 : Int32) [(.int (65 : Int32)), (.int (95 : Int32)), (.int (97 : Int32)), (.int (192 : Int32)), (.int (216 : Int32)), (.int (248 : Int32)), (.int (880 : Int32)), (.int (895 : Int32)), (.int (8204 : Int32)), (.int (8304 : Int32)), (.int (0 : Int32)), (.int (0 : Int32)), (.int (0 : Int32)), (.int (0 : Int32)), (.int (0 : Int32))] (.int (0 : Int32)) := V22'
  have N22 := Fr.snoc X22 N20 gb2
  have sz22 : n0 ≤ h22.size := Nat.le_trans sz20 (Keep.of_wr W22).1
  have K22 : ∀ t, Steps p.tables e below (T22.setTop (mkF m 65 #[.val (.int p1), .val (.int p2), .unset, .unset, .unset, .unset, .unset, .unset, .unset, .unset] [(.ref b2)])) t → Steps p.tables e below (s₁.setTop (entryFrame m #[(.int p1), (.int p2)] maxLocals)) t := fun t hk => K21 t (st22 _ hk)
  have K23 : ∀ t, Steps p.tables e below (T22.setTop (mkF m 71 #[.val (.int p1), .val (.int p2), .unset, .unset, .unset, .unset, .unset, .unset, .unset, .unset] [(.int (11264 : Int32)), (.int (10 : Int32)), (.ref b2), (.ref b2)])) t → Steps p.tables e below (s₁.setTop (entryFrame m #[(.int p1), (.int p2)] maxLocals)) t := by
    intro t hk
    refine K22 t ?_
    show Steps p.tables e below (T22.setTop (mkF m 65 #[.val (.int p1), .val (.int p2), .unset, .unset, .unset, .unset, .unset, .unset, .unset, .unset] [(.ref b2)])) _
    refine XS.dup X22.here hx rfl (hb hby at_65) rfl rfl ?_
    show Steps p.tables e below (T22.setTop (mkF m 66 #[.val (.int p1), .val (.int p2), .unset, .unset, .unset, .unset, .unset, .unset, .unset, .unset] [(.ref b2), (.ref b2)])) _
    refine XS.bipush X22.here hx rfl (hb hby at_66) ?_
    show Steps p.tables e below (T22.setTop (mkF m 68 #[.val (.int p1), .val (.int p2), .unset, .unset, .unset, .unset, .unset, .unset, .unset, .unset] [(.int (10 : Int32)), (.ref b2), (.ref b2)])) _
    refine XS.sipush X22.here hx rfl (hb hby at_68) ?_
    show Steps p.tables e below (T22.setTop (mkF m 71 #[.val (.int p1), .val (.int p2), .unset, .unset, .unset, .unset, .unset, .unset, .unset, .unset] [(.int (11264 : Int32)), (.int (10 : Int32)), (.ref b2), (.ref b2)])) _
    exact hk
  obtain ⟨T24, h24, X24, e24, W24, V24', st24⟩ := own_stI X22 hx hZ e22 V22 (j := (10 : Int32)) 10 rfl ⟨by decide, by decide⟩ (by decide) (g := (mkF m 71 #[.val (.int p1), .val (.int p2), .unset, .unset, .unset, .unset, .unset, .unset, .unset, .unset] [(.int (11264 : Int32)), (.int (10 : Int32)), (.ref b2), (.ref b2)])) rfl rfl (hb hby at_71)
  have V24 : Arv Z h24 b2 c2 .int (15 : Int32) [(.int (65 : Int32)), (.int (95 : Int32)), (.int (97 : Int32)), (.int (192 : Int32)), (.int (216 : Int32)), (.int (248 : Int32)), (.int (880 : Int32)), (.int (895 : Int32)), (.int (8204 : Int32)), (.int (8304 : Int32)), (.int (11264 : Int32)), (.int (0 : Int32)), (.int (0 : Int32)), (.int (0 : Int32)), (.int (0 : Int32))] (.int (0 : Int32)) := V24'
  have N24 := Fr.snoc X24 N22 gb2
  have sz24 : n0 ≤ h24.size := Nat.le_trans sz22 (Keep.of_wr W24).1
  have K24 : ∀ t, Steps p.tables e below (T24.setTop (mkF m 72 #[.val (.int p1), .val (.int p2), .unset, .unset, .unset, .unset, .unset, .unset, .unset, .unset] [(.ref b2)])) t → Steps p.tables e below (s₁.setTop (entryFrame m #[(.int p1), (.int p2)] maxLocals)) t := fun t hk => K23 t (st24 _ hk)
  have K25 : ∀ t, Steps p.tables e below (T24.setTop (mkF m 78 #[.val (.int p1), .val (.int p2), .unset, .unset, .unset, .unset, .unset, .unset, .unset, .unset] [(.int (12289 : Int32)), (.int (11 : Int32)), (.ref b2), (.ref b2)])) t → Steps p.tables e below (s₁.setTop (entryFrame m #[(.int p1), (.int p2)] maxLocals)) t := by
    intro t hk
    refine K24 t ?_
    show Steps p.tables e below (T24.setTop (mkF m 72 #[.val (.int p1), .val (.int p2), .unset, .unset, .unset, .unset, .unset, .unset, .unset, .unset] [(.ref b2)])) _
    refine XS.dup X24.here hx rfl (hb hby at_72) rfl rfl ?_
    show Steps p.tables e below (T24.setTop (mkF m 73 #[.val (.int p1), .val (.int p2), .unset, .unset, .unset, .unset, .unset, .unset, .unset, .unset] [(.ref b2), (.ref b2)])) _
    refine XS.bipush X24.here hx rfl (hb hby at_73) ?_
    show Steps p.tables e below (T24.setTop (mkF m 75 #[.val (.int p1), .val (.int p2), .unset, .unset, .unset, .unset, .unset, .unset, .unset, .unset] [(.int (11 : Int32)), (.ref b2), (.ref b2)])) _
    refine XS.sipush X24.here hx rfl (hb hby at_75) ?_
    show Steps p.tables e below (T24.setTop (mkF m 78 #[.val (.int p1), .val (.int p2), .unset, .unset, .unset, .unset, .unset, .unset, .unset, .unset] [(.int (12289 : Int32)), (.int (11 : Int32)), (.ref b2), (.ref b2)])) _
    exact hk
  obtain ⟨T26, h26, X26, e26, W26, V26', st26⟩ := own_stI X24 hx hZ e24 V24 (j := (11 : Int32)) 11 rfl ⟨by decide, by decide⟩ (by decide) (g := (mkF m 78 #[.val (.int p1), .val (.int p2), .unset, .unset, .unset, .unset, .unset, .unset, .unset, .unset] [(.int (12289 : Int32)), (.int (11 : Int32)), (.ref b2), (.ref b2)])) rfl rfl (hb hby at_78)
  have V26 : Arv Z h26 b2 c2 .int (15 : Int32) [(.int (65 : Int32)), (.int (95 : Int32)), (.int (97 : Int32)), (.int (192 : Int32)), (.int (216 : Int32)), (.int (248 : Int32)), (.int (880 : Int32)), (.int (895 : Int32)), (.int (8204 : Int32)), (.int (8304 : Int32)), (.int (11264 : Int32)), (.int (12289 : Int32)), (.int (0 : Int32)), (.int (0 : Int32)), (.int (0 : Int32))] (.int (0 : Int32)) := V26'
  have N26 := Fr.snoc X26 N24 gb2
  have sz26 : n0 ≤ h26.size := Nat.le_trans sz24 (Keep.of_wr W26).1
  have K26 : ∀ t, Steps p.tables e below (T26.setTop (mkF m 79 #[.val (.int p1), .val (.int p2), .unset, .unset, .unset, .unset, .unset, .unset, .unset, .unset] [(.ref b2)])) t → Steps p.tables e below (s₁.setTop (entryFrame m #[(.int p1), (.int p2)] maxLocals)) t := fun t hk => K25 t (st26 _ hk)
  have K27 : ∀ t, Steps p.tables e below (T26.setTop (mkF m 84 #[.val (.int p1), .val (.int p2), .unset, .unset, .unset, .unset, .unset, .unset, .unset, .unset] [(.int (63744 : Int32)), (.int (12 : Int32)), (.ref b2), (.ref b2)])) t → Steps p.tables e below (s₁.setTop (entryFrame m #[(.int p1), (.int p2)] maxLocals)) t := by
    intro t hk
    refine K26 t ?_
    show Steps p.tables e below (T26.setTop (mkF m 79 #[.val (.int p1), .val (.int p2), .unset, .unset, .unset, .unset, .unset, .unset, .unset, .unset] [(.ref b2)])) _
    refine XS.dup X26.here hx rfl (hb hby at_79) rfl rfl ?_
    show Steps p.tables e below (T26.setTop (mkF m 80 #[.val (.int p1), .val (.int p2), .unset, .unset, .unset, .unset, .unset, .unset, .unset, .unset] [(.ref b2), (.ref b2)])) _
    refine XS.bipush X26.here hx rfl (hb hby at_80) ?_
    show Steps p.tables e below (T26.setTop (mkF m 82 #[.val (.int p1), .val (.int p2), .unset, .unset, .unset, .unset, .unset, .unset, .unset, .unset] [(.int (12 : Int32)), (.ref b2), (.ref b2)])) _
    refine X26.ldcInt hx hown (mvT hZ (hw _ (List.mem_of_getElem? (i := 1) rfl))) (g := (mkF m 82 #[.val (.int p1), .val (.int p2), .unset, .unset, .unset, .unset, .unset, .unset, .unset, .unset] [(.int (12 : Int32)), (.ref b2), (.ref b2)])) rfl (hb hby at_82) _ ?_
    show Steps p.tables e below (T26.setTop (mkF m 84 #[.val (.int p1), .val (.int p2), .unset, .unset, .unset, .unset, .unset, .unset, .unset, .unset] [(.int (63744 : Int32)), (.int (12 : Int32)), (.ref b2), (.ref b2)])) _
    exact hk
  obtain ⟨T28, h28, X28, e28, W28, V28', st28⟩ := own_stI X26 hx hZ e26 V26 (j := (12 : Int32)) 12 rfl ⟨by decide, by decide⟩ (by decide) (g := (mkF m 84 #[.val (.int p1), .val (.int p2), .unset, .unset, .unset, .unset, .unset, .unset, .unset, .unset] [(.int (63744 : Int32)), (.int (12 : Int32)), (.ref b2), (.ref b2)])) rfl rfl (hb hby at_84)
  have V28 : Arv Z h28 b2 c2 .int (15 : Int32) [(.int (65 : Int32)), (.int (95 : Int32)), (.int (97 : Int32)), (.int (192 : Int32)), (.int (216 : Int32)), (.int (248 : Int32)), (.int (880 : Int32)), (.int (895 : Int32)), (.int (8204 : Int32)), (.int (8304 : Int32)), (.int (11264 : Int32)), (.int (12289 : Int32)), (.int (63744 : Int32)), (.int (0 : Int32)), (.int (0 : Int32))] (.int (0 : Int32)) := V28'
  have N28 := Fr.snoc X28 N26 gb2
  have sz28 : n0 ≤ h28.size := Nat.le_trans sz26 (Keep.of_wr W28).1
  have K28 : ∀ t, Steps p.tables e below (T28.setTop (mkF m 85 #[.val (.int p1), .val (.int p2), .unset, .unset, .unset, .unset, .unset, .unset, .unset, .unset] [(.ref b2)])) t → Steps p.tables e below (s₁.setTop (entryFrame m #[(.int p1), (.int p2)] maxLocals)) t := fun t hk => K27 t (st28 _ hk)
  have K29 : ∀ t, Steps p.tables e below (T28.setTop (mkF m 90 #[.val (.int p1), .val (.int p2), .unset, .unset, .unset, .unset, .unset, .unset, .unset, .unset] [(.int (65008 : Int32)), (.int (13 : Int32)), (.ref b2), (.ref b2)])) t → Steps p.tables e below (s₁.setTop (entryFrame m #[(.int p1), (.int p2)] maxLocals)) t := by
    intro t hk
    refine K28 t ?_
    show Steps p.tables e below (T28.setTop (mkF m 85 #[.val (.int p1), .val (.int p2), .unset, .unset, .unset, .unset, .unset, .unset, .unset, .unset] [(.ref b2)])) _
    refine XS.dup X28.here hx rfl (hb hby at_85) rfl rfl ?_
    show Steps p.tables e below (T28.setTop (mkF m 86 #[.val (.int p1), .val (.int p2), .unset, .unset, .unset, .unset, .unset, .unset, .unset, .unset] [(.ref b2), (.ref b2)])) _
    refine XS.bipush X28.here hx rfl (hb hby at_86) ?_
    show Steps p.tables e below (T28.setTop (mkF m 88 #[.val (.int p1), .val (.int p2), .unset, .unset, .unset, .unset, .unset, .unset, .unset, .unset] [(.int (13 : Int32)), (.ref b2), (.ref b2)])) _
    refine X28.ldcInt hx hown (mvT hZ (hw _ (List.mem_of_getElem? (i := 2) rfl))) (g := (mkF m 88 #[.val (.int p1), .val (.int p2), .unset, .unset, .unset, .unset, .unset, .unset, .unset, .unset] [(.int (13 : Int32)), (.ref b2), (.ref b2)])) rfl (hb hby at_88) _ ?_
    show Steps p.tables e below (T28.setTop (mkF m 90 #[.val (.int p1), .val (.int p2), .unset, .unset, .unset, .unset, .unset, .unset, .unset, .unset] [(.int (65008 : Int32)), (.int (13 : Int32)), (.ref b2), (.ref b2)])) _
    exact hk
  obtain ⟨T30, h30, X30, e30, W30, V30', st30⟩ := own_stI X28 hx hZ e28 V28 (j := (13 : Int32)) 13 rfl ⟨by decide, by decide⟩ (by decide) (g := (mkF m 90 #[.val (.int p1), .val (.int p2), .unset, .unset, .unset, .unset, .unset, .unset, .unset, .unset] [(.int (65008 : Int32)), (.int (13 : Int32)), (.ref b2), (.ref b2)])) rfl rfl (hb hby at_90)
  have V30 : Arv Z h30 b2 c2 .int (15 : Int32) [(.int (65 : Int32)), (.int (95 : Int32)), (.int (97 : Int32)), (.int (192 : Int32)), (.int (216 : Int32)), (.int (248 : Int32)), (.int (880 : Int32)), (.int (895 : Int32)), (.int (8204 : Int32)), (.int (8304 : Int32)), (.int (11264 : Int32)), (.int (12289 : Int32)), (.int (63744 : Int32)), (.int (65008 : Int32)), (.int (0 : Int32))] (.int (0 : Int32)) := V30'
  have N30 := Fr.snoc X30 N28 gb2
  have sz30 : n0 ≤ h30.size := Nat.le_trans sz28 (Keep.of_wr W30).1
  have K30 : ∀ t, Steps p.tables e below (T30.setTop (mkF m 91 #[.val (.int p1), .val (.int p2), .unset, .unset, .unset, .unset, .unset, .unset, .unset, .unset] [(.ref b2)])) t → Steps p.tables e below (s₁.setTop (entryFrame m #[(.int p1), (.int p2)] maxLocals)) t := fun t hk => K29 t (st30 _ hk)
  have K31 : ∀ t, Steps p.tables e below (T30.setTop (mkF m 96 #[.val (.int p1), .val (.int p2), .unset, .unset, .unset, .unset, .unset, .unset, .unset, .unset] [(.int (65536 : Int32)), (.int (14 : Int32)), (.ref b2), (.ref b2)])) t → Steps p.tables e below (s₁.setTop (entryFrame m #[(.int p1), (.int p2)] maxLocals)) t := by
    intro t hk
    refine K30 t ?_
    show Steps p.tables e below (T30.setTop (mkF m 91 #[.val (.int p1), .val (.int p2), .unset, .unset, .unset, .unset, .unset, .unset, .unset, .unset] [(.ref b2)])) _
    refine XS.dup X30.here hx rfl (hb hby at_91) rfl rfl ?_
    show Steps p.tables e below (T30.setTop (mkF m 92 #[.val (.int p1), .val (.int p2), .unset, .unset, .unset, .unset, .unset, .unset, .unset, .unset] [(.ref b2), (.ref b2)])) _
    refine XS.bipush X30.here hx rfl (hb hby at_92) ?_
    show Steps p.tables e below (T30.setTop (mkF m 94 #[.val (.int p1), .val (.int p2), .unset, .unset, .unset, .unset, .unset, .unset, .unset, .unset] [(.int (14 : Int32)), (.ref b2), (.ref b2)])) _
    refine X30.ldcInt hx hown (mvT hZ (hw _ (List.mem_of_getElem? (i := 3) rfl))) (g := (mkF m 94 #[.val (.int p1), .val (.int p2), .unset, .unset, .unset, .unset, .unset, .unset, .unset, .unset] [(.int (14 : Int32)), (.ref b2), (.ref b2)])) rfl (hb hby at_94) _ ?_
    show Steps p.tables e below (T30.setTop (mkF m 96 #[.val (.int p1), .val (.int p2), .unset, .unset, .unset, .unset, .unset, .unset, .unset, .unset] [(.int (65536 : Int32)), (.int (14 : Int32)), (.ref b2), (.ref b2)])) _
    exact hk
  obtain ⟨T32, h32, X32, e32, W32, V32', st32⟩ := own_stI X30 hx hZ e30 V30 (j := (14 : Int32)) 14 rfl ⟨by decide, by decide⟩ (by decide) (g := (mkF m 96 #[.val (.int p1), .val (.int p2), .unset, .unset, .unset, .unset, .unset, .unset, .unset, .unset] [(.int (65536 : Int32)), (.int (14 : Int32)), (.ref b2), (.ref b2)])) rfl rfl (hb hby at_96)
  have V32 : Arv Z h32 b2 c2 .int (15 : Int32) [(.int (65 : Int32)), (.int (95 : Int32)), (.int (97 : Int32)), (.int (192 : Int32)), (.int (216 : Int32)), (.int (248 : Int32)), (.int (880 : Int32)), (.int (895 : Int32)), (.int (8204 : Int32)), (.int (8304 : Int32)), (.int (11264 : Int32)), (.int (12289 : Int32)), (.int (63744 : Int32)), (.int (65008 : Int32)), (.int (65536 : Int32))] (.int (0 : Int32)) := V32'
  have N32 := Fr.snoc X32 N30 gb2
  have sz32 : n0 ≤ h32.size := Nat.le_trans sz30 (Keep.of_wr W32).1
  have K32 : ∀ t, Steps p.tables e below (T32.setTop (mkF m 97 #[.val (.int p1), .val (.int p2), .unset, .unset, .unset, .unset, .unset, .unset, .unset, .unset] [(.ref b2)])) t → Steps p.tables e below (s₁.setTop (entryFrame m #[(.int p1), (.int p2)] maxLocals)) t := fun t hk => K31 t (st32 _ hk)
  have K33 : ∀ t, Steps p.tables e below (T32.setTop (mkF m 100 #[.val (.int p1), .val (.int p2), .val (.ref b2), .unset, .unset, .unset, .unset, .unset, .unset, .unset] [(.int (15 : Int32))])) t → Steps p.tables e below (s₁.setTop (entryFrame m #[(.int p1), (.int p2)] maxLocals)) t := by
    intro t hk
    refine K32 t ?_
    show Steps p.tables e below (T32.setTop (mkF m 97 #[.val (.int p1), .val (.int p2), .unset, .unset, .unset, .unset, .unset, .unset, .unset, .unset] [(.ref b2)])) _
    refine XS.astoreN X32.here hx rfl (hb hby at_97) rfl rfl (l' := #[.val (.int p1), .val (.int p2), .val (.ref b2), .unset, .unset, .unset, .unset, .unset, .unset, .unset]) rfl ?_
    show Steps p.tables e below (T32.setTop (mkF m 98 #[.val (.int p1), .val (.int p2), .val (.ref b2), .unset, .unset, .unset, .unset, .unset, .unset, .unset] [])) _
    refine XS.bipush X32.here hx rfl (hb hby at_98) ?_
    show Steps p.tables e below (T32.setTop (mkF m 100 #[.val (.int p1), .val (.int p2), .val (.ref b2), .unset, .unset, .unset, .unset, .unset, .unset, .unset] [(.int (15 : Int32))])) _
    exact hk
  obtain ⟨T34, h34, c34, X34, e34, E34, A34, st34⟩ := newP X32 hx hZ (hw _ (List.mem_of_getElem? (i := 0) rfl)) e32 (g := (mkF m 100 #[.val (.int p1), .val (.int p2), .val (.ref b2), .unset, .unset, .unset, .unset, .unset, .unset, .unset] [(.int (15 : Int32))])) rfl (hb hby at_100) rfl (by decide) (cap := 15) (by decide) (by decide) (by decide) (by decide)
  obtain ⟨b34, g34⟩ : ∃ z, z = h32.size := ⟨_, rfl⟩
  rw [← g34] at A34 st34
  have V34 : Arv Z h34 b34 c34 .int (15 : Int32) [(.int (0 : Int32)), (.int (0 : Int32)), (.int (0 : Int32)), (.int (0 : Int32)), (.int (0 : Int32)), (.int (0 : Int32)), (.int (0 : Int32)), (.int (0 : Int32)), (.int (0 : Int32)), (.int (0 : Int32)), (.int (0 : Int32)), (.int (0 : Int32)), (.int (0 : Int32)), (.int (0 : Int32)), (.int (0 : Int32))] (.int (0 : Int32)) := (Arv.new A34 (by decide)).pad (pad_rep [] (.int (0 : Int32)) 15)
  have gb34 : n0 ≤ b34 := Nat.le_trans sz32 (Nat.le_of_eq g34.symm)
  have lt2_34 : b2 < b34 := by rw [g34]; exact V32.lt
  have ne2_34 : b2 ≠ b34 := Nat.ne_of_lt lt2_34
  have V35 := V32.ext E34
  have K34 : ∀ t, Steps p.tables e below (T34.setTop (mkF m 102 #[.val (.int p1), .val (.int p2), .val (.ref b2), .unset, .unset, .unset, .unset, .unset, .unset, .unset] [(.ref b34)])) t → Steps p.tables e below (s₁.setTop (entryFrame m #[(.int p1), (.int p2)] maxLocals)) t := fun t hk => K33 t (st34 _ hk)
  have sz34 : n0 ≤ h34.size := Nat.le_trans sz32 E34.1
  have K36 : ∀ t, Steps p.tables e below (T34.setTop (mkF m 106 #[.val (.int p1), .val (.int p2), .val (.ref b2), .unset, .unset, .unset, .unset, .unset, .unset, .unset] [(.int (90 : Int32)), (.int (0 : Int32)), (.ref b34), (.ref b34)])) t → Steps p.tables e below (s₁.setTop (entryFrame m #[(.int p1), (.int p2)] maxLocals)) t := by
    intro t hk
    refine K34 t ?_
    show Steps p.tables e below (T34.setTop (mkF m 102 #[.val (.int p1), .val (.int p2), .val (.ref b2), .unset, .unset, .unset, .unset, .unset, .unset, .unset] [(.ref b34)])) _
    refine XS.dup X34.here hx rfl (hb hby at_102) rfl rfl ?_
    show Steps p.tables e below (T34.setTop (mkF m 103 #[.val (.int p1), .val (.int p2), .val (.ref b2), .unset, .unset, .unset, .unset, .unset, .unset, .unset] [(.ref b34), (.ref b34)])) _
    refine XS.iconst X34.here hx rfl (hb hby at_103) ?_
    show Steps p.tables e below (T34.setTop (mkF m 104 #[.val (.int p1), .val (.int p2), .val (.ref b2), .unset, .unset, .unset, .unset, .unset, .unset, .unset] [(.int (0 : Int32)), (.ref b34), (.ref b34)])) _
    refine XS.bipush X34.here hx rfl (hb hby at_104) ?_
    show Steps p.tables e below (T34.setTop (mkF m 106 #[.val (.int p1), .val (.int p2), .val (.ref b2), .unset, .unset, .unset, .unset, .unset, .unset, .unset] [(.int (90 : Int32)), (.int (0 : Int32)), (.ref b34), (.ref b34)])) _
    exact hk
  obtain ⟨T37, h37, X37, e37, W37, V37', st37⟩ := own_stI X34 hx hZ e34 V34 (j := (0 : Int32)) 0 rfl ⟨by decide, by decide⟩ (by decide) (g := (mkF m 106 #[.val (.int p1), .val (.int p2), .val (.ref b2), .unset, .unset, .unset, .unset, .unset, .unset, .unset] [(.int (90 : Int32)), (.int (0 : Int32)), (.ref b34), (.ref b34)])) rfl rfl (hb hby at_106)
  have V37 : Arv Z h37 b34 c34 .int (15 : Int32) [(.int (90 : Int32)), (.int (0 : Int32)), (.int (0 : Int32)), (.int (0 : Int32)), (.int (0 : Int32)), (.int (0 : Int32)), (.int (0 : Int32)), (.int (0 : Int32)), (.int (0 : Int32)), (.int (0 : Int32)), (.int (0 : Int32)), (.int (0 : Int32)), (.int (0 : Int32)), (.int (0 : Int32)), (.int (0 : Int32))] (.int (0 : Int32)) := V37'
  have N37 := Fr.snoc X37 N32 gb34
  have sz37 : n0 ≤ h37.size := Nat.le_trans sz34 (Keep.of_wr W37).1
  have V38 := V35.other W37 ne2_34
  have K37 : ∀ t, Steps p.tables e below (T37.setTop (mkF m 107 #[.val (.int p1), .val (.int p2), .val (.ref b2), .unset, .unset, .unset, .unset, .unset, .unset, .unset] [(.ref b34)])) t → Steps p.tables e below (s₁.setTop (entryFrame m #[(.int p1), (.int p2)] maxLocals)) t := fun t hk => K36 t (st37 _ hk)
  have K39 : ∀ t, Steps p.tables e below (T37.setTop (mkF m 111 #[.val (.int p1), .val (.int p2), .val (.ref b2), .unset, .unset, .unset, .unset, .unset, .unset, .unset] [(.int (95 : Int32)), (.int (1 : Int32)), (.ref b34), (.ref b34)])) t → Steps p.tables e below (s₁.setTop (entryFrame m #[(.int p1), (.int p2)] maxLocals)) t := by
    intro t hk
    refine K37 t ?_
    show Steps p.tables e below (T37.setTop (mkF m 107 #[.val (.int p1), .val (.int p2), .val (.ref b2), .unset, .unset, .unset, .unset, .unset, .unset, .unset] [(.ref b34)])) _
    refine XS.dup X37.here hx rfl (hb hby at_107) rfl rfl ?_
    show Steps p.tables e below (T37.setTop (mkF m 108 #[.val (.int p1), .val (.int p2), .val (.ref b2), .unset, .unset, .unset, .unset, .unset, .unset, .unset] [(.ref b34), (.ref b34)])) _
    refine XS.iconst X37.here hx rfl (hb hby at_108) ?_
    show Steps p.tables e below (T37.setTop (mkF m 109 #[.val (.int p1), .val (.int p2), .val (.ref b2), .unset, .unset, .unset, .unset, .unset, .unset, .unset] [(.int (1 : Int32)), (.ref b34), (.ref b34)])) _
    refine XS.bipush X37.here hx rfl (hb hby at_109) ?_
    show Steps p.tables e below (T37.setTop (mkF m 111 #[.val (.int p1), .val (.int p2), .val (.ref b2), .unset, .unset, .unset, .unset, .unset, .unset, .unset] [(.int (95 : Int32)), (.int (1 : Int32)), (.ref b34), (.ref b34)])) _
    exact hk
  obtain ⟨T40, h40, X40, e40, W40, V40', st40⟩ := own_stI X37 hx hZ e37 V37 (j := (1 : Int32)) 1 rfl ⟨by decide, by decide⟩ (by decide) (g := (mkF m 111 #[.val (.int p1), .val (.int p2), .val (.ref b2), .unset, .unset, .unset, .unset, .unset, .unset, .unset] [(.int (95 : Int32)), (.int (1 : Int32)), (.ref b34), (.ref b34)])) rfl rfl (hb hby at_111)
  have V40 : Arv Z h40 b34 c34 .int (15 : Int32) [(.int (90 : Int32)), (.int (95 : Int32)), (.int (0 : Int32)), (.int (0 : Int32)), (.int (0 : Int32)), (.int (0 : Int32)), (.int (0 : Int32)), (.int (0 : Int32)), (.int (0 : Int32)), (.int (0 : Int32)), (.int (0 : Int32)), (.int (0 : Int32)), (.int (0 : Int32)), (.int (0 : Int32)), (.int (0 : Int32))] (.int (0 : Int32)) := V40'
  have N40 := Fr.snoc X40 N37 gb34
  have sz40 : n0 ≤ h40.size := Nat.le_trans sz37 (Keep.of_wr W40).1
  have V41 := V38.other W40 ne2_34
  have K40 : ∀ t, Steps p.tables e below (T40.setTop (mkF m 112 #[.val (.int p1), .val (.int p2), .val (.ref b2), .unset, .unset, .unset, .unset, .unset, .unset, .unset] [(.ref b34)])) t → Steps p.tables e below (s₁.setTop (entryFrame m #[(.int p1), (.int p2)] maxLocals)) t := fun t hk => K39 t (st40 _ hk)
  have K42 : ∀ t, Steps p.tables e below (T40.setTop (mkF m 116 #[.val (.int p1), .val (.int p2), .val (.ref b2), .unset, .unset, .unset, .unset, .unset, .unset, .unset] [(.int (122 : Int32)), (.int (2 : Int32)), (.ref b34), (.ref b34)])) t → Steps p.tables e below (s₁.setTop (entryFrame m #[(.int p1), (.int p2)] maxLocals)) t := by
    intro t hk
    refine K40 t ?_
    show Steps p.tables e below (T40.setTop (mkF m 112 #[.val (.int p1), .val (.int p2), .val (.ref b2), .unset, .unset, .unset, .unset, .unset, .unset, .unset] [(.ref b34)])) _
    refine XS.dup X40.here hx rfl (hb hby at_112) rfl rfl ?_
    show Steps p.tables e below (T40.setTop (mkF m 113 #[.val (.int p1), .val (.int p2), .val (.ref b2), .unset, .unset, .unset, .unset, .unset, .unset, .unset] [(.ref b34), (.ref b34)])) _
    refine XS.iconst X40.here hx rfl (hb hby at_113) ?_
    show Steps p.tables e below (T40.setTop (mkF m 114 #[.val (.int p1), .val (.int p2), .val (.ref b2), .unset, .unset, .unset, .unset, .unset, .unset, .unset] [(.int (2 : Int32)), (.ref b34), (.ref b34)])) _
    refine XS.bipush X40.here hx rfl (hb hby at_114) ?_
    show Steps p.tables e below (T40.setTop (mkF m 116 #[.val (.int p1), .val (.int p2), .val (.ref b2), .unset, .unset, .unset, .unset, .unset, .unset, .unset] [(.int (122 : Int32)), (.int (2 : Int32)), (.ref b34), (.ref b34)])) _
    exact hk
  obtain ⟨T43, h43, X43, e43, W43, V43', st43⟩ := own_stI X40 hx hZ e40 V40 (j := (2 : Int32)) 2 rfl ⟨by decide, by decide⟩ (by decide) (g := (mkF m 116 #[.val (.int p1), .val (.int p2), .val (.ref b2), .unset, .unset, .unset, .unset, .unset, .unset, .unset] [(.int (122 : Int32)), (.int (2 : Int32)), (.ref b34), (.ref b34)])) rfl rfl (hb hby at_116)
  have V43 : Arv Z h43 b34 c34 .int (15 : Int32) [(.int (90 : Int32)), (.int (95 : Int32)), (.int (122 : Int32)), (.int (0 : Int32)), (.int (0 : Int32)), (.int (0 : Int32)), (.int (0 : Int32)), (.int (0 : Int32)), (.int (0 : Int32)), (.int (0 : Int32)), (.int (0 : Int32)), (.int (0 : Int32)), (.int (0 : Int32)), (.int (0 : Int32)), (.int (0 : Int32))] (.int (0 : Int32)) := V43'
  have N43 := Fr.snoc X43 N40 gb34
  have sz43 : n0 ≤ h43.size := Nat.le_trans sz40 (Keep.of_wr W43).1
  have V44 := V41.other W43 ne2_34
  have K43 : ∀ t, Steps p.tables e below (T43.setTop (mkF m 117 #[.val (.int p1), .val (.int p2), .val (.ref b2), .unset, .unset, .unset, .unset, .unset, .unset, .unset] [(.ref b34)])) t → Steps p.tables e below (s₁.setTop (entryFrame m #[(.int p1), (.int p2)] maxLocals)) t := fun t hk => K42 t (st43 _ hk)
  have K45 : ∀ t, Steps p.tables e below (T43.setTop (mkF m 122 #[.val (.int p1), .val (.int p2), .val (.ref b2), .unset, .unset, .unset, .unset, .unset, .unset, .unset] [(.int (214 : Int32)), (.int (3 : Int32)), (.ref b34), (.ref b34)])) t → Steps p.tables e below (s₁.setTop (entryFrame m #[(.int p1), (.int p2)] maxLocals)) t := by
    intro t hk
    refine K43 t ?_
    show Steps p.tables e below (T43.setTop (mkF m 117 #[.val (.int p1), .val (.int p2), .val (.ref b2), .unset, .unset, .unset, .unset, .unset, .unset, .unset] [(.ref b34)])) _
    refine XS.dup X43.here hx rfl (hb hby at_117) rfl rfl ?_
    show Steps p.tables e below (T43.setTop (mkF m 118 #[.val (.int p1), .val (.int p2), .val (.ref b2), .unset, .unset, .unset, .unset, .unset, .unset, .unset] [(.ref b34), (.ref b34)])) _
    refine XS.iconst X43.here hx rfl (hb hby at_118) ?_
    show Steps p.tables e below (T43.setTop (mkF m 119 #[.val (.int p1), .val (.int p2), .val (.ref b2), .unset, .unset, .unset, .unset, .unset, .unset, .unset] [(.int (3 : Int32)), (.ref b34), (.ref b34)])) _
    refine XS.sipush X43.here hx rfl (hb hby at_119) ?_
    show Steps p.tables e below (T43.setTop (mkF m 122 #[.val (.int p1), .val (.int p2), .val (.ref b2), .unset, .unset, .unset, .unset, .unset, .unset, .unset] [(.int (214 : Int32)), (.int (3 : Int32)), (.ref b34), (.ref b34)])) _
    exact hk
  obtain ⟨T46, h46, X46, e46, W46, V46', st46⟩ := own_stI X43 hx hZ e43 V43 (j := (3 : Int32)) 3 rfl ⟨by decide, by decide⟩ (by decide) (g := (mkF m 122 #[.val (.int p1), .val (.int p2), .val (.ref b2), .unset, .unset, .unset, .unset, .unset, .unset, .unset] [(.int (214 : Int32)), (.int (3 : Int32)), (.ref b34), (.ref b34)])) rfl rfl (hb hby at_122)
  have V46 : Arv Z h46 b34 c34 .int (15 : Int32) [(.int (90 : Int32)), (.int (95 : Int32)), (.int (122 : Int32)), (.int (214 : Int32)), (.int (0 : Int32)), (.int (0 : Int32)), (.int (0 : Int32)), (.int (0 : Int32)), (.int (0 : Int32)), (.int (0 : Int32)), (.int (0 : Int32)), (.int (0 : Int32)), (.int (0 : Int32)), (.int (0 : Int32)), (.int (0 : Int32))] (.int (0 : Int32)) := V46'
  have N46 := Fr.snoc X46 N43 gb34
  have sz46 : n0 ≤ h46.size := Nat.le_trans sz43 (Keep.of_wr W46).1
  have V47 := V44.other W46 ne2_34
  have K46 : ∀ t, Steps p.tables e below (T46.setTop (mkF m 123 #[.val (.int p1), .val (.int p2), .val (.ref b2), .unset, .unset, .unset, .unset, .unset, .unset, .unset] [(.ref b34)])) t → Steps p.tables e below (s₁.setTop (entryFrame m #[(.int p1), (.int p2)] maxLocals)) t := fun t hk => K45 t (st46 _ hk)
  have K48 : ∀ t, Steps p.tables e below (T46.setTop (mkF m 128 #[.val (.int p1), .val (.int p2), .val (.ref b2), .unset, .unset, .unset, .unset, .unset, .unset, .unset] [(.int (246 : Int32)), (.int (4 : Int32)), (.ref b34), (.ref b34)])) t → Steps p.tables e below (s₁.setTop (entryFrame m #[(.int p1), (.int p2)] maxLocals)) t := by
    intro t hk
    refine K46 t ?_
    show Steps p.tables e below (T46.setTop (mkF m 123 #[.val (.int p1), .val (.int p2), .val (.ref b2), .unset, .unset, .unset, .unset, .unset, .unset, .unset] [(.ref b34)])) _
    refine XS.dup X46.here hx rfl (hb hby at_123) rfl rfl ?_
    show Steps p.tables e below (T46.setTop (mkF m 124 #[.val (.int p1), .val (.int p2), .val (.ref b2), .unset, .unset, .unset, .unset, .unset, .unset, .unset] [(.ref b34), (.ref b34)])) _
    refine XS.iconst X46.here hx rfl (hb hby at_124) ?_
    show Steps p.tables e below (T46.setTop (mkF m 125 #[.val (.int p1), .val (.int p2), .val (.ref b2), .unset, .unset, .unset, .unset, .unset, .unset, .unset] [(.int (4 : Int32)), (.ref b34), (.ref b34)])) _
    refine XS.sipush X46.here hx rfl (hb hby at_125) ?_
    show Steps p.tables e below (T46.setTop (mkF m 128 #[.val (.int p1), .val (.int p2), .val (.ref b2), .unset, .unset, .unset, .unset, .unset, .unset, .unset] [(.int (246 : Int32)), (.int (4 : Int32)), (.ref b34), (.ref b34)])) _
    exact hk
  obtain ⟨T49, h49, X49, e49, W49, V49', st49⟩ := own_stI X46 hx hZ e46 V46 (j := (4 : Int32)) 4 rfl ⟨by decide, by decide⟩ (by decide) (g := (mkF m 128 #[.val (.int p1), .val (.int p2), .val (.ref b2), .unset, .unset, .unset, .unset, .unset, .unset, .unset] [(.int (246 : Int32)), (.int (4 : Int32)), (.ref b34), (.ref b34)])) rfl rfl (hb hby at_128)
  have V49 : Arv Z h49 b34 c34 .int (15 : Int32) [(.int (90 : Int32)), (.int (95 : Int32)), (.int (122 : Int32)), (.int (214 : Int32)), (.int (246 : Int32)), (.int (0 : Int32)), (.int (0 : Int32)), (.int (0 : Int32)), (.int (0 : Int32)), (.int (0 : Int32)), (.int (0 : Int32)), (.int (0 : Int32)), (.int (0 : Int32)), (.int (0 : Int32)), (.int (0 : Int32))] (.int (0 : Int32)) := V49'
  have N49 := Fr.snoc X49 N46 gb34
  have sz49 : n0 ≤ h49.size := Nat.le_trans sz46 (Keep.of_wr W49).1
  have V50 := V47.other W49 ne2_34
  have K49 : ∀ t, Steps p.tables e below (T49.setTop (mkF m 129 #[.val (.int p1), .val (.int p2), .val (.ref b2), .unset, .unset, .unset, .unset, .unset, .unset, .unset] [(.ref b34)])) t → Steps p.tables e below (s₁.setTop (entryFrame m #[(.int p1), (.int p2)] maxLocals)) t := fun t hk => K48 t (st49 _ hk)
  have K51 : ∀ t, Steps p.tables e below (T49.setTop (mkF m 134 #[.val (.int p1), .val (.int p2), .val (.ref b2), .unset, .unset, .unset, .unset, .unset, .unset, .unset] [(.int (767 : Int32)), (.int (5 : Int32)), (.ref b34), (.ref b34)])) t → Steps p.tables e below (s₁.setTop (entryFrame m #[(.int p1), (.int p2)] maxLocals)) t := by
    intro t hk
    refine K49 t ?_
    show Steps p.tables e below (T49.setTop (mkF m 129 #[.val (.int p1), .val (.int p2), .val (.ref b2), .unset, .unset, .unset, .unset, .unset, .unset, .unset] [(.ref b34)])) _
    refine XS.dup X49.here hx rfl (hb hby at_129) rfl rfl ?_
    show Steps p.tables e below (T49.setTop (mkF m 130 #[.val (.int p1), .val (.int p2), .val (.ref b2), .unset, .unset, .unset, .unset, .unset, .unset, .unset] [(.ref b34), (.ref b34)])) _
    refine XS.iconst X49.here hx rfl (hb hby at_130) ?_
    show Steps p.tables e below (T49.setTop (mkF m 131 #[.val (.int p1), .val (.int p2), .val (.ref b2), .unset, .unset, .unset, .unset, .unset, .unset, .unset] [(.int (5 : Int32)), (.ref b34), (.ref b34)])) _
    refine XS.sipush X49.here hx rfl (hb hby at_131) ?_
    show Steps p.tables e below (T49.setTop (mkF m 134 #[.val (.int p1), .val (.int p2), .val (.ref b2), .unset, .unset, .unset, .unset, .unset, .unset, .unset] [(.int (767 : Int32)), (.int (5 : Int32)), (.ref b34), (.ref b34)])) _
    exact hk
  obtain ⟨T52, h52, X52, e52, W52, V52', st52⟩ := own_stI X49 hx hZ e49 V49 (j := (5 : Int32)) 5 rfl ⟨by decide, by decide⟩ (by decide) (g := (mkF m 134 #[.val (.int p1), .val (.int p2), .val (.ref b2), .unset, .unset, .unset, .unset, .unset, .unset, .unset] [(.int (767 : Int32)), (.int (5 : Int32)), (.ref b34), (.ref b34)])) rfl rfl (hb hby at_134)
  have V52 : Arv Z h52 b34 c34 .int (15 : Int32) [(.int (90 : Int32)), (.int (95 : Int32)), (.int (122 : Int32)), (.int (214 : Int32)), (.int (246 : Int32)), (.int (767 : Int32)), (.int (0 : Int32)), (.int (0 : Int32)), (.int (0 : Int32)), (.int (0 : Int32)), (.int (0 : Int32)), (.int (0 : Int32)), (.int (0 : Int32)), (.int (0 : Int32)), (.int (0 : Int32))] (.int (0 : Int32)) := V52'
  have N52 := Fr.snoc X52 N49 gb34
  have sz52 : n0 ≤ h52.size := Nat.le_trans sz49 (Keep.of_wr W52).1
  have V53 := V50.other W52 ne2_34
  have K52 : ∀ t, Steps p.tables e below (T52.setTop (mkF m 135 #[.val (.int p1), .val (.int p2), .val (.ref b2), .unset, .unset, .unset, .unset, .unset, .unset, .unset] [(.ref b34)])) t → Steps p.tables e below (s₁.setTop (entryFrame m #[(.int p1), (.int p2)] maxLocals)) t := fun t hk => K51 t (st52 _ hk)
  have K54 : ∀ t, Steps p.tables e below (T52.setTop (mkF m 141 #[.val (.int p1), .val (.int p2), .val (.ref b2), .unset, .unset, .unset, .unset, .unset, .unset, .unset] [(.int (893 : Int32)), (.int (6 : Int32)), (.ref b34), (.ref b34)])) t → Steps p.tables e below (s₁.setTop (entryFrame m #[(.int p1), (.int p2)] maxLocals)) t := by
    intro t hk
    refine K52 t ?_
    show Steps p.tables e below (T52.setTop (mkF m 135 #[.val (.int p1), .val (.int p2), .val (.ref b2), .unset, .unset, .unset, .unset, .unset, .unset, .unset] [(.ref b34)])) _
    refine XS.dup X52.here hx rfl (hb hby at_135) rfl rfl ?_
    show Steps p.tables e below (T52.setTop (mkF m 136 #[.val (.int p1), .val (.int p2), .val (.ref b2), .unset, .unset, .unset, .unset, .unset, .unset, .unset] [(.ref b34), (.ref b34)])) _
    refine XS.bipush X52.here hx rfl (hb hby at_136) ?_
    show Steps p.tables e below (T52.setTop (mkF m 138 #[.val (.int p1), .val (.int p2), .val (.ref b2), .unset, .unset, .unset, .unset, .unset, .unset, .unset] [(.int (6 : Int32)), (.ref b34), (.ref b34)])) _
    refine XS.sipush X52.here hx rfl (hb hby at_138) ?_
    show Steps p.tables e below (T52.setTop (mkF m 141 #[.val (.int p1), .val (.int p2), .val (.ref b2), .unset, .unset, .unset, .unset, .unset, .unset, .unset] [(.int (893 : Int32)), (.int (6 : Int32)), (.ref b34), (.ref b34)])) _
    exact hk
  obtain ⟨T55, h55, X55, e55, W55, V55', st55⟩ := own_stI X52 hx hZ e52 V52 (j := (6 : Int32)) 6 rfl ⟨by decide, by decide⟩ (by decide) (g := (mkF m 141 #[.val (.int p1), .val (.int p2), .val (.ref b2), .unset, .unset, .unset, .unset, .unset, .unset, .unset] [(.int (893 : Int32)), (.int (6 : Int32)), (.ref b34), (.ref b34)])) rfl rfl (hb hby at_141)
  have V55 : Arv Z h55 b34 c34 .int (15 : Int32) [(.int (90 : Int32)), (.int (95 : Int32)), (.int (122 : Int32)), (.int (214 : Int32)), (.int (246 : Int32)), (.int (767 : Int32)), (.int (893 : Int32)), (.int (0 : Int32)), (.int (0 : Int32)), (.int (0 : Int32)), (.int (0 : Int32)), (.int (0 : Int32)), (.int (0 : Int32)), (.int (0 : Int32)), (.int (0 : Int32))] (.int (0 : Int32)) := V55'
  have N55 := Fr.snoc X55 N52 gb34
  have sz55 : n0 ≤ h55.size := Nat.le_trans sz52 (Keep.of_wr W55).1
  have V56 := V53.other W55 ne2_34
  have K55 : ∀ t, Steps p.tables e below (T55.setTop (mkF m 142 #[.val (.int p1), .val (.int p2), .val (.ref b2), .unset, .unset, .unset, .unset, .unset, .unset, .unset] [(.ref b34)])) t → Steps p.tables e below (s₁.setTop (entryFrame m #[(.int p1), (.int p2)] maxLocals)) t := fun t hk => K54 t (st55 _ hk)
  have K57 : ∀ t, Steps p.tables e below (T55.setTop (mkF m 148 #[.val (.int p1), .val (.int p2), .val (.ref b2), .unset, .unset, .unset, .unset, .unset, .unset, .unset] [(.int (8191 : Int32)), (.int (7 : Int32)), (.ref b34), (.ref b34)])) t → Steps p.tables e below (s₁.setTop (entryFrame m #[(.int p1), (.int p2)] maxLocals)) t := by
    intro t hk
    refine K55 t ?_
    show Steps p.tables e below (T55.setTop (mkF m 142 #[.val (.int p1), .val (.int p2), .val (.ref b2), .unset, .unset, .unset, .unset, .unset, .unset, .unset] [(.ref b34)])) _
    refine XS.dup X55.here hx rfl (hb hby at_142) rfl rfl ?_
    show Steps p.tables e below (T55.setTop (mkF m 143 #[.val (.int p1), .val (.int p2), .val (.ref b2), .unset, .unset, .unset, .unset, .unset, .unset, .unset] [(.ref b34), (.ref b34)])) _
    refine XS.bipush X55.here hx rfl (hb hby at_143) ?_
    show Steps p.tables e below (T55.setTop (mkF m 145 #[.val (.int p1), .val (.int p2), .val (.ref b2), .unset, .unset, .unset, .unset, .unset, .unset, .unset] [(.int (7 : Int32)), (.ref b34), (.ref b34)])) _
    refine XS.sipush X55.here hx rfl (hb hby at_145) ?_
    show Steps p.tables e below (T55.setTop (mkF m 148 #[.val (.int p1), .val (.int p2), .val (.ref b2), .unset, .unset, .unset, .unset, .unset, .unset, .unset] [(.int (8191 : Int32)), (.int (7 : Int32)), (.ref b34), (.ref b34)])) _
    exact hk
  obtain ⟨T58, h58, X58, e58, W58, V58', st58⟩ := own_stI X55 hx hZ e55 V55 (j := (7 : Int32)) 7 rfl ⟨by decide, by decide⟩ (by decide) (g := (mkF m 148 #[.val (.int p1), .val (.int p2), .val (.ref b2), .unset, .unset, .unset, .unset, .unset, .unset, .unset] [(.int (8191 : Int32)), (.int (7 : Int32)), (.ref b34), (.ref b34)])) rfl rfl (hb hby at_148)
  have V58 : Arv Z h58 b34 c34 .int (15 : Int32) [(.int (90 : Int32)), (.int (95 : Int32)), (.int (122 : Int32)), (.int (214 : Int32)), (.int (246 : Int32)), (.int (767 : Int32)), (.int (893 : Int32)), (.int (8191 : Int32)), (.int (0 : Int32)), (.int (0 : Int32)), (.int (0 : Int32)), (.int (0 : Int32)), (.int (0 : Int32)), (.int (0 : Int32)), (.int (0 : Int32))] (.int (0 : Int32)) := V58'
  have N58 := Fr.snoc X58 N55 gb34
  have sz58 : n0 ≤ h58.size := Nat.le_trans sz55 (Keep.of_wr W58).1
  have V59 := V56.other W58 ne2_34
  have K58 : ∀ t, Steps p.tables e below (T58.setTop (mkF m 149 #[.val (.int p1), .val (.int p2), .val (.ref b2), .unset, .unset, .unset, .unset, .unset, .unset, .unset] [(.ref b34)])) t → Steps p.tables e below (s₁.setTop (entryFrame m #[(.int p1), (.int p2)] maxLocals)) t := fun t hk => K57 t (st58 _ hk)
  have K60 : ∀ t, Steps p.tables e below (T58.setTop (mkF m 155 #[.val (.int p1), .val (.int p2), .val (.ref b2), .unset, .unset, .unset, .unset, .unset, .unset, .unset] [(.int (8205 : Int32)), (.int (8 : Int32)), (.ref b34), (.ref b34)])) t → Steps p.tables e below (s₁.setTop (entryFrame m #[(.int p1), (.int p2)] maxLocals)) t := by
    intro t hk
    refine K58 t ?_
    show Steps p.tables e below (T58.setTop (mkF m 149 #[.val (.int p1), .val (.int p2), .val (.ref b2), .unset, .unset, .unset, .unset, .unset, .unset, .unset] [(.ref b34)])) _
    refine XS.dup X58.here hx rfl (hb hby at_149) rfl rfl ?_
    show Steps p.tables e below (T58.setTop (mkF m 150 #[.val (.int p1), .val (.int p2), .val (.ref b2), .unset, .unset, .unset, .unset, .unset, .unset, .unset] [(.ref b34), (.ref b34)])) _
    refine XS.bipush X58.here hx rfl (hb hby at_150) ?_
    show Steps p.tables e below (T58.setTop (mkF m 152 #[.val (.int p1), .val (.int p2), .val (.ref b2), .unset, .unset, .unset, .unset, .unset, .unset, .unset] [(.int (8 : Int32)), (.ref b34), (.ref b34)])) _
    refine XS.sipush X58.here hx rfl (hb hby at_152) ?_
    show Steps p.tables e below (T58.setTop (mkF m 155 #[.val (.int p1), .val (.int p2), .val (.ref b2), .unset, .unset, .unset, .unset, .unset, .unset, .unset] [(.int (8205 : Int32)), (.int (8 : Int32)), (.ref b34), (.ref b34)])) _
    exact hk
  obtain ⟨T61, h61, X61, e61, W61, V61', st61⟩ := own_stI X58 hx hZ e58 V58 (j := (8 : Int32)) 8 rfl ⟨by decide, by decide⟩ (by decide) (g := (mkF m 155 #[.val (.int p1), .val (.int p2), .val (.ref b2), .unset, .unset, .unset, .unset, .unset, .unset, .unset] [(.int (8205 : Int32)), (.int (8 : Int32)), (.ref b34), (.ref b34)])) rfl rfl (hb hby at_155)
  have V61 : Arv Z h61 b34 c34 .int (15 : Int32) [(.int (90 : Int32)), (.int (95 : Int32)), (.int (122 : Int32)), (.int (214 : Int32)), (.int (246 : Int32)), (.int (767 : Int32)), (.int (893 : Int32)), (.int (8191 : Int32)), (.int (8205 : Int32)), (.int (0 : Int32)), (.int (0 : Int32)), (.int (0 : Int32)), (.int (0 : Int32)), (.int (0 : Int32)), (.int (0 : Int32))] (.int (0 : Int32)) := V61'
  have N61 := Fr.snoc X61 N58 gb34
  have sz61 : n0 ≤ h61.size := Nat.le_trans sz58 (Keep.of_wr W61).1
  have V62 := V59.other W61 ne2_34
  have K61 : ∀ t, Steps p.tables e below (T61.setTop (mkF m 156 #[.val (.int p1), .val (.int p2), .val (.ref b2), .unset, .unset, .unset, .unset, .unset, .unset, .unset] [(.ref b34)])) t → Steps p.tables e below (s₁.setTop (entryFrame m #[(.int p1), (.int p2)] maxLocals)) t := fun t hk => K60 t (st61 _ hk)
  have K63 : ∀ t, Steps p.tables e below (T61.setTop (mkF m 162 #[.val (.int p1), .val (.int p2), .val (.ref b2), .unset, .unset, .unset, .unset, .unset, .unset, .unset] [(.int (8591 : Int32)), (.int (9 : Int32)), (.ref b34), (.ref b34)])) t → Steps p.tables e below (s₁.setTop (entryFrame m #[(.int p1), (.int p2)] maxLocals)) t := by
    intro t hk
    refine K61 t ?_
    show Steps p.tables e below (T61.setTop (mkF m 156 #[.val (.int p1), .val (.int p2), .val (.ref b2), .unset, .unset, .unset, .unset, .unset, .unset, .unset] [(.ref b34)])) _
    refine XS.dup X61.here hx rfl (hb hby at_156) rfl rfl ?_
    show Steps p.tables e below (T61.setTop (mkF m 157 #[.val (.int p1), .val (.int p2), .val (.ref b2), .unset, .unset, .unset, .unset, .unset, .unset, .unset] [(.ref b34), (.ref b34)])) _
    refine XS.bipush X61.here hx rfl (hb hby at_157) ?_
    show Steps p.tables e below (T61.setTop (mkF m 159 #[.val (.int p1), .val (.int p2), .val (.ref b2), .unset, .unset, .unset, .unset, .unset, .unset, .unset] [(.int (9 : Int32)), (.ref b34), (.ref b34)])) _
    refine XS.sipush X61.here hx rfl (hb hby at_159) ?_
    show Steps p.tables e below (T61.setTop (mkF m 162 #[.val (.int p1), .val (.int p2), .val (.ref b2), .unset, .unset, .unset, .unset, .unset, .unset, .unset] [(.int (8591 : Int32)), (.int (9 : Int32)), (.ref b34), (.ref b34)])) _
    exact hk
  obtain ⟨T64, h64, X64, e64, W64, V64', st64⟩ := own_stI X61 hx hZ e61 V61 (j := (9 : Int32)) 9 rfl ⟨by decide, by decide⟩ (by decide) (g := (mkF m 162 #[.val (.int p1), .val (.int p2), .val (.ref b2), .unset, .unset, .unset, .unset, .unset, .unset, .unset] [(.int (8591 : Int32)), (.int (9 : Int32)), (.ref b34), (.ref b34)])) rfl rfl (hb hby at_162)
  have V64 : Arv Z h64 b34 c34 .int (15 : Int32) [(.int (90 : Int32)), (.int (95 : Int32)), (.int (122 : Int32)), (.int (214 : Int32)), (.int (246 : Int32)), (.int (767 : Int32)), (.int (893 : Int32)), (.int (8191 : Int32)), (.int (8205 : Int32)), (.int (8591 : Int32)), (.int (0 : Int32)), (.int (0 : Int32)), (.int (0 : Int32)), (.int (0 : Int32)), (.int (0 : Int32))] (.int (0 : Int32)) := V64'
  have N64 := Fr.snoc X64 N61 gb34
  have sz64 : n0 ≤ h64.size := Nat.le_trans sz61 (Keep.of_wr W64).1
  have V65 := V62.other W64 ne2_34
  have K64 : ∀ t, Steps p.tables e below (T64.setTop (mkF m 163 #[.val (.int p1), .val (.int p2), .val (.ref b2), .unset, .unset, .unset, .unset, .unset, .unset, .unset] [(.ref b34)])) t → Steps p.tables e below (s₁.setTop (entryFrame m #[(.int p1), (.int p2)] maxLocals)) t := fun t hk => K63 t (st64 _ hk)
  have K66 : ∀ t, Steps p.tables e below (T64.setTop (mkF m 169 #[.val (.int p1), .val (.int p2), .val (.ref b2), .unset, .unset, .unset, .unset, .unset, .unset, .unset] [(.int (12271 : Int32)), (.int (10 : Int32)), (.ref b34), (.ref b34)])) t → Steps p.tables e below (s₁.setTop (entryFrame m #[(.int p1), (.int p2)] maxLocals)) t := by
    intro t hk
    refine K64 t ?_
    show Steps p.tables e below (T64.setTop (mkF m 163 #[.val (.int p1), .val (.int p2), .val (.ref b2), .unset, .unset, .unset, .unset, .unset, .unset, .unset] [(.ref b34)])) _
    refine XS.dup X64.here hx rfl (hb hby at_163) rfl rfl ?_
    show Steps p.tables e below (T64.setTop (mkF m 164 #[.val (.int p1), .val (.int p2), .val (.ref b2), .unset, .unset, .unset, .unset, .unset, .unset, .unset] [(.ref b34), (.ref b34)])) _
    refine XS.bipush X64.here hx rfl (hb hby at_164) ?_
    show Steps p.tables e below (T64.setTop (mkF m 166 #[.val (.int p1), .val (.int p2), .val (.ref b2), .unset, .unset, .unset, .unset, .unset, .unset, .unset] [(.int (10 : Int32)), (.ref b34), (.ref b34)])) _
    refine XS.sipush X64.here hx rfl (hb hby at_166) ?_
    show Steps p.tables e below (T64.setTop (mkF m 169 #[.val (.int p1), .val (.int p2), .val (.ref b2), .unset, .unset, .unset, .unset, .unset, .unset, .unset] [(.int (12271 : Int32)), (.int (10 : Int32)), (.ref b34), (.ref b34)])) _
    exact hk
  obtain ⟨T67, h67, X67, e67, W67, V67', st67⟩ := own_stI X64 hx hZ e64 V64 (j := (10 : Int32)) 10 rfl ⟨by decide, by decide⟩ (by decide) (g := (mkF m 169 #[.val (.int p1), .val (.int p2), .val (.ref b2), .unset, .unset, .unset, .unset, .unset, .unset, .unset] [(.int (12271 : Int32)), (.int (10 : Int32)), (.ref b34), (.ref b34)])) rfl rfl (hb hby at_169)
  have V67 : Arv Z h67 b34 c34 .int (15 : Int32) [(.int (90 : Int32)), (.int (95 : Int32)), (.int (122 : Int32)), (.int (214 : Int32)), (.int (246 : Int32)), (.int (767 : Int32)), (.int (893 : Int32)), (.int (8191 : Int32)), (.int (8205 : Int32)), (.int (8591 : Int32)), (.int (12271 : Int32)), (.int (0 : Int32)), (.int (0 : Int32)), (.int (0 : Int32)), (.int (0 : Int32))] (.int (0 : Int32)) := V67'
  have N67 := Fr.snoc X67 N64 gb34
  have sz67 : n0 ≤ h67.size := Nat.le_trans sz64 (Keep.of_wr W67).1
  have V68 := V65.other W67 ne2_34
  have K67 : ∀ t, Steps p.tables e below (T67.setTop (mkF m 170 #[.val (.int p1), .val (.int p2), .val (.ref b2), .unset, .unset, .unset, .unset, .unset, .unset, .unset] [(.ref b34)])) t → Steps p.tables e below (s₁.setTop (entryFrame m #[(.int p1), (.int p2)] maxLocals)) t := fun t hk => K66 t (st67 _ hk)
  have K69 : ∀ t, Steps p.tables e below (T67.setTop (mkF m 175 #[.val (.int p1), .val (.int p2), .val (.ref b2), .unset, .unset, .unset, .unset, .unset, .unset, .unset] [(.int (55295 : Int32)), (.int (11 : Int32)), (.ref b34), (.ref b34)])) t → Steps p.tables e below (s₁.setTop (entryFrame m #[(.int p1), (.int p2)] maxLocals)) t := by
    intro t hk
    refine K67 t ?_
    show Steps p.tables e below (T67.setTop (mkF m 170 #[.val (.int p1), .val (.int p2), .val (.ref b2), .unset, .unset, .unset, .unset, .unset, .unset, .unset] [(.ref b34)])) _
    refine XS.dup X67.here hx rfl (hb hby at_170) rfl rfl ?_
    show Steps p.tables e below (T67.setTop (mkF m 171 #[.val (.int p1), .val (.int p2), .val (.ref b2), .unset, .unset, .unset, .unset, .unset, .unset, .unset] [(.ref b34), (.ref b34)])) _
    refine XS.bipush X67.here hx rfl (hb hby at_171) ?_
    show Steps p.tables e below (T67.setTop (mkF m 173 #[.val (.int p1), .val (.int p2), .val (.ref b2), .unset, .unset, .unset, .unset, .unset, .unset, .unset] [(.int (11 : Int32)), (.ref b34), (.ref b34)])) _
    refine X67.ldcInt hx hown (mvT hZ (hw _ (List.mem_of_getElem? (i := 4) rfl))) (g := (mkF m 173 #[.val (.int p1), .val (.int p2), .val (.ref b2), .unset, .unset, .unset, .unset, .unset, .unset, .unset] [(.int (11 : Int32)), (.ref b34), (.ref b34)])) rfl (hb hby at_173) _ ?_
    show Steps p.tables e below (T67.setTop (mkF m 175 #[.val (.int p1), .val (.int p2), .val (.ref b2), .unset, .unset, .unset, .unset, .unset, .unset, .unset] [(.int (55295 : Int32)), (.int (11 : Int32)), (.ref b34), (.ref b34)])) _
    exact hk
  obtain ⟨T70, h70, X70, e70, W70, V70', st70⟩ := own_stI X67 hx hZ e67 V67 (j := (11 : Int32)) 11 rfl ⟨by decide, by decide⟩ (by decide) (g := (mkF m 175 #[.val (.int p1), .val (.int p2), .val (.ref b2), .unset, .unset, .unset, .unset, .unset, .unset, .unset] [(.int (55295 : Int32)), (.int (11 : Int32)), (.ref b34), (.ref b34)])) rfl rfl (hb hby at_175)
  have V70 : Arv Z h70 b34 c34 .int (15 : Int32) [(.int (90 : Int32)), (.int (95 : Int32)), (.int (122 : Int32)), (.int (214 : Int32)), (.int (246 : Int32)), (.int (767 : Int32)), (.int (893 : Int32)), (.int (8191 : Int32)), (.int (8205 : Int32)), (.int (8591 : Int32)), (.int (12271 : Int32)), (.int (55295 : Int32)), (.int (0 : Int32)), (.int (0 : Int32)), (.int (0 : Int32))] (.int (0 : Int32)) := V70'
  have N70 := Fr.snoc X70 N67 gb34
  have sz70 : n0 ≤ h70.size := Nat.le_trans sz67 (Keep.of_wr W70).1
  have V71 := V68.other W70 ne2_34
  have K70 : ∀ t, Steps p.tables e below (T70.setTop (mkF m 176 #[.val (.int p1), .val (.int p2), .val (.ref b2), .unset, .unset, .unset, .unset, .unset, .unset, .unset] [(.ref b34)])) t → Steps p.tables e below (s₁.setTop (entryFrame m #[(.int p1), (.int p2)] maxLocals)) t := fun t hk => K69 t (st70 _ hk)
  have K72 : ∀ t, Steps p.tables e below (T70.setTop (mkF m 181 #[.val (.int p1), .val (.int p2), .val (.ref b2), .unset, .unset, .unset, .unset, .unset, .unset, .unset] [(.int (64975 : Int32)), (.int (12 : Int32)), (.ref b34), (.ref b34)])) t → Steps p.tables e below (s₁.setTop (entryFrame m #[(.int p1), (.int p2)] maxLocals)) t := by
    intro t hk
    refine K70 t ?_
    show Steps p.tables e below (T70.setTop (mkF m 176 #[.val (.int p1), .val (.int p2), .val (.ref b2), .unset, .unset, .unset, .unset, .unset, .unset, .unset] [(.ref b34)])) _
    refine XS.dup X70.here hx rfl (hb hby at_176) rfl rfl ?_
    show Steps p.tables e below (T70.setTop (mkF m 177 #[.val (.int p1), .val (.int p2), .val (.ref b2), .unset, .unset, .unset, .unset, .unset, .unset, .unset] [(.ref b34), (.ref b34)])) _
    refine XS.bipush X70.here hx rfl (hb hby at_177) ?_
    show Steps p.tables e below (T70.setTop (mkF m 179 #[.val (.int p1), .val (.int p2), .val (.ref b2), .unset, .unset, .unset, .unset, .unset, .unset, .unset] [(.int (12 : Int32)), (.ref b34), (.ref b34)])) _
    refine X70.ldcInt hx hown (mvT hZ (hw _ (List.mem_of_getElem? (i := 5) rfl))) (g := (mkF m 179 #[.val (.int p1), .val (.int p2), .val (.ref b2), .unset, .unset, .unset, .unset, .unset, .unset, .unset] [(.int (12 : Int32)), (.ref b34), (.ref b34)])) rfl (hb hby at_179) _ ?_
    show Steps p.tables e below (T70.setTop (mkF m 181 #[.val (.int p1), .val (.int p2), .val (.ref b2), .unset, .unset, .unset, .unset, .unset, .unset, .unset] [(.int (64975 : Int32)), (.int (12 : Int32)), (.ref b34), (.ref b34)])) _
    exact hk
  obtain ⟨T73, h73, X73, e73, W73, V73', st73⟩ := own_stI X70 hx hZ e70 V70 (j := (12 : Int32)) 12 rfl ⟨by decide, by decide⟩ (by decide) (g := (mkF m 181 #[.val (.int p1), .val (.int p2), .val (.ref b2), .unset, .unset, .unset, .unset, .unset, .unset, .unset] [(.int (64975 : Int32)), (.int (12 : Int32)), (.ref b34), (.ref b34)])) rfl rfl (hb hby at_181)
  have V73 : Arv Z h73 b34 c34 .int (15 : Int32) [(.int (90 : Int32)), (.int (95 : Int32)), (.int (122 : Int32)), (.int (214 : Int32)), (.int (246 : Int32)), (.int (767 : Int32)), (.int (893 : Int32)), (.int (8191 : Int32)), (.int (8205 : Int32)), (.int (8591 : Int32)), (.int (12271 : Int32)), (.int (55295 : Int32)), (.int (64975 : Int32)), (.int (0 : Int32)), (.int (0 : Int32))] (.int (0 : Int32)) := V73'
  have N73 := Fr.snoc X73 N70 gb34
  have sz73 : n0 ≤ h73.size := Nat.le_trans sz70 (Keep.of_wr W73).1
  have V74 := V71.other W73 ne2_34
  have K73 : ∀ t, Steps p.tables e below (T73.setTop (mkF m 182 #[.val (.int p1), .val (.int p2), .val (.ref b2), .unset, .unset, .unset, .unset, .unset, .unset, .unset] [(.ref b34)])) t → Steps p.tables e below (s₁.setTop (entryFrame m #[(.int p1), (.int p2)] maxLocals)) t := fun t hk => K72 t (st73 _ hk)
  have K75 : ∀ t, Steps p.tables e below (T73.setTop (mkF m 187 #[.val (.int p1), .val (.int p2), .val (.ref b2), .unset, .unset, .unset, .unset, .unset, .unset, .unset] [(.int (65533 : Int32)), (.int (13 : Int32)), (.ref b34), (.ref b34)])) t → Steps p.tables e below (s₁.setTop (entryFrame m #[(.int p1), (.int p2)] maxLocals)) t := by
    intro t hk
    refine K73 t ?_
    show Steps p.tables e below (T73.setTop (mkF m 182 #[.val (.int p1), .val (.int p2), .val (.ref b2), .unset, .unset, .unset, .unset, .unset, .unset, .unset] [(.ref b34)])) _
    refine XS.dup X73.here hx rfl (hb hby at_182) rfl rfl ?_
    show Steps p.tables e below (T73.setTop (mkF m 183 #[.val (.int p1), .val (.int p2), .val (.ref b2), .unset, .unset, .unset, .unset, .unset, .unset, .unset] [(.ref b34), (.ref b34)])) _
    refine XS.bipush X73.here hx rfl (hb hby at_183) ?_
    show Steps p.tables e below (T73.setTop (mkF m 185 #[.val (.int p1), .val (.int p2), .val (.ref b2), .unset, .unset, .unset, .unset, .unset, .unset, .unset] [(.int (13 : Int32)), (.ref b34), (.ref b34)])) _
    refine X73.ldcInt hx hown (mvT hZ (hw _ (List.mem_of_getElem? (i := 6) rfl))) (g := (mkF m 185 #[.val (.int p1), .val (.int p2), .val (.ref b2), .unset, .unset, .unset, .unset, .unset, .unset, .unset] [(.int (13 : Int32)), (.ref b34), (.ref b34)])) rfl (hb hby at_185) _ ?_
    show Steps p.tables e below (T73.setTop (mkF m 187 #[.val (.int p1), .val (.int p2), .val (.ref b2), .unset, .unset, .unset, .unset, .unset, .unset, .unset] [(.int (65533 : Int32)), (.int (13 : Int32)), (.ref b34), (.ref b34)])) _
    exact hk
  obtain ⟨T76, h76, X76, e76, W76, V76', st76⟩ := own_stI X73 hx hZ e73 V73 (j := (13 : Int32)) 13 rfl ⟨by decide, by decide⟩ (by decide) (g := (mkF m 187 #[.val (.int p1), .val (.int p2), .val (.ref b2), .unset, .unset, .unset, .unset, .unset, .unset, .unset] [(.int (65533 : Int32)), (.int (13 : Int32)), (.ref b34), (.ref b34)])) rfl rfl (hb hby at_187)
  have V76 : Arv Z h76 b34 c34 .int (15 : Int32) [(.int (90 : Int32)), (.int (95 : Int32)), (.int (122 : Int32)), (.int (214 : Int32)), (.int (246 : Int32)), (.int (767 : Int32)), (.int (893 : Int32)), (.int (8191 : Int32)), (.int (8205 : Int32)), (.int (8591 : Int32)), (.int (12271 : Int32)), (.int (55295 : Int32)), (.int (64975 : Int32)), (.int (65533 : Int32)), (.int (0 : Int32))] (.int (0 : Int32)) := V76'
  have N76 := Fr.snoc X76 N73 gb34
  have sz76 : n0 ≤ h76.size := Nat.le_trans sz73 (Keep.of_wr W76).1
  have V77 := V74.other W76 ne2_34
  have K76 : ∀ t, Steps p.tables e below (T76.setTop (mkF m 188 #[.val (.int p1), .val (.int p2), .val (.ref b2), .unset, .unset, .unset, .unset, .unset, .unset, .unset] [(.ref b34)])) t → Steps p.tables e below (s₁.setTop (entryFrame m #[(.int p1), (.int p2)] maxLocals)) t := fun t hk => K75 t (st76 _ hk)
  have K78 : ∀ t, Steps p.tables e below (T76.setTop (mkF m 193 #[.val (.int p1), .val (.int p2), .val (.ref b2), .unset, .unset, .unset, .unset, .unset, .unset, .unset] [(.int (983039 : Int32)), (.int (14 : Int32)), (.ref b34), (.ref b34)])) t → Steps p.tables e below (s₁.setTop (entryFrame m #[(.int p1), (.int p2)] maxLocals)) t := by
    intro t hk
    refine K76 t ?_
    show Steps p.tables e below (T76.setTop (mkF m 188 #[.val (.int p1), .val (.int p2), .val (.ref b2), .unset, .unset, .unset, .unset, .unset, .unset, .unset] [(.ref b34)])) _
    refine XS.dup X76.here hx rfl (hb hby at_188) rfl rfl ?_
    show Steps p.tables e below (T76.setTop (mkF m 189 #[.val (.int p1), .val (.int p2), .val (.ref b2), .unset, .unset, .unset, .unset, .unset, .unset, .unset] [(.ref b34), (.ref b34)])) _
    refine XS.bipush X76.here hx rfl (hb hby at_189) ?_
    show Steps p.tables e below (T76.setTop (mkF m 191 #[.val (.int p1), .val (.int p2), .val (.ref b2), .unset, .unset, .unset, .unset, .unset, .unset, .unset] [(.int (14 : Int32)), (.ref b34), (.ref b34)])) _
    refine X76.ldcInt hx hown (mvT hZ (hw _ (List.mem_of_getElem? (i := 7) rfl))) (g := (mkF m 191 #[.val (.int p1), .val (.int p2), .val (.ref b2), .unset, .unset, .unset, .unset, .unset, .unset, .unset] [(.int (14 : Int32)), (.ref b34), (.ref b34)])) rfl (hb hby at_191) _ ?_
    show Steps p.tables e below (T76.setTop (mkF m 193 #[.val (.int p1), .val (.int p2), .val (.ref b2), .unset, .unset, .unset, .unset, .unset, .unset, .unset] [(.int (983039 : Int32)), (.int (14 : Int32)), (.ref b34), (.ref b34)])) _
    exact hk
  obtain ⟨T79, h79, X79, e79, W79, V79', st79⟩ := own_stI X76 hx hZ e76 V76 (j := (14 : Int32)) 14 rfl ⟨by decide, by decide⟩ (by decide) (g := (mkF m 193 #[.val (.int p1), .val (.int p2), .val (.ref b2), .unset, .unset, .unset, .unset, .unset, .unset, .unset] [(.int (983039 : Int32)), (.int (14 : Int32)), (.ref b34), (.ref b34)])) rfl rfl (hb hby at_193)
  have V79 : Arv Z h79 b34 c34 .int (15 : Int32) [(.int (90 : Int32)), (.int (95 : Int32)), (.int (122 : Int32)), (.int (214 : Int32)), (.int (246 : Int32)), (.int (767 : Int32)), (.int (893 : Int32)), (.int (8191 : Int32)), (.int (8205 : Int32)), (.int (8591 : Int32)), (.int (12271 : Int32)), (.int (55295 : Int32)), (.int (64975 : Int32)), (.int (65533 : Int32)), (.int (983039 : Int32))] (.int (0 : Int32)) := V79'
  have N79 := Fr.snoc X79 N76 gb34
  have sz79 : n0 ≤ h79.size := Nat.le_trans sz76 (Keep.of_wr W79).1
  have V80 := V77.other W79 ne2_34
  have K79 : ∀ t, Steps p.tables e below (T79.setTop (mkF m 194 #[.val (.int p1), .val (.int p2), .val (.ref b2), .unset, .unset, .unset, .unset, .unset, .unset, .unset] [(.ref b34)])) t → Steps p.tables e below (s₁.setTop (entryFrame m #[(.int p1), (.int p2)] maxLocals)) t := fun t hk => K78 t (st79 _ hk)
  have K81 : ∀ t, Steps p.tables e below (T79.setTop (mkF m 214 #[.val (.int p1), .val (.int p2), .val (.ref b2), .val (.ref b34), .val (.int ((p1 &&& (2147483647 : Int32)) % (31 : Int32))), .val (.int (p2 &&& (2147483647 : Int32))), .unset, .unset, .unset, .unset] [(.int (15 : Int32)), (.int ((p1 &&& (2147483647 : Int32)) % (31 : Int32)))])) t → Steps p.tables e below (s₁.setTop (entryFrame m #[(.int p1), (.int p2)] maxLocals)) t := by
    intro t hk
    refine K79 t ?_
    show Steps p.tables e below (T79.setTop (mkF m 194 #[.val (.int p1), .val (.int p2), .val (.ref b2), .unset, .unset, .unset, .unset, .unset, .unset, .unset] [(.ref b34)])) _
    refine XS.astoreN X79.here hx rfl (hb hby at_194) rfl rfl (l' := #[.val (.int p1), .val (.int p2), .val (.ref b2), .val (.ref b34), .unset, .unset, .unset, .unset, .unset, .unset]) rfl ?_
    show Steps p.tables e below (T79.setTop (mkF m 195 #[.val (.int p1), .val (.int p2), .val (.ref b2), .val (.ref b34), .unset, .unset, .unset, .unset, .unset, .unset] [])) _
    refine XS.iloadN X79.here hx rfl (hb hby at_195) rfl ?_
    show Steps p.tables e below (T79.setTop (mkF m 196 #[.val (.int p1), .val (.int p2), .val (.ref b2), .val (.ref b34), .unset, .unset, .unset, .unset, .unset, .unset] [(.int p1)])) _
    refine X79.ldcInt hx hown (mvT hZ (hw _ (List.mem_of_getElem? (i := 8) rfl))) (g := (mkF m 196 #[.val (.int p1), .val (.int p2), .val (.ref b2), .val (.ref b34), .unset, .unset, .unset, .unset, .unset, .unset] [(.int p1)])) rfl (hb hby at_196) _ ?_
    show Steps p.tables e below (T79.setTop (mkF m 198 #[.val (.int p1), .val (.int p2), .val (.ref b2), .val (.ref b34), .unset, .unset, .unset, .unset, .unset, .unset] [(.int (2147483647 : Int32)), (.int p1)])) _
    refine XS.iand X79.here hx rfl (hb hby at_198) rfl ?_
    show Steps p.tables e below (T79.setTop (mkF m 199 #[.val (.int p1), .val (.int p2), .val (.ref b2), .val (.ref b34), .unset, .unset, .unset, .unset, .unset, .unset] [(.int (p1 &&& (2147483647 : Int32)))])) _
    refine XS.bipush X79.here hx rfl (hb hby at_199) ?_
    show Steps p.tables e below (T79.setTop (mkF m 201 #[.val (.int p1), .val (.int p2), .val (.ref b2), .val (.ref b34), .unset, .unset, .unset, .unset, .unset, .unset] [(.int (31 : Int32)), (.int (p1 &&& (2147483647 : Int32)))])) _
    refine XS.irem X79.here hx rfl (hb hby at_201) rfl (by decide) ?_
    rw [Jvm.irem_eq_mod (p1 &&& (2147483647 : Int32)) (31 : Int32)]
    show Steps p.tables e below (T79.setTop (mkF m 202 #[.val (.int p1), .val (.int p2), .val (.ref b2), .val (.ref b34), .unset, .unset, .unset, .unset, .unset, .unset] [(.int ((p1 &&& (2147483647 : Int32)) % (31 : Int32)))])) _
    refine XS.istore X79.here hx rfl (hb hby at_202) rfl (l' := #[.val (.int p1), .val (.int p2), .val (.ref b2), .val (.ref b34), .val (.int ((p1 &&& (2147483647 : Int32)) % (31 : Int32))), .unset, .unset, .unset, .unset, .unset]) rfl ?_
    show Steps p.tables e below (T79.setTop (mkF m 204 #[.val (.int p1), .val (.int p2), .val (.ref b2), .val (.ref b34), .val (.int ((p1 &&& (2147483647 : Int32)) % (31 : Int32))), .unset, .unset, .unset, .unset, .unset] [])) _
    refine XS.iloadN X79.here hx rfl (hb hby at_204) rfl ?_
    show Steps p.tables e below (T79.setTop (mkF m 205 #[.val (.int p1), .val (.int p2), .val (.ref b2), .val (.ref b34), .val (.int ((p1 &&& (2147483647 : Int32)) % (31 : Int32))), .unset, .unset, .unset, .unset, .unset] [(.int p2)])) _
    refine X79.ldcInt hx hown (mvT hZ (hw _ (List.mem_of_getElem? (i := 8) rfl))) (g := (mkF m 205 #[.val (.int p1), .val (.int p2), .val (.ref b2), .val (.ref b34), .val (.int ((p1 &&& (2147483647 : Int32)) % (31 : Int32))), .unset, .unset, .unset, .unset, .unset] [(.int p2)])) rfl (hb hby at_205) _ ?_
    show Steps p.tables e below (T79.setTop (mkF m 207 #[.val (.int p1), .val (.int p2), .val (.ref b2), .val (.ref b34), .val (.int ((p1 &&& (2147483647 : Int32)) % (31 : Int32))), .unset, .unset, .unset, .unset, .unset] [(.int (2147483647 : Int32)), (.int p2)])) _
    refine XS.iand X79.here hx rfl (hb hby at_207) rfl ?_
    show Steps p.tables e below (T79.setTop (mkF m 208 #[.val (.int p1), .val (.int p2), .val (.ref b2), .val (.ref b34), .val (.int ((p1 &&& (2147483647 : Int32)) % (31 : Int32))), .unset, .unset, .unset, .unset, .unset] [(.int (p2 &&& (2147483647 : Int32)))])) _
    refine XS.istore X79.here hx rfl (hb hby at_208) rfl (l' := #[.val (.int p1), .val (.int p2), .val (.ref b2), .val (.ref b34), .val (.int ((p1 &&& (2147483647 : Int32)) % (31 : Int32))), .val (.int (p2 &&& (2147483647 : Int32))), .unset, .unset, .unset, .unset]) rfl ?_
    show Steps p.tables e below (T79.setTop (mkF m 210 #[.val (.int p1), .val (.int p2), .val (.ref b2), .val (.ref b34), .val (.int ((p1 &&& (2147483647 : Int32)) % (31 : Int32))), .val (.int (p2 &&& (2147483647 : Int32))), .unset, .unset, .unset, .unset] [])) _
    refine XS.iload X79.here hx rfl (hb hby at_210) rfl ?_
    show Steps p.tables e below (T79.setTop (mkF m 212 #[.val (.int p1), .val (.int p2), .val (.ref b2), .val (.ref b34), .val (.int ((p1 &&& (2147483647 : Int32)) % (31 : Int32))), .val (.int (p2 &&& (2147483647 : Int32))), .unset, .unset, .unset, .unset] [(.int ((p1 &&& (2147483647 : Int32)) % (31 : Int32)))])) _
    refine XS.bipush X79.here hx rfl (hb hby at_212) ?_
    show Steps p.tables e below (T79.setTop (mkF m 214 #[.val (.int p1), .val (.int p2), .val (.ref b2), .val (.ref b34), .val (.int ((p1 &&& (2147483647 : Int32)) % (31 : Int32))), .val (.int (p2 &&& (2147483647 : Int32))), .unset, .unset, .unset, .unset] [(.int (15 : Int32)), (.int ((p1 &&& (2147483647 : Int32)) % (31 : Int32)))])) _
    exact hk
  exact own_tail X79 hx hby hml hown hZ hw Bd.returns Bd.notSynchronized p1 p2 _ _ _ _ e79 sz79 N79 (by decide) (by decide) V80 V79 (own_idx p1) (c_and p2 (2147483647 : Int32) (by decide)).1 K81
set_option maxRecDepth 65536 in
set_option maxHeartbeats 40000000 in
theorem comes_1 {Post : Tables → Env → Array Value → State → Outcome → State → Prop} (hpost : ∀ tb e args s v u, (limb_1_1.after args s (.returned v) u = true ∧ limb_1_2.after args s (.returned v) u = true ∧ True) → FrameEnd s (.returned v) u (Jvm.fieldLocs frame_1_writes args s ++ Jvm.arrayLocs frame_1_arrays args s ++ Jvm.staticLocs frame_1_statics s) 16 128 → Post tb e args s (.returned v) u) :
    ArmFor flags0 classFile x code maxLocals ret World_1 tables_1 room_1 Calls_1 rest_1 Pre_1 Post := by
  intro l hfl _ _ p e ha hc hk s m args below hf hA hF happ hP
  obtain ⟨hcalls, hrest, hpre⟩ := hP
  obtain ⟨-, -, -, hnamed, -, -, -, hat⟩ := (Spec.applies_iff hf).mp happ
  obtain ⟨hg, hn⟩ := and_e (Cond.before_iff.mp (show (Jvm.Cond.and given_1 narrow_1).before args s = true from hpre))
  obtain ⟨gc, gr⟩ := and_e hg
  obtain ⟨ga0, gr⟩ := and_e gr
  obtain ⟨w0, w1, rfl⟩ : ∃ w0 w1 : Value, args = #[w0, w1] := by
    have hs : args.size = 2 := by simpa [Cond.value, given_1] using gc
    obtain ⟨L⟩ := args
    match L, hs with
    | [w0, w1], _ => exact ⟨w0, w1, rfl⟩
  have hw := fun d (hd : d ∈ tables_1) => atoms_spec (ws := Jvm.Cond.code x code maxLocals ret :: tables_1) hat d (List.mem_cons_of_mem _ hd)
  have hfit : Fit s := fun {y c} hc i hi => by
    obtain ⟨ha, rfl⟩ := Array.getElem?_eq_some_iff.mp hc
    have q := List.all_eq_true.mp ((Array.all_eq_true_iff_forall_mem.mp hF) _ (Array.getElem_mem ha)) i (List.mem_range.mpr hi)
    simpa [Array.getElem?_eq_getElem hi] using q
  obtain ⟨i0, ei0⟩ := is_v ga0
  obtain rfl : w0 = (.int i0) := Option.some.inj ei0
  obtain ⟨i1, ei1⟩ := is_v gr
  obtain rfl : w1 = (.int i1) := Option.some.inj ei1
  obtain ⟨n, o, h1, h2, h3, _, L, rfl, ⟨rfl, N⟩, hq⟩ := rm0 l s _ hw tables_1 i0 i1  s.heap s.heap.size (Nat.le_refl _)  p e ha hc hk s m _ below hf ((Spec.applies_iff_loose hf).mp happ).1 ⟨rfl, State.Warmed39.refl s, rfl⟩ trivial
  refine ⟨n, _, h1, h2, h3, hpost _ _ _ _ _ _ ⟨Cond.after_iff.mpr rfl, Cond.after_iff.mpr (eq_i res_at (Term.int_eval (1)) rfl), trivial⟩ ⟨hq.1, hq.2.1, (hq.2.2.sift fun y hy => Or.inr (N y hy)).mono (by decide) (by decide)⟩⟩
theorem main_1_1 : Claimed_1_1 := comes_1 fun _ _ _ _ _ _ h hF => ⟨h.1, hF⟩
theorem main_1_2 : Claimed_1_2 := comes_1 fun _ _ _ _ _ _ h hF => ⟨h.2.1, hF⟩
end Jvm.Pilot.@@N@@
namespace Jvm.Pilot.@@N@@
open Jvm Jvm.ClassFile Sem Op Lib Jvm.Free Jvm.Stand Jvm.Pilot.@@N@@.Jvm.D
/-! MADE BY PROGRAM (witnessworld.py) out of the Statement's table words and the real class files: 9 classes; the members and pool entries that the words name. The judged class is class 1, her method 2. -/
namespace start1
open Jvm.ClassFile
def u (s : String) : CpInfo := .utf8 (stringToUtf16 s)
/-- a pool by its gaps: so many unusable entries, then the entry; so many at the end -/
def gap : Nat → List CpInfo → List CpInfo
  | 0, r => r
  | n + 1, r => .unusable :: gap n r
def poolList (es : List (Nat × CpInfo)) (last : Nat) : List CpInfo := es.foldr (fun e r => gap e.1 (e.2 :: r)) (gap last [])
def pool (es : List (Nat × CpInfo)) (last : Nat) : Array CpInfo := ⟨poolList es last⟩
def fileOf (pool : Array CpInfo) (this : Nat) (attrs : Array Attribute := #[]) (ms : Array MethodInfo := #[]) (fl : Nat := 33) (sup : Nat := 0) (ifs : Array Nat := #[]) (fds : Array FieldInfo := #[]) : ClassFile where
  minorVersion := 0
  majorVersion := 65
  constantPool := pool
  accessFlags := fl
  thisClass := this
  superClass := sup
  interfaces := ifs
  fields := fds
  methods := ms
  attributes := attrs
def plain (name : String) (sup : Option ClassId) : Class where
  name := name
  kind := .ordinary
  loader := none
  accessFlags := 33
  super := sup
  interfaces := #[]
  cf := none
  fields := #[]
  methods := #[]
  instanceTypes := #[]
  staticTypes := #[]
  resolved := #[]
  callSites := []
  init := .initialized
  statics := none
  mirror := none

def pool0 : Array CpInfo := pool [(5, u "<init>"), (0, u "()V"), (1, .class_ 10), (1, u "java/lang/Object")] 113

def k0m0 : Method := { name := "<init>", desc := "()V", sig := { parameters := [], returnType := none }, accessFlags := 1, code := none }
/-- java/lang/Object -/
def k0 : Class := { plain "java/lang/Object" none with
  accessFlags := 33
  interfaces := #[]
  cf := some (fileOf pool0 8 #[] #[{ accessFlags := 1, nameIndex := 5, descriptorIndex := 6, attributes := #[] }] 33 0 #[] #[])
  fields := #[]
  methods := #[k0m0]
  instanceTypes := #[]
  staticTypes := #[]
  resolved := Array.replicate 124 none
  statics := none }

def pool1 : Array CpInfo := pool [(2, .class_ 4), (1, u "java/lang/Object"), (0, u "<init>"), (0, u "()V"), (0, .methodref 8 9), (0, .class_ 10), (0, .nameAndType 11 12), (0, u "com/example/bertilak/bertilak/util/XmlChars"), (0, u "isNameStartChar"), (0, u "(I)Z"), (0, .integer 63744), (0, .integer 65008), (0, .integer 65536), (0, .integer 55295), (0, .integer 64975), (0, .integer 65533), (0, .integer 983039), (0, .integer 2147483647), (0, .methodref 22 23), (0, .class_ 24), (0, .nameAndType 25 12), (0, u "com/example/bertilak/bertilak/util/XmlCharsIsNameStartCharPinLaw"), (0, u "f"), (2, .integer 2147483648), (0, .integer 983040), (0, .integer 65535), (2, u "law"), (0, u "(II)Z")] 5

def k1m0 : Method := { name := "<init>", desc := "()V", sig := { parameters := [], returnType := none }, accessFlags := 2, code := none }
def k1c1 : Code := { maxStack := 1, maxLocals := 1, code := method_2_code, exceptionTable := #[], attributes := #[] }
def k1m1 : Method := { name := "f", desc := "(I)Z", sig := { parameters := [.int], returnType := some .boolean }, accessFlags := 10, code := some k1c1 }
def k1c2 : Code := { maxStack := 5, maxLocals := 10, code := code, exceptionTable := #[], attributes := #[] }
def k1m2 : Method := { name := "law", desc := "(II)Z", sig := { parameters := [.int, .int], returnType := some .boolean }, accessFlags := 9, code := some k1c2 }
/-- com/example/bertilak/bertilak/util/XmlCharsIsNameStartCharPinLaw -/
def k1 : Class := { plain "com/example/bertilak/bertilak/util/XmlCharsIsNameStartCharPinLaw" (some 0) with
  accessFlags := 49
  interfaces := #[]
  cf := some (fileOf pool1 22 #[] #[{ accessFlags := 2, nameIndex := 5, descriptorIndex := 6, attributes := #[] }, { accessFlags := 10, nameIndex := 25, descriptorIndex := 12, attributes := #[] }, { accessFlags := 9, nameIndex := 33, descriptorIndex := 34, attributes := #[] }] 49 2 #[] #[])
  fields := #[]
  methods := #[k1m0, k1m1, k1m2]
  instanceTypes := #[]
  staticTypes := #[]
  resolved := Array.replicate 40 none
  statics := none }

def pool2 : Array CpInfo := pool [(2, .class_ 4), (1, u "java/lang/Object"), (0, u "<init>"), (0, u "()V"), (11, .class_ 20), (1, u "com/example/bertilak/bertilak/util/XmlChars"), (1, u "(I)Z"), (17, .integer 55295), (0, .integer 63744), (0, .integer 64975), (0, .integer 65008), (0, .integer 65533), (0, .integer 65536), (0, .integer 983039), (2, u "isNameStartChar")] 41

def k2m0 : Method := { name := "<init>", desc := "()V", sig := { parameters := [], returnType := none }, accessFlags := 2, code := none }
def k2c1 : Code := { maxStack := 2, maxLocals := 1, code := prog_300_method_5_code, exceptionTable := #[], attributes := #[] }
def k2m1 : Method := { name := "isNameStartChar", desc := "(I)Z", sig := { parameters := [.int], returnType := some .boolean }, accessFlags := 9, code := some k2c1 }
/-- com/example/bertilak/bertilak/util/XmlChars -/
def k2 : Class := { plain "com/example/bertilak/bertilak/util/XmlChars" (some 0) with
  accessFlags := 33
  interfaces := #[]
  cf := some (fileOf pool2 18 #[] #[{ accessFlags := 2, nameIndex := 5, descriptorIndex := 6, attributes := #[] }, { accessFlags := 9, nameIndex := 49, descriptorIndex := 22, attributes := #[] }] 33 2 #[] #[])
  fields := #[]
  methods := #[k2m0, k2m1]
  instanceTypes := #[]
  staticTypes := #[]
  resolved := Array.replicate 91 none
  statics := none }

def pool3 : Array CpInfo := pool [(1, u "java/lang/Cloneable"), (0, .class_ 1), (0, u "java/lang/Object"), (0, .class_ 3)] 3

/-- java/lang/Cloneable -/
def k3 : Class := { plain "java/lang/Cloneable" (some 0) with
  accessFlags := 1537
  interfaces := #[]
  cf := some (fileOf pool3 2 #[] #[] 1537 4 #[] #[])
  fields := #[]
  methods := #[]
  instanceTypes := #[]
  staticTypes := #[]
  resolved := Array.replicate 8 none
  statics := none }

def pool4 : Array CpInfo := pool [(1, u "java/io/Serializable"), (0, .class_ 1), (0, u "java/lang/Object"), (0, .class_ 3)] 3

/-- java/io/Serializable -/
def k4 : Class := { plain "java/io/Serializable" (some 0) with
  accessFlags := 1537
  interfaces := #[]
  cf := some (fileOf pool4 2 #[] #[] 1537 4 #[] #[])
  fields := #[]
  methods := #[]
  instanceTypes := #[]
  staticTypes := #[]
  resolved := Array.replicate 8 none
  statics := none }

/-- the primitive byte -/
def k5 : Class := { plain "byte" none with kind := .primitive 'B', accessFlags := 0x411 }
/-- [B -/
def k6 : Class := { plain "[B" (some 0) with kind := .array 5 .byte, interfaces := #[3, 4], accessFlags := 1041 }

/-- the primitive int -/
def k7 : Class := { plain "int" none with kind := .primitive 'I', accessFlags := 0x411 }
/-- [I -/
def k8 : Class := { plain "[I" (some 0) with kind := .array 7 .int, interfaces := #[3, 4], accessFlags := 1041 }

def heap : Heap := #[]
def classes : Array Class := #[k0, k1, k2, k3, k4, k5, k6, k7, k8]
def interned : List (Array UInt16 × Addr) := []
def slotsUsed : Nat := 0
def theMethod : MethodId := ⟨1, 2⟩
def args0 : Array Value := #[.int 5, .int 1]
def aboutOver (below : List Frame) : State where
  vm := { classes := classes, interned := interned.toArray }
  heap := heap
  slotsUsed := slotsUsed
  threads := #[{ frames := .invoking theMethod args0 :: below }]
def below0 : List Frame := [.native { method := ⟨0, 0⟩, args := #[] }]
def about1 : State := aboutOver below0
def p0 : Program := .bare "" "" ""
def e0 : Env := launch0.env 0 0 0
theorem w_frames : about1.frames = Frame.invoking theMethod args0 :: below0 := rfl
set_option maxRecDepth 65536 in
theorem w_args : argsFit about1.vm theMethod args0 = true := by decide +kernel
set_option maxRecDepth 65536 in
theorem w_heap : heapFits about1 = true := by decide +kernel
set_option maxRecDepth 65536 in
theorem w_runnable : about1.curStatus? = some .runnable := by decide +kernel
set_option maxRecDepth 65536 in
theorem w_alone : about1.alone = true := by decide +kernel
set_option maxRecDepth 65536 in
theorem w_named : about1.methodNamed? x = some theMethod := by decide +kernel
set_option maxRecDepth 65536 in
theorem w_hears : about1.hears theMethod below0 = true := by decide +kernel
set_option maxRecDepth 65536 in
theorem w_ripe : about1.ripe theMethod args0 below0 = true := by decide +kernel
theorem w_running : about1.status = .running := rfl
set_option maxRecDepth 65536 in
theorem w_room : about1.hasRoom e0.platform room_1 = true :=
  launch0.hasRoom_least _ room_1 (by decide +kernel) (by decide +kernel) (by decide +kernel) (by decide +kernel) (by decide +kernel) (by decide +kernel)
theorem allAtoms_all (ts : List Jvm.Cond) (a : Array Jvm.Value) (st : Jvm.State) : (allAtoms ts).before a st = ts.all (fun c => c.before a st) := by
  induction ts with
  | nil => rfl
  | cons c t ih =>
    show (Jvm.Cond.and c (allAtoms t)).before a st = _
    rw [Jvm.Cond.before_and, ih, List.all_cons]
def words1 : List Jvm.Cond := Jvm.Cond.code x code maxLocals ret :: tables_1
/-- a 'code' word, met by the world's own term for the bytes: nothing is compared byte by byte -/
theorem code_word {y : MethodName} {bytes : ByteArray} {mx : Nat} {rt : Option FieldType} {a : Array Value} {s : State} {m : MethodId} {meth : Method} {c : Code} (h1 : s.methodNamed? y = some m) (h2 : s.vm.method? m = some meth) (h3 : meth.code = some c) (h4 : c.code = bytes)
    (h5 : (c.maxLocals == mx && c.exceptionTable.isEmpty && decide (c.maxStack ≤ mostOperands) && decide (meth.sig.returnType = rt) && !meth.locks && decide (parseMethodDescriptor y.desc = some meth.sig)) = true) : (Jvm.Cond.code y bytes mx rt).before a s = true := by
  simp only [Bool.and_eq_true, beq_iff_eq, Bool.not_eq_true', decide_eq_true_eq] at h5
  obtain ⟨⟨⟨⟨⟨g1, g2⟩, g3⟩, g4⟩, g5⟩, g6⟩ := h5
  simp [Cond.before, Cond.holds, Cond.value, h1, h2, h3, h4, g1, g2, g3, g4, g5, g6]
def isCode : Jvm.Cond → Bool
  | .code _ _ _ _ => true
  | _ => false
theorem all_split {L : List Jvm.Cond} {P : Jvm.Cond → Bool} (h1 : L.all (fun c => isCode c || P c) = true) (h2 : ∀ c ∈ L.filter isCode, P c = true) : L.all P = true := by
  refine List.all_eq_true.mpr fun c hc => ?_
  have h := List.all_eq_true.mp h1 c hc
  rcases Bool.eq_false_or_eq_true (isCode c) with hi | hi
  · exact h2 c (List.mem_filter.mpr ⟨hc, hi⟩)
  · simpa [hi] using h
set_option maxRecDepth 65536 in
theorem w_c0 : (Jvm.Cond.code x code maxLocals ret).before args0 about1 = true := code_word (m := ⟨1, 2⟩) (meth := k1m2) (c := k1c2) (by decide +kernel) rfl rfl rfl (by decide +kernel)
set_option maxRecDepth 65536 in
theorem w_c1 : (Jvm.Cond.code ({ cls := "com/example/bertilak/bertilak/util/XmlCharsIsNameStartCharPinLaw", name := "f", desc := "(I)Z" } : Jvm.MethodName) method_2_code (1 : Nat) (Option.some Jvm.ClassFile.FieldType.boolean)).before args0 about1 = true := code_word (m := ⟨1, 1⟩) (meth := k1m1) (c := k1c1) (by decide +kernel) rfl rfl rfl (by decide +kernel)
set_option maxRecDepth 65536 in
theorem w_c2 : (Jvm.Cond.code ({ cls := "com/example/bertilak/bertilak/util/XmlChars", name := "isNameStartChar", desc := "(I)Z" } : Jvm.MethodName) prog_300_method_5_code (1 : Nat) (Option.some Jvm.ClassFile.FieldType.boolean)).before args0 about1 = true := code_word (m := ⟨2, 1⟩) (meth := k2m1) (c := k2c1) (by decide +kernel) rfl rfl rfl (by decide +kernel)
def codes1 : List Jvm.Cond := [Jvm.Cond.code x code maxLocals ret, Jvm.Cond.code ({ cls := "com/example/bertilak/bertilak/util/XmlCharsIsNameStartCharPinLaw", name := "f", desc := "(I)Z" } : Jvm.MethodName) method_2_code (1 : Nat) (Option.some Jvm.ClassFile.FieldType.boolean), Jvm.Cond.code ({ cls := "com/example/bertilak/bertilak/util/XmlChars", name := "isNameStartChar", desc := "(I)Z" } : Jvm.MethodName) prog_300_method_5_code (1 : Nat) (Option.some Jvm.ClassFile.FieldType.boolean)]
set_option maxRecDepth 65536 in
theorem codes_eq : words1.filter isCode = codes1 := rfl
theorem w_codes : ∀ c ∈ words1.filter isCode, c.before args0 about1 = true := by
  rw [codes_eq]
  intro c hc
  simp only [codes1, List.mem_cons, List.not_mem_nil, or_false] at hc
  rcases hc with rfl | rfl | rfl
  · exact w_c0
  · exact w_c1
  · exact w_c2
set_option maxRecDepth 65536 in
theorem w_t1 : (words1.take 24).all (fun c => isCode c || c.before args0 about1) = true := by decide +kernel
set_option maxRecDepth 65536 in
theorem w_t2 : (words1.drop 24).all (fun c => isCode c || c.before args0 about1) = true := by decide +kernel
theorem w_tables : (allAtoms (Jvm.Cond.code x code maxLocals ret :: tables_1)).before args0 about1 = true := by
  rw [allAtoms_all]
  show words1.all (fun c => c.before args0 about1) = true
  refine all_split ?_ w_codes
  rw [← List.take_append_drop 24 words1, List.all_append, w_t1, w_t2]
  rfl
set_option maxRecDepth 65536 in
theorem w_case : (Jvm.Cond.and given_1 narrow_1).before args0 about1 = true := by decide +kernel
theorem w_applies : (headSpec (Jvm.Cond.code x code maxLocals ret :: tables_1) room_1).applies x e0.platform about1 = true :=
  (Spec.applies_iff w_frames).mpr ⟨w_running, w_runnable, w_alone, w_named, w_hears, w_ripe, w_room, w_tables⟩
theorem atStart : AtStart classFile x code maxLocals ret World_1 tables_1 room_1 Calls_1 rest_1 Pre_1 launch0 p0 e0 about1 theMethod args0 below0 :=
  ⟨lists_1, trivial, launch0.admits_env _ _ _, launch0.least_env, fairChoices_fair.cas, fairChoices_fair.clock, w_frames, w_args, w_heap, w_applies, trivial, trivial, w_case⟩
end start1
theorem witness_1 : WitnessClaimed_1 := ⟨start1.p0, start1.e0, start1.about1, start1.theMethod, start1.args0, start1.below0, start1.atStart⟩
end Jvm.Pilot.@@N@@
