import JvmDerived
import JvmDerived.Pilot.@@N@@Statement
import JvmDerived.Pilot.@@N@@Code
set_option linter.unusedVariables false
set_option linter.unusedSimpArgs false
namespace Jvm.RoadKit
open Sem ClassFile Op Lib Jvm.Stand Jvm.Free Jvm.LawKit
section New
variable {p : Program} {l : Launch} {e : Env} {R : Room} {s : State} {m : MethodId} {args : Array Value} {below : List Frame} {meth : Method} {c : Code} {T : State} {locs : List Loc} {cells slots : Nat}
theorem retI (X : Stand p l e R s m args below meth c T locs cells slots) (hx : p.tables.exec = Jvm.exec) {pc : Nat} {Ls : Array Slot} {z : Int32} {rest : List Value} (hret : meth.sig.returnType = some .int) (hd : decode c.code pc = .ok (.ireturn, 1)) {fs : List Frame}
    (hl : ∀ (f : JFrame) (acts : List Action), f.method = m → f.locked = none → f.entered = [] → (doReturn e (T.setTop f) acts (some (.int z))).1 = T.setFrames fs) : Steps p.tables e below (T.setTop (mkF m pc Ls (.int z :: rest))) (T.setFrames fs) := by
  have hm' : T.vm.method? m = some meth := X.method'
  have hn : narrow .int (.int z) = .int z := rfl
  show Steps p.tables e below (T.setTop { method := m, pc := pc, locals := Ls, stack := _ :: rest, locked := none }) _
  jvm_step X.here [X.here.top, hx, hd, hm', hret, hn]
  first | (intro acts; rw [hl _ acts rfl rfl rfl]) | rw [hl _ _ rfl rfl rfl]
  exact Steps.refl _
end New
end Jvm.RoadKit
namespace Jvm.Pilot.@@N@@
open Jvm Jvm.ClassFile Sem Op Lib Jvm.Free Jvm.Stand Jvm.LawKit Jvm.RoadKit Bundle Jvm.Pilot.@@N@@.Jvm.D
theorem own_stI {p : Program} {l : Launch} {e : Env} {R : Room} {s : State} {m : MethodId} {args : Array Value} {below : List Frame} {meth : Method} {c : Code} {T : State} {locs : List Loc} {cells slots : Nat} {Z : State} {h : Heap} {a : Addr} {k : ClassId} {z : Int32} {vs : List Value} {dv : Value}
    (X : Stand p l e R s m args below meth c T locs cells slots) (hx : p.tables.exec = Jvm.exec) (hZ : Z.Warmed39 s.vm) (eT : T.heap = h) (V : Arv Z h a k .int z vs dv) {j : Int32} (i : Nat) (hj : j.toNatClampNeg = i) (hb : ¬ j < 0 ∧ j < z) (hi : i < vs.length) {x : Int32} {g : JFrame} (hg : g.method = m) {rest : List Value} (hs : g.stack = .int x :: .int j :: .ref a :: rest) (hd : decode c.code g.pc = .ok (.iastore, 1)) :
    ∃ T' h', Stand p l e R s m args below meth c T' (locs ++ [⟨a, j.toNatClampNeg⟩]) cells slots ∧ T'.heap = h' ∧ Wr h h' a j.toNatClampNeg (.int x) ∧ Arv Z h' a k .int z (vs.set i (.int x)) dv ∧ ∀ target, Steps p.tables e below (T'.setTop { g with pc := g.pc + 1, stack := rest }) target → Steps p.tables e below (T.setTop g) target := by
  obtain ⟨cl, Ar, q, S, M, H, G⟩ := V
  obtain ⟨T', h', X', e', W, st⟩ := Jvm.RoadKit.stI X hx hZ eT Ar (j := j) (inb_of S hb) hg hs hd
  exact ⟨T', h', X', e', W, Arv.set Ar q S M H G rfl W i hj hi, st⟩
theorem own_ldI {p : Program} {l : Launch} {e : Env} {R : Room} {s : State} {m : MethodId} {args : Array Value} {below : List Frame} {meth : Method} {c : Code} {T : State} {locs : List Loc} {cells slots : Nat} {Z : State} {h : Heap} {a : Addr} {k : ClassId} {z : Int32} {vs : List Value} {dv : Value}
    (X : Stand p l e R s m args below meth c T locs cells slots) (hx : p.tables.exec = Jvm.exec) (hZ : Z.Warmed39 s.vm) (eT : T.heap = h) (V : Arv Z h a k .int z vs dv) {j : Int32} (hb : ¬ j < 0 ∧ j < z) {g : JFrame} (hg : g.method = m) {rest : List Value} (hs : g.stack = .int j :: .ref a :: rest) (hd : decode c.code g.pc = .ok (.iaload, 1)) :
    ∃ w, vs.getD j.toNatClampNeg dv = .int w ∧ ∀ target, Steps p.tables e below (T.setTop { g with pc := g.pc + 1, stack := .int w :: rest }) target → Steps p.tables e below (T.setTop g) target := by
  obtain ⟨cl, Ar, q, S, M, H, G⟩ := V
  have hin := inb_of S hb
  have hlt : j.toNatClampNeg < cl.slots.size := Nat.lt_of_not_le fun q => hin (Or.inr q)
  obtain ⟨w, hw⟩ := fit_I (G _ hlt) (by simp)
  exact ⟨w, hw, X.iaload hx (j := j) (v := .int w) (by rw [eT]; exact Ar.1) (State.isArrayOf_alike hZ.alike Ar.2.1) Ar.2.2 hin (by rw [H _ hlt, hw]) hg hs hd⟩
theorem d1_0 : decode prog_235_method_5_code 0 = .ok (.iload_n 0, 1) := by decide +kernel
theorem d1_1 : decode prog_235_method_5_code 1 = .ok (.bipush 65, 2) := by decide +kernel
theorem d1_3 : decode prog_235_method_5_code 3 = .ok (.if_icmp .lt 9, 3) := by decide +kernel
theorem d1_6 : decode prog_235_method_5_code 6 = .ok (.iload_n 0, 1) := by decide +kernel
theorem d1_7 : decode prog_235_method_5_code 7 = .ok (.bipush 90, 2) := by decide +kernel
theorem d1_9 : decode prog_235_method_5_code 9 = .ok (.if_icmp .le 182, 3) := by decide +kernel
theorem d1_12 : decode prog_235_method_5_code 12 = .ok (.iload_n 0, 1) := by decide +kernel
theorem d1_13 : decode prog_235_method_5_code 13 = .ok (.bipush 95, 2) := by decide +kernel
theorem d1_15 : decode prog_235_method_5_code 15 = .ok (.if_icmp .eq 176, 3) := by decide +kernel
theorem d1_18 : decode prog_235_method_5_code 18 = .ok (.iload_n 0, 1) := by decide +kernel
theorem d1_19 : decode prog_235_method_5_code 19 = .ok (.bipush 97, 2) := by decide +kernel
theorem d1_21 : decode prog_235_method_5_code 21 = .ok (.if_icmp .lt 9, 3) := by decide +kernel
theorem d1_24 : decode prog_235_method_5_code 24 = .ok (.iload_n 0, 1) := by decide +kernel
theorem d1_25 : decode prog_235_method_5_code 25 = .ok (.bipush 122, 2) := by decide +kernel
theorem d1_27 : decode prog_235_method_5_code 27 = .ok (.if_icmp .le 164, 3) := by decide +kernel
theorem d1_30 : decode prog_235_method_5_code 30 = .ok (.iload_n 0, 1) := by decide +kernel
theorem d1_31 : decode prog_235_method_5_code 31 = .ok (.sipush 192, 3) := by decide +kernel
theorem d1_34 : decode prog_235_method_5_code 34 = .ok (.if_icmp .lt 10, 3) := by decide +kernel
theorem d1_37 : decode prog_235_method_5_code 37 = .ok (.iload_n 0, 1) := by decide +kernel
theorem d1_38 : decode prog_235_method_5_code 38 = .ok (.sipush 214, 3) := by decide +kernel
theorem d1_41 : decode prog_235_method_5_code 41 = .ok (.if_icmp .le 150, 3) := by decide +kernel
theorem d1_44 : decode prog_235_method_5_code 44 = .ok (.iload_n 0, 1) := by decide +kernel
theorem d1_45 : decode prog_235_method_5_code 45 = .ok (.sipush 216, 3) := by decide +kernel
theorem d1_48 : decode prog_235_method_5_code 48 = .ok (.if_icmp .lt 10, 3) := by decide +kernel
theorem d1_51 : decode prog_235_method_5_code 51 = .ok (.iload_n 0, 1) := by decide +kernel
theorem d1_52 : decode prog_235_method_5_code 52 = .ok (.sipush 246, 3) := by decide +kernel
theorem d1_55 : decode prog_235_method_5_code 55 = .ok (.if_icmp .le 136, 3) := by decide +kernel
theorem d1_58 : decode prog_235_method_5_code 58 = .ok (.iload_n 0, 1) := by decide +kernel
theorem d1_59 : decode prog_235_method_5_code 59 = .ok (.sipush 248, 3) := by decide +kernel
theorem d1_62 : decode prog_235_method_5_code 62 = .ok (.if_icmp .lt 10, 3) := by decide +kernel
theorem d1_65 : decode prog_235_method_5_code 65 = .ok (.iload_n 0, 1) := by decide +kernel
theorem d1_66 : decode prog_235_method_5_code 66 = .ok (.sipush 767, 3) := by decide +kernel
theorem d1_69 : decode prog_235_method_5_code 69 = .ok (.if_icmp .le 122, 3) := by decide +kernel
theorem d1_72 : decode prog_235_method_5_code 72 = .ok (.iload_n 0, 1) := by decide +kernel
theorem d1_73 : decode prog_235_method_5_code 73 = .ok (.sipush 880, 3) := by decide +kernel
theorem d1_76 : decode prog_235_method_5_code 76 = .ok (.if_icmp .lt 10, 3) := by decide +kernel
theorem d1_79 : decode prog_235_method_5_code 79 = .ok (.iload_n 0, 1) := by decide +kernel
theorem d1_80 : decode prog_235_method_5_code 80 = .ok (.sipush 893, 3) := by decide +kernel
theorem d1_83 : decode prog_235_method_5_code 83 = .ok (.if_icmp .le 108, 3) := by decide +kernel
theorem d1_86 : decode prog_235_method_5_code 86 = .ok (.iload_n 0, 1) := by decide +kernel
theorem d1_87 : decode prog_235_method_5_code 87 = .ok (.sipush 895, 3) := by decide +kernel
theorem d1_90 : decode prog_235_method_5_code 90 = .ok (.if_icmp .lt 10, 3) := by decide +kernel
theorem d1_93 : decode prog_235_method_5_code 93 = .ok (.iload_n 0, 1) := by decide +kernel
theorem d1_94 : decode prog_235_method_5_code 94 = .ok (.sipush 8191, 3) := by decide +kernel
theorem d1_97 : decode prog_235_method_5_code 97 = .ok (.if_icmp .le 94, 3) := by decide +kernel
theorem d1_100 : decode prog_235_method_5_code 100 = .ok (.iload_n 0, 1) := by decide +kernel
theorem d1_101 : decode prog_235_method_5_code 101 = .ok (.sipush 8204, 3) := by decide +kernel
theorem d1_104 : decode prog_235_method_5_code 104 = .ok (.if_icmp .lt 10, 3) := by decide +kernel
theorem d1_107 : decode prog_235_method_5_code 107 = .ok (.iload_n 0, 1) := by decide +kernel
theorem d1_108 : decode prog_235_method_5_code 108 = .ok (.sipush 8205, 3) := by decide +kernel
theorem d1_111 : decode prog_235_method_5_code 111 = .ok (.if_icmp .le 80, 3) := by decide +kernel
theorem d1_114 : decode prog_235_method_5_code 114 = .ok (.iload_n 0, 1) := by decide +kernel
theorem d1_115 : decode prog_235_method_5_code 115 = .ok (.sipush 8304, 3) := by decide +kernel
theorem d1_118 : decode prog_235_method_5_code 118 = .ok (.if_icmp .lt 10, 3) := by decide +kernel
theorem d1_121 : decode prog_235_method_5_code 121 = .ok (.iload_n 0, 1) := by decide +kernel
theorem d1_122 : decode prog_235_method_5_code 122 = .ok (.sipush 8591, 3) := by decide +kernel
theorem d1_125 : decode prog_235_method_5_code 125 = .ok (.if_icmp .le 66, 3) := by decide +kernel
theorem d1_128 : decode prog_235_method_5_code 128 = .ok (.iload_n 0, 1) := by decide +kernel
theorem d1_129 : decode prog_235_method_5_code 129 = .ok (.sipush 11264, 3) := by decide +kernel
theorem d1_132 : decode prog_235_method_5_code 132 = .ok (.if_icmp .lt 10, 3) := by decide +kernel
theorem d1_135 : decode prog_235_method_5_code 135 = .ok (.iload_n 0, 1) := by decide +kernel
theorem d1_136 : decode prog_235_method_5_code 136 = .ok (.sipush 12271, 3) := by decide +kernel
theorem d1_139 : decode prog_235_method_5_code 139 = .ok (.if_icmp .le 52, 3) := by decide +kernel
theorem d1_142 : decode prog_235_method_5_code 142 = .ok (.iload_n 0, 1) := by decide +kernel
theorem d1_143 : decode prog_235_method_5_code 143 = .ok (.sipush 12289, 3) := by decide +kernel
theorem d1_146 : decode prog_235_method_5_code 146 = .ok (.if_icmp .lt 9, 3) := by decide +kernel
theorem d1_149 : decode prog_235_method_5_code 149 = .ok (.iload_n 0, 1) := by decide +kernel
theorem d1_150 : decode prog_235_method_5_code 150 = .ok (.ldc 7, 2) := by decide +kernel
theorem d1_152 : decode prog_235_method_5_code 152 = .ok (.if_icmp .le 39, 3) := by decide +kernel
theorem d1_155 : decode prog_235_method_5_code 155 = .ok (.iload_n 0, 1) := by decide +kernel
theorem d1_156 : decode prog_235_method_5_code 156 = .ok (.ldc 42, 2) := by decide +kernel
theorem d1_158 : decode prog_235_method_5_code 158 = .ok (.if_icmp .lt 9, 3) := by decide +kernel
theorem d1_161 : decode prog_235_method_5_code 161 = .ok (.iload_n 0, 1) := by decide +kernel
theorem d1_162 : decode prog_235_method_5_code 162 = .ok (.ldc 43, 2) := by decide +kernel
theorem d1_164 : decode prog_235_method_5_code 164 = .ok (.if_icmp .le 27, 3) := by decide +kernel
theorem d1_167 : decode prog_235_method_5_code 167 = .ok (.iload_n 0, 1) := by decide +kernel
theorem d1_168 : decode prog_235_method_5_code 168 = .ok (.ldc 44, 2) := by decide +kernel
theorem d1_170 : decode prog_235_method_5_code 170 = .ok (.if_icmp .lt 9, 3) := by decide +kernel
theorem d1_173 : decode prog_235_method_5_code 173 = .ok (.iload_n 0, 1) := by decide +kernel
theorem d1_174 : decode prog_235_method_5_code 174 = .ok (.ldc 9, 2) := by decide +kernel
theorem d1_176 : decode prog_235_method_5_code 176 = .ok (.if_icmp .le 15, 3) := by decide +kernel
theorem d1_179 : decode prog_235_method_5_code 179 = .ok (.iload_n 0, 1) := by decide +kernel
theorem d1_180 : decode prog_235_method_5_code 180 = .ok (.ldc 10, 2) := by decide +kernel
theorem d1_182 : decode prog_235_method_5_code 182 = .ok (.if_icmp .lt 13, 3) := by decide +kernel
theorem d1_185 : decode prog_235_method_5_code 185 = .ok (.iload_n 0, 1) := by decide +kernel
theorem d1_186 : decode prog_235_method_5_code 186 = .ok (.ldc 45, 2) := by decide +kernel
theorem d1_188 : decode prog_235_method_5_code 188 = .ok (.if_icmp .gt 7, 3) := by decide +kernel
theorem d1_191 : decode prog_235_method_5_code 191 = .ok (.iconst 1, 1) := by decide +kernel
theorem d1_192 : decode prog_235_method_5_code 192 = .ok (.goto 4, 3) := by decide +kernel
theorem d1_195 : decode prog_235_method_5_code 195 = .ok (.iconst 0, 1) := by decide +kernel
theorem d1_196 : decode prog_235_method_5_code 196 = .ok (.ireturn, 1) := by decide +kernel
def own_f1_195 (p1 : Int32) : Int32 := (0 : Int32)
set_option maxRecDepth 65536 in
set_option maxHeartbeats 4000000 in
theorem own_b1_195 {p : Program} {l : Launch} {e : Env} {R : Room} {s : State} {m : MethodId} {args : Array Value} {below : List Frame} {meth : Method} {c : Code} {T : State} {locs : List Loc} {cells slots : Nat} {Z : State} {a0 : Array Value} (X : Stand p l e R s m args below meth c T locs cells slots) (hx : p.tables.exec = Jvm.exec) (hby : c.code = prog_235_method_5_code) (hown : s.vm.findClass "com/example/querent/querent/xdm/XmlChars" = some m.cls) (hZ : Z.Warmed39 s.vm) (hw : ∀ d ∈ tables_1, d.before a0 Z = true) (hret : meth.sig.returnType = some .boolean) (p1 : Int32) (v : Int32) (hv : own_f1_195 p1 = v) {fs : List Frame} (hr : ∀ (f : JFrame) (acts : List Action), f.method = m → f.locked = none → f.entered = [] → (doReturn e (T.setTop f) acts (some (.int v))).1 = T.setFrames fs) :
    Steps p.tables e below (T.setTop (mkF m 195 #[.val (.int p1)] [])) (T.setFrames fs) := by
  unfold own_f1_195 at hv
  show Steps p.tables e below (T.setTop (mkF m 195 #[.val (.int p1)] [])) _
  refine XS.iconst X.here hx rfl (hb hby d1_195) ?_
  show Steps p.tables e below (T.setTop (mkF m 196 #[.val (.int p1)] [(.int (0 : Int32))])) _
  subst hv
  exact retN X hx (t := .boolean) hret (by simp) (hb hby d1_196) hr
def own_f1_191 (p1 : Int32) : Int32 := (1 : Int32)
set_option maxRecDepth 65536 in
set_option maxHeartbeats 4000000 in
theorem own_b1_191 {p : Program} {l : Launch} {e : Env} {R : Room} {s : State} {m : MethodId} {args : Array Value} {below : List Frame} {meth : Method} {c : Code} {T : State} {locs : List Loc} {cells slots : Nat} {Z : State} {a0 : Array Value} (X : Stand p l e R s m args below meth c T locs cells slots) (hx : p.tables.exec = Jvm.exec) (hby : c.code = prog_235_method_5_code) (hown : s.vm.findClass "com/example/querent/querent/xdm/XmlChars" = some m.cls) (hZ : Z.Warmed39 s.vm) (hw : ∀ d ∈ tables_1, d.before a0 Z = true) (hret : meth.sig.returnType = some .boolean) (p1 : Int32) (v : Int32) (hv : own_f1_191 p1 = v) {fs : List Frame} (hr : ∀ (f : JFrame) (acts : List Action), f.method = m → f.locked = none → f.entered = [] → (doReturn e (T.setTop f) acts (some (.int v))).1 = T.setFrames fs) :
    Steps p.tables e below (T.setTop (mkF m 191 #[.val (.int p1)] [])) (T.setFrames fs) := by
  unfold own_f1_191 at hv
  show Steps p.tables e below (T.setTop (mkF m 191 #[.val (.int p1)] [])) _
  refine XS.iconst X.here hx rfl (hb hby d1_191) ?_
  show Steps p.tables e below (T.setTop (mkF m 192 #[.val (.int p1)] [(.int (1 : Int32))])) _
  refine XS.goto X.here hx rfl (pc0 := 192) (pc' := 196) rfl (hb hby d1_192) (by decide) (by decide) ?_
  show Steps p.tables e below (T.setTop (mkF m 196 #[.val (.int p1)] [(.int (1 : Int32))])) _
  subst hv
  exact retN X hx (t := .boolean) hret (by simp) (hb hby d1_196) hr
def own_f1_179 (p1 : Int32) : Int32 := (if p1 < (65536 : Int32) then own_f1_195 p1 else (if (983039 : Int32) < p1 then own_f1_195 p1 else own_f1_191 p1))
set_option maxRecDepth 65536 in
set_option maxHeartbeats 4000000 in
theorem own_b1_179 {p : Program} {l : Launch} {e : Env} {R : Room} {s : State} {m : MethodId} {args : Array Value} {below : List Frame} {meth : Method} {c : Code} {T : State} {locs : List Loc} {cells slots : Nat} {Z : State} {a0 : Array Value} (X : Stand p l e R s m args below meth c T locs cells slots) (hx : p.tables.exec = Jvm.exec) (hby : c.code = prog_235_method_5_code) (hown : s.vm.findClass "com/example/querent/querent/xdm/XmlChars" = some m.cls) (hZ : Z.Warmed39 s.vm) (hw : ∀ d ∈ tables_1, d.before a0 Z = true) (hret : meth.sig.returnType = some .boolean) (p1 : Int32) (v : Int32) (hv : own_f1_179 p1 = v) {fs : List Frame} (hr : ∀ (f : JFrame) (acts : List Action), f.method = m → f.locked = none → f.entered = [] → (doReturn e (T.setTop f) acts (some (.int v))).1 = T.setFrames fs) :
    Steps p.tables e below (T.setTop (mkF m 179 #[.val (.int p1)] [])) (T.setFrames fs) := by
  unfold own_f1_179 at hv
  show Steps p.tables e below (T.setTop (mkF m 179 #[.val (.int p1)] [])) _
  refine XS.iloadN X.here hx rfl (hb hby d1_179) rfl ?_
  show Steps p.tables e below (T.setTop (mkF m 180 #[.val (.int p1)] [(.int p1)])) _
  refine X.ldcInt hx hown (mvT hZ (hw _ (List.mem_of_getElem? (i := 16) rfl))) (g := (mkF m 180 #[.val (.int p1)] [(.int p1)])) rfl (hb hby d1_180) _ ?_
  show Steps p.tables e below (T.setTop (mkF m 182 #[.val (.int p1)] [(.int (65536 : Int32)), (.int p1)])) _
  by_cases hc182 : p1 < (65536 : Int32)
  · rw [if_pos hc182] at hv
    refine XS.icmpYes X.here hx rfl (pc0 := 182) (pc' := 195) rfl (hb hby d1_182) rfl (tlt hc182).1 (by decide) (by decide) ?_
    show Steps p.tables e below (T.setTop (mkF m 195 #[.val (.int p1)] [])) _
    exact own_b1_195 X hx hby hown hZ hw hret p1 v hv hr
  · rw [if_neg hc182] at hv
    refine XS.icmpNo X.here hx rfl (hb hby d1_182) rfl (flt hc182).1 ?_
    show Steps p.tables e below (T.setTop (mkF m 185 #[.val (.int p1)] [])) _
    refine XS.iloadN X.here hx rfl (hb hby d1_185) rfl ?_
    show Steps p.tables e below (T.setTop (mkF m 186 #[.val (.int p1)] [(.int p1)])) _
    refine X.ldcInt hx hown (mvT hZ (hw _ (List.mem_of_getElem? (i := 28) rfl))) (g := (mkF m 186 #[.val (.int p1)] [(.int p1)])) rfl (hb hby d1_186) _ ?_
    show Steps p.tables e below (T.setTop (mkF m 188 #[.val (.int p1)] [(.int (983039 : Int32)), (.int p1)])) _
    by_cases hc188 : (983039 : Int32) < p1
    · rw [if_pos hc188] at hv
      refine XS.icmpYes X.here hx rfl (pc0 := 188) (pc' := 195) rfl (hb hby d1_188) rfl (tlt hc188).2.2.1 (by decide) (by decide) ?_
      show Steps p.tables e below (T.setTop (mkF m 195 #[.val (.int p1)] [])) _
      exact own_b1_195 X hx hby hown hZ hw hret p1 v hv hr
    · rw [if_neg hc188] at hv
      refine XS.icmpNo X.here hx rfl (hb hby d1_188) rfl (flt hc188).2.2.1 ?_
      show Steps p.tables e below (T.setTop (mkF m 191 #[.val (.int p1)] [])) _
      exact own_b1_191 X hx hby hown hZ hw hret p1 v hv hr
def own_f1_167 (p1 : Int32) : Int32 := (if p1 < (65008 : Int32) then own_f1_179 p1 else (if (65533 : Int32) < p1 then own_f1_179 p1 else own_f1_191 p1))
set_option maxRecDepth 65536 in
set_option maxHeartbeats 4000000 in
theorem own_b1_167 {p : Program} {l : Launch} {e : Env} {R : Room} {s : State} {m : MethodId} {args : Array Value} {below : List Frame} {meth : Method} {c : Code} {T : State} {locs : List Loc} {cells slots : Nat} {Z : State} {a0 : Array Value} (X : Stand p l e R s m args below meth c T locs cells slots) (hx : p.tables.exec = Jvm.exec) (hby : c.code = prog_235_method_5_code) (hown : s.vm.findClass "com/example/querent/querent/xdm/XmlChars" = some m.cls) (hZ : Z.Warmed39 s.vm) (hw : ∀ d ∈ tables_1, d.before a0 Z = true) (hret : meth.sig.returnType = some .boolean) (p1 : Int32) (v : Int32) (hv : own_f1_167 p1 = v) {fs : List Frame} (hr : ∀ (f : JFrame) (acts : List Action), f.method = m → f.locked = none → f.entered = [] → (doReturn e (T.setTop f) acts (some (.int v))).1 = T.setFrames fs) :
    Steps p.tables e below (T.setTop (mkF m 167 #[.val (.int p1)] [])) (T.setFrames fs) := by
  unfold own_f1_167 at hv
  show Steps p.tables e below (T.setTop (mkF m 167 #[.val (.int p1)] [])) _
  refine XS.iloadN X.here hx rfl (hb hby d1_167) rfl ?_
  show Steps p.tables e below (T.setTop (mkF m 168 #[.val (.int p1)] [(.int p1)])) _
  refine X.ldcInt hx hown (mvT hZ (hw _ (List.mem_of_getElem? (i := 15) rfl))) (g := (mkF m 168 #[.val (.int p1)] [(.int p1)])) rfl (hb hby d1_168) _ ?_
  show Steps p.tables e below (T.setTop (mkF m 170 #[.val (.int p1)] [(.int (65008 : Int32)), (.int p1)])) _
  by_cases hc170 : p1 < (65008 : Int32)
  · rw [if_pos hc170] at hv
    refine XS.icmpYes X.here hx rfl (pc0 := 170) (pc' := 179) rfl (hb hby d1_170) rfl (tlt hc170).1 (by decide) (by decide) ?_
    show Steps p.tables e below (T.setTop (mkF m 179 #[.val (.int p1)] [])) _
    exact own_b1_179 X hx hby hown hZ hw hret p1 v hv hr
  · rw [if_neg hc170] at hv
    refine XS.icmpNo X.here hx rfl (hb hby d1_170) rfl (flt hc170).1 ?_
    show Steps p.tables e below (T.setTop (mkF m 173 #[.val (.int p1)] [])) _
    refine XS.iloadN X.here hx rfl (hb hby d1_173) rfl ?_
    show Steps p.tables e below (T.setTop (mkF m 174 #[.val (.int p1)] [(.int p1)])) _
    refine X.ldcInt hx hown (mvT hZ (hw _ (List.mem_of_getElem? (i := 27) rfl))) (g := (mkF m 174 #[.val (.int p1)] [(.int p1)])) rfl (hb hby d1_174) _ ?_
    show Steps p.tables e below (T.setTop (mkF m 176 #[.val (.int p1)] [(.int (65533 : Int32)), (.int p1)])) _
    by_cases hc176 : (65533 : Int32) < p1
    · rw [if_pos hc176] at hv
      refine XS.icmpNo X.here hx rfl (hb hby d1_176) rfl (tlt hc176).2.2.2 ?_
      show Steps p.tables e below (T.setTop (mkF m 179 #[.val (.int p1)] [])) _
      exact own_b1_179 X hx hby hown hZ hw hret p1 v hv hr
    · rw [if_neg hc176] at hv
      refine XS.icmpYes X.here hx rfl (pc0 := 176) (pc' := 191) rfl (hb hby d1_176) rfl (flt hc176).2.2.2 (by decide) (by decide) ?_
      show Steps p.tables e below (T.setTop (mkF m 191 #[.val (.int p1)] [])) _
      exact own_b1_191 X hx hby hown hZ hw hret p1 v hv hr
def own_f1_155 (p1 : Int32) : Int32 := (if p1 < (63744 : Int32) then own_f1_167 p1 else (if (64975 : Int32) < p1 then own_f1_167 p1 else own_f1_191 p1))
set_option maxRecDepth 65536 in
set_option maxHeartbeats 4000000 in
theorem own_b1_155 {p : Program} {l : Launch} {e : Env} {R : Room} {s : State} {m : MethodId} {args : Array Value} {below : List Frame} {meth : Method} {c : Code} {T : State} {locs : List Loc} {cells slots : Nat} {Z : State} {a0 : Array Value} (X : Stand p l e R s m args below meth c T locs cells slots) (hx : p.tables.exec = Jvm.exec) (hby : c.code = prog_235_method_5_code) (hown : s.vm.findClass "com/example/querent/querent/xdm/XmlChars" = some m.cls) (hZ : Z.Warmed39 s.vm) (hw : ∀ d ∈ tables_1, d.before a0 Z = true) (hret : meth.sig.returnType = some .boolean) (p1 : Int32) (v : Int32) (hv : own_f1_155 p1 = v) {fs : List Frame} (hr : ∀ (f : JFrame) (acts : List Action), f.method = m → f.locked = none → f.entered = [] → (doReturn e (T.setTop f) acts (some (.int v))).1 = T.setFrames fs) :
    Steps p.tables e below (T.setTop (mkF m 155 #[.val (.int p1)] [])) (T.setFrames fs) := by
  unfold own_f1_155 at hv
  show Steps p.tables e below (T.setTop (mkF m 155 #[.val (.int p1)] [])) _
  refine XS.iloadN X.here hx rfl (hb hby d1_155) rfl ?_
  show Steps p.tables e below (T.setTop (mkF m 156 #[.val (.int p1)] [(.int p1)])) _
  refine X.ldcInt hx hown (mvT hZ (hw _ (List.mem_of_getElem? (i := 14) rfl))) (g := (mkF m 156 #[.val (.int p1)] [(.int p1)])) rfl (hb hby d1_156) _ ?_
  show Steps p.tables e below (T.setTop (mkF m 158 #[.val (.int p1)] [(.int (63744 : Int32)), (.int p1)])) _
  by_cases hc158 : p1 < (63744 : Int32)
  · rw [if_pos hc158] at hv
    refine XS.icmpYes X.here hx rfl (pc0 := 158) (pc' := 167) rfl (hb hby d1_158) rfl (tlt hc158).1 (by decide) (by decide) ?_
    show Steps p.tables e below (T.setTop (mkF m 167 #[.val (.int p1)] [])) _
    exact own_b1_167 X hx hby hown hZ hw hret p1 v hv hr
  · rw [if_neg hc158] at hv
    refine XS.icmpNo X.here hx rfl (hb hby d1_158) rfl (flt hc158).1 ?_
    show Steps p.tables e below (T.setTop (mkF m 161 #[.val (.int p1)] [])) _
    refine XS.iloadN X.here hx rfl (hb hby d1_161) rfl ?_
    show Steps p.tables e below (T.setTop (mkF m 162 #[.val (.int p1)] [(.int p1)])) _
    refine X.ldcInt hx hown (mvT hZ (hw _ (List.mem_of_getElem? (i := 26) rfl))) (g := (mkF m 162 #[.val (.int p1)] [(.int p1)])) rfl (hb hby d1_162) _ ?_
    show Steps p.tables e below (T.setTop (mkF m 164 #[.val (.int p1)] [(.int (64975 : Int32)), (.int p1)])) _
    by_cases hc164 : (64975 : Int32) < p1
    · rw [if_pos hc164] at hv
      refine XS.icmpNo X.here hx rfl (hb hby d1_164) rfl (tlt hc164).2.2.2 ?_
      show Steps p.tables e below (T.setTop (mkF m 167 #[.val (.int p1)] [])) _
      exact own_b1_167 X hx hby hown hZ hw hret p1 v hv hr
    · rw [if_neg hc164] at hv
      refine XS.icmpYes X.here hx rfl (pc0 := 164) (pc' := 191) rfl (hb hby d1_164) rfl (flt hc164).2.2.2 (by decide) (by decide) ?_
      show Steps p.tables e below (T.setTop (mkF m 191 #[.val (.int p1)] [])) _
      exact own_b1_191 X hx hby hown hZ hw hret p1 v hv hr
def own_f1_142 (p1 : Int32) : Int32 := (if p1 < (12289 : Int32) then own_f1_155 p1 else (if (55295 : Int32) < p1 then own_f1_155 p1 else own_f1_191 p1))
set_option maxRecDepth 65536 in
set_option maxHeartbeats 4000000 in
theorem own_b1_142 {p : Program} {l : Launch} {e : Env} {R : Room} {s : State} {m : MethodId} {args : Array Value} {below : List Frame} {meth : Method} {c : Code} {T : State} {locs : List Loc} {cells slots : Nat} {Z : State} {a0 : Array Value} (X : Stand p l e R s m args below meth c T locs cells slots) (hx : p.tables.exec = Jvm.exec) (hby : c.code = prog_235_method_5_code) (hown : s.vm.findClass "com/example/querent/querent/xdm/XmlChars" = some m.cls) (hZ : Z.Warmed39 s.vm) (hw : ∀ d ∈ tables_1, d.before a0 Z = true) (hret : meth.sig.returnType = some .boolean) (p1 : Int32) (v : Int32) (hv : own_f1_142 p1 = v) {fs : List Frame} (hr : ∀ (f : JFrame) (acts : List Action), f.method = m → f.locked = none → f.entered = [] → (doReturn e (T.setTop f) acts (some (.int v))).1 = T.setFrames fs) :
    Steps p.tables e below (T.setTop (mkF m 142 #[.val (.int p1)] [])) (T.setFrames fs) := by
  unfold own_f1_142 at hv
  show Steps p.tables e below (T.setTop (mkF m 142 #[.val (.int p1)] [])) _
  refine XS.iloadN X.here hx rfl (hb hby d1_142) rfl ?_
  show Steps p.tables e below (T.setTop (mkF m 143 #[.val (.int p1)] [(.int p1)])) _
  refine XS.sipush X.here hx rfl (hb hby d1_143) ?_
  show Steps p.tables e below (T.setTop (mkF m 146 #[.val (.int p1)] [(.int (12289 : Int32)), (.int p1)])) _
  by_cases hc146 : p1 < (12289 : Int32)
  · rw [if_pos hc146] at hv
    refine XS.icmpYes X.here hx rfl (pc0 := 146) (pc' := 155) rfl (hb hby d1_146) rfl (tlt hc146).1 (by decide) (by decide) ?_
    show Steps p.tables e below (T.setTop (mkF m 155 #[.val (.int p1)] [])) _
    exact own_b1_155 X hx hby hown hZ hw hret p1 v hv hr
  · rw [if_neg hc146] at hv
    refine XS.icmpNo X.here hx rfl (hb hby d1_146) rfl (flt hc146).1 ?_
    show Steps p.tables e below (T.setTop (mkF m 149 #[.val (.int p1)] [])) _
    refine XS.iloadN X.here hx rfl (hb hby d1_149) rfl ?_
    show Steps p.tables e below (T.setTop (mkF m 150 #[.val (.int p1)] [(.int p1)])) _
    refine X.ldcInt hx hown (mvT hZ (hw _ (List.mem_of_getElem? (i := 25) rfl))) (g := (mkF m 150 #[.val (.int p1)] [(.int p1)])) rfl (hb hby d1_150) _ ?_
    show Steps p.tables e below (T.setTop (mkF m 152 #[.val (.int p1)] [(.int (55295 : Int32)), (.int p1)])) _
    by_cases hc152 : (55295 : Int32) < p1
    · rw [if_pos hc152] at hv
      refine XS.icmpNo X.here hx rfl (hb hby d1_152) rfl (tlt hc152).2.2.2 ?_
      show Steps p.tables e below (T.setTop (mkF m 155 #[.val (.int p1)] [])) _
      exact own_b1_155 X hx hby hown hZ hw hret p1 v hv hr
    · rw [if_neg hc152] at hv
      refine XS.icmpYes X.here hx rfl (pc0 := 152) (pc' := 191) rfl (hb hby d1_152) rfl (flt hc152).2.2.2 (by decide) (by decide) ?_
      show Steps p.tables e below (T.setTop (mkF m 191 #[.val (.int p1)] [])) _
      exact own_b1_191 X hx hby hown hZ hw hret p1 v hv hr
def own_f1_128 (p1 : Int32) : Int32 := (if p1 < (11264 : Int32) then own_f1_142 p1 else (if (12271 : Int32) < p1 then own_f1_142 p1 else own_f1_191 p1))
set_option maxRecDepth 65536 in
set_option maxHeartbeats 4000000 in
theorem own_b1_128 {p : Program} {l : Launch} {e : Env} {R : Room} {s : State} {m : MethodId} {args : Array Value} {below : List Frame} {meth : Method} {c : Code} {T : State} {locs : List Loc} {cells slots : Nat} {Z : State} {a0 : Array Value} (X : Stand p l e R s m args below meth c T locs cells slots) (hx : p.tables.exec = Jvm.exec) (hby : c.code = prog_235_method_5_code) (hown : s.vm.findClass "com/example/querent/querent/xdm/XmlChars" = some m.cls) (hZ : Z.Warmed39 s.vm) (hw : ∀ d ∈ tables_1, d.before a0 Z = true) (hret : meth.sig.returnType = some .boolean) (p1 : Int32) (v : Int32) (hv : own_f1_128 p1 = v) {fs : List Frame} (hr : ∀ (f : JFrame) (acts : List Action), f.method = m → f.locked = none → f.entered = [] → (doReturn e (T.setTop f) acts (some (.int v))).1 = T.setFrames fs) :
    Steps p.tables e below (T.setTop (mkF m 128 #[.val (.int p1)] [])) (T.setFrames fs) := by
  unfold own_f1_128 at hv
  show Steps p.tables e below (T.setTop (mkF m 128 #[.val (.int p1)] [])) _
  refine XS.iloadN X.here hx rfl (hb hby d1_128) rfl ?_
  show Steps p.tables e below (T.setTop (mkF m 129 #[.val (.int p1)] [(.int p1)])) _
  refine XS.sipush X.here hx rfl (hb hby d1_129) ?_
  show Steps p.tables e below (T.setTop (mkF m 132 #[.val (.int p1)] [(.int (11264 : Int32)), (.int p1)])) _
  by_cases hc132 : p1 < (11264 : Int32)
  · rw [if_pos hc132] at hv
    refine XS.icmpYes X.here hx rfl (pc0 := 132) (pc' := 142) rfl (hb hby d1_132) rfl (tlt hc132).1 (by decide) (by decide) ?_
    show Steps p.tables e below (T.setTop (mkF m 142 #[.val (.int p1)] [])) _
    exact own_b1_142 X hx hby hown hZ hw hret p1 v hv hr
  · rw [if_neg hc132] at hv
    refine XS.icmpNo X.here hx rfl (hb hby d1_132) rfl (flt hc132).1 ?_
    show Steps p.tables e below (T.setTop (mkF m 135 #[.val (.int p1)] [])) _
    refine XS.iloadN X.here hx rfl (hb hby d1_135) rfl ?_
    show Steps p.tables e below (T.setTop (mkF m 136 #[.val (.int p1)] [(.int p1)])) _
    refine XS.sipush X.here hx rfl (hb hby d1_136) ?_
    show Steps p.tables e below (T.setTop (mkF m 139 #[.val (.int p1)] [(.int (12271 : Int32)), (.int p1)])) _
    by_cases hc139 : (12271 : Int32) < p1
    · rw [if_pos hc139] at hv
      refine XS.icmpNo X.here hx rfl (hb hby d1_139) rfl (tlt hc139).2.2.2 ?_
      show Steps p.tables e below (T.setTop (mkF m 142 #[.val (.int p1)] [])) _
      exact own_b1_142 X hx hby hown hZ hw hret p1 v hv hr
    · rw [if_neg hc139] at hv
      refine XS.icmpYes X.here hx rfl (pc0 := 139) (pc' := 191) rfl (hb hby d1_139) rfl (flt hc139).2.2.2 (by decide) (by decide) ?_
      show Steps p.tables e below (T.setTop (mkF m 191 #[.val (.int p1)] [])) _
      exact own_b1_191 X hx hby hown hZ hw hret p1 v hv hr
def own_f1_114 (p1 : Int32) : Int32 := (if p1 < (8304 : Int32) then own_f1_128 p1 else (if (8591 : Int32) < p1 then own_f1_128 p1 else own_f1_191 p1))
set_option maxRecDepth 65536 in
set_option maxHeartbeats 4000000 in
theorem own_b1_114 {p : Program} {l : Launch} {e : Env} {R : Room} {s : State} {m : MethodId} {args : Array Value} {below : List Frame} {meth : Method} {c : Code} {T : State} {locs : List Loc} {cells slots : Nat} {Z : State} {a0 : Array Value} (X : Stand p l e R s m args below meth c T locs cells slots) (hx : p.tables.exec = Jvm.exec) (hby : c.code = prog_235_method_5_code) (hown : s.vm.findClass "com/example/querent/querent/xdm/XmlChars" = some m.cls) (hZ : Z.Warmed39 s.vm) (hw : ∀ d ∈ tables_1, d.before a0 Z = true) (hret : meth.sig.returnType = some .boolean) (p1 : Int32) (v : Int32) (hv : own_f1_114 p1 = v) {fs : List Frame} (hr : ∀ (f : JFrame) (acts : List Action), f.method = m → f.locked = none → f.entered = [] → (doReturn e (T.setTop f) acts (some (.int v))).1 = T.setFrames fs) :
    Steps p.tables e below (T.setTop (mkF m 114 #[.val (.int p1)] [])) (T.setFrames fs) := by
  unfold own_f1_114 at hv
  show Steps p.tables e below (T.setTop (mkF m 114 #[.val (.int p1)] [])) _
  refine XS.iloadN X.here hx rfl (hb hby d1_114) rfl ?_
  show Steps p.tables e below (T.setTop (mkF m 115 #[.val (.int p1)] [(.int p1)])) _
  refine XS.sipush X.here hx rfl (hb hby d1_115) ?_
  show Steps p.tables e below (T.setTop (mkF m 118 #[.val (.int p1)] [(.int (8304 : Int32)), (.int p1)])) _
  by_cases hc118 : p1 < (8304 : Int32)
  · rw [if_pos hc118] at hv
    refine XS.icmpYes X.here hx rfl (pc0 := 118) (pc' := 128) rfl (hb hby d1_118) rfl (tlt hc118).1 (by decide) (by decide) ?_
    show Steps p.tables e below (T.setTop (mkF m 128 #[.val (.int p1)] [])) _
    exact own_b1_128 X hx hby hown hZ hw hret p1 v hv hr
  · rw [if_neg hc118] at hv
    refine XS.icmpNo X.here hx rfl (hb hby d1_118) rfl (flt hc118).1 ?_
    show Steps p.tables e below (T.setTop (mkF m 121 #[.val (.int p1)] [])) _
    refine XS.iloadN X.here hx rfl (hb hby d1_121) rfl ?_
    show Steps p.tables e below (T.setTop (mkF m 122 #[.val (.int p1)] [(.int p1)])) _
    refine XS.sipush X.here hx rfl (hb hby d1_122) ?_
    show Steps p.tables e below (T.setTop (mkF m 125 #[.val (.int p1)] [(.int (8591 : Int32)), (.int p1)])) _
    by_cases hc125 : (8591 : Int32) < p1
    · rw [if_pos hc125] at hv
      refine XS.icmpNo X.here hx rfl (hb hby d1_125) rfl (tlt hc125).2.2.2 ?_
      show Steps p.tables e below (T.setTop (mkF m 128 #[.val (.int p1)] [])) _
      exact own_b1_128 X hx hby hown hZ hw hret p1 v hv hr
    · rw [if_neg hc125] at hv
      refine XS.icmpYes X.here hx rfl (pc0 := 125) (pc' := 191) rfl (hb hby d1_125) rfl (flt hc125).2.2.2 (by decide) (by decide) ?_
      show Steps p.tables e below (T.setTop (mkF m 191 #[.val (.int p1)] [])) _
      exact own_b1_191 X hx hby hown hZ hw hret p1 v hv hr
def own_f1_100 (p1 : Int32) : Int32 := (if p1 < (8204 : Int32) then own_f1_114 p1 else (if (8205 : Int32) < p1 then own_f1_114 p1 else own_f1_191 p1))
set_option maxRecDepth 65536 in
set_option maxHeartbeats 4000000 in
theorem own_b1_100 {p : Program} {l : Launch} {e : Env} {R : Room} {s : State} {m : MethodId} {args : Array Value} {below : List Frame} {meth : Method} {c : Code} {T : State} {locs : List Loc} {cells slots : Nat} {Z : State} {a0 : Array Value} (X : Stand p l e R s m args below meth c T locs cells slots) (hx : p.tables.exec = Jvm.exec) (hby : c.code = prog_235_method_5_code) (hown : s.vm.findClass "com/example/querent/querent/xdm/XmlChars" = some m.cls) (hZ : Z.Warmed39 s.vm) (hw : ∀ d ∈ tables_1, d.before a0 Z = true) (hret : meth.sig.returnType = some .boolean) (p1 : Int32) (v : Int32) (hv : own_f1_100 p1 = v) {fs : List Frame} (hr : ∀ (f : JFrame) (acts : List Action), f.method = m → f.locked = none → f.entered = [] → (doReturn e (T.setTop f) acts (some (.int v))).1 = T.setFrames fs) :
    Steps p.tables e below (T.setTop (mkF m 100 #[.val (.int p1)] [])) (T.setFrames fs) := by
  unfold own_f1_100 at hv
  show Steps p.tables e below (T.setTop (mkF m 100 #[.val (.int p1)] [])) _
  refine XS.iloadN X.here hx rfl (hb hby d1_100) rfl ?_
  show Steps p.tables e below (T.setTop (mkF m 101 #[.val (.int p1)] [(.int p1)])) _
  refine XS.sipush X.here hx rfl (hb hby d1_101) ?_
  show Steps p.tables e below (T.setTop (mkF m 104 #[.val (.int p1)] [(.int (8204 : Int32)), (.int p1)])) _
  by_cases hc104 : p1 < (8204 : Int32)
  · rw [if_pos hc104] at hv
    refine XS.icmpYes X.here hx rfl (pc0 := 104) (pc' := 114) rfl (hb hby d1_104) rfl (tlt hc104).1 (by decide) (by decide) ?_
    show Steps p.tables e below (T.setTop (mkF m 114 #[.val (.int p1)] [])) _
    exact own_b1_114 X hx hby hown hZ hw hret p1 v hv hr
  · rw [if_neg hc104] at hv
    refine XS.icmpNo X.here hx rfl (hb hby d1_104) rfl (flt hc104).1 ?_
    show Steps p.tables e below (T.setTop (mkF m 107 #[.val (.int p1)] [])) _
    refine XS.iloadN X.here hx rfl (hb hby d1_107) rfl ?_
    show Steps p.tables e below (T.setTop (mkF m 108 #[.val (.int p1)] [(.int p1)])) _
    refine XS.sipush X.here hx rfl (hb hby d1_108) ?_
    show Steps p.tables e below (T.setTop (mkF m 111 #[.val (.int p1)] [(.int (8205 : Int32)), (.int p1)])) _
    by_cases hc111 : (8205 : Int32) < p1
    · rw [if_pos hc111] at hv
      refine XS.icmpNo X.here hx rfl (hb hby d1_111) rfl (tlt hc111).2.2.2 ?_
      show Steps p.tables e below (T.setTop (mkF m 114 #[.val (.int p1)] [])) _
      exact own_b1_114 X hx hby hown hZ hw hret p1 v hv hr
    · rw [if_neg hc111] at hv
      refine XS.icmpYes X.here hx rfl (pc0 := 111) (pc' := 191) rfl (hb hby d1_111) rfl (flt hc111).2.2.2 (by decide) (by decide) ?_
      show Steps p.tables e below (T.setTop (mkF m 191 #[.val (.int p1)] [])) _
      exact own_b1_191 X hx hby hown hZ hw hret p1 v hv hr
def own_f1_86 (p1 : Int32) : Int32 := (if p1 < (895 : Int32) then own_f1_100 p1 else (if (8191 : Int32) < p1 then own_f1_100 p1 else own_f1_191 p1))
set_option maxRecDepth 65536 in
set_option maxHeartbeats 4000000 in
theorem own_b1_86 {p : Program} {l : Launch} {e : Env} {R : Room} {s : State} {m : MethodId} {args : Array Value} {below : List Frame} {meth : Method} {c : Code} {T : State} {locs : List Loc} {cells slots : Nat} {Z : State} {a0 : Array Value} (X : Stand p l e R s m args below meth c T locs cells slots) (hx : p.tables.exec = Jvm.exec) (hby : c.code = prog_235_method_5_code) (hown : s.vm.findClass "com/example/querent/querent/xdm/XmlChars" = some m.cls) (hZ : Z.Warmed39 s.vm) (hw : ∀ d ∈ tables_1, d.before a0 Z = true) (hret : meth.sig.returnType = some .boolean) (p1 : Int32) (v : Int32) (hv : own_f1_86 p1 = v) {fs : List Frame} (hr : ∀ (f : JFrame) (acts : List Action), f.method = m → f.locked = none → f.entered = [] → (doReturn e (T.setTop f) acts (some (.int v))).1 = T.setFrames fs) :
    Steps p.tables e below (T.setTop (mkF m 86 #[.val (.int p1)] [])) (T.setFrames fs) := by
  unfold own_f1_86 at hv
  show Steps p.tables e below (T.setTop (mkF m 86 #[.val (.int p1)] [])) _
  refine XS.iloadN X.here hx rfl (hb hby d1_86) rfl ?_
  show Steps p.tables e below (T.setTop (mkF m 87 #[.val (.int p1)] [(.int p1)])) _
  refine XS.sipush X.here hx rfl (hb hby d1_87) ?_
  show Steps p.tables e below (T.setTop (mkF m 90 #[.val (.int p1)] [(.int (895 : Int32)), (.int p1)])) _
  by_cases hc90 : p1 < (895 : Int32)
  · rw [if_pos hc90] at hv
    refine XS.icmpYes X.here hx rfl (pc0 := 90) (pc' := 100) rfl (hb hby d1_90) rfl (tlt hc90).1 (by decide) (by decide) ?_
    show Steps p.tables e below (T.setTop (mkF m 100 #[.val (.int p1)] [])) _
    exact own_b1_100 X hx hby hown hZ hw hret p1 v hv hr
  · rw [if_neg hc90] at hv
    refine XS.icmpNo X.here hx rfl (hb hby d1_90) rfl (flt hc90).1 ?_
    show Steps p.tables e below (T.setTop (mkF m 93 #[.val (.int p1)] [])) _
    refine XS.iloadN X.here hx rfl (hb hby d1_93) rfl ?_
    show Steps p.tables e below (T.setTop (mkF m 94 #[.val (.int p1)] [(.int p1)])) _
    refine XS.sipush X.here hx rfl (hb hby d1_94) ?_
    show Steps p.tables e below (T.setTop (mkF m 97 #[.val (.int p1)] [(.int (8191 : Int32)), (.int p1)])) _
    by_cases hc97 : (8191 : Int32) < p1
    · rw [if_pos hc97] at hv
      refine XS.icmpNo X.here hx rfl (hb hby d1_97) rfl (tlt hc97).2.2.2 ?_
      show Steps p.tables e below (T.setTop (mkF m 100 #[.val (.int p1)] [])) _
      exact own_b1_100 X hx hby hown hZ hw hret p1 v hv hr
    · rw [if_neg hc97] at hv
      refine XS.icmpYes X.here hx rfl (pc0 := 97) (pc' := 191) rfl (hb hby d1_97) rfl (flt hc97).2.2.2 (by decide) (by decide) ?_
      show Steps p.tables e below (T.setTop (mkF m 191 #[.val (.int p1)] [])) _
      exact own_b1_191 X hx hby hown hZ hw hret p1 v hv hr
def own_f1_72 (p1 : Int32) : Int32 := (if p1 < (880 : Int32) then own_f1_86 p1 else (if (893 : Int32) < p1 then own_f1_86 p1 else own_f1_191 p1))
set_option maxRecDepth 65536 in
set_option maxHeartbeats 4000000 in
theorem own_b1_72 {p : Program} {l : Launch} {e : Env} {R : Room} {s : State} {m : MethodId} {args : Array Value} {below : List Frame} {meth : Method} {c : Code} {T : State} {locs : List Loc} {cells slots : Nat} {Z : State} {a0 : Array Value} (X : Stand p l e R s m args below meth c T locs cells slots) (hx : p.tables.exec = Jvm.exec) (hby : c.code = prog_235_method_5_code) (hown : s.vm.findClass "com/example/querent/querent/xdm/XmlChars" = some m.cls) (hZ : Z.Warmed39 s.vm) (hw : ∀ d ∈ tables_1, d.before a0 Z = true) (hret : meth.sig.returnType = some .boolean) (p1 : Int32) (v : Int32) (hv : own_f1_72 p1 = v) {fs : List Frame} (hr : ∀ (f : JFrame) (acts : List Action), f.method = m → f.locked = none → f.entered = [] → (doReturn e (T.setTop f) acts (some (.int v))).1 = T.setFrames fs) :
    Steps p.tables e below (T.setTop (mkF m 72 #[.val (.int p1)] [])) (T.setFrames fs) := by
  unfold own_f1_72 at hv
  show Steps p.tables e below (T.setTop (mkF m 72 #[.val (.int p1)] [])) _
  refine XS.iloadN X.here hx rfl (hb hby d1_72) rfl ?_
  show Steps p.tables e below (T.setTop (mkF m 73 #[.val (.int p1)] [(.int p1)])) _
  refine XS.sipush X.here hx rfl (hb hby d1_73) ?_
  show Steps p.tables e below (T.setTop (mkF m 76 #[.val (.int p1)] [(.int (880 : Int32)), (.int p1)])) _
  by_cases hc76 : p1 < (880 : Int32)
  · rw [if_pos hc76] at hv
    refine XS.icmpYes X.here hx rfl (pc0 := 76) (pc' := 86) rfl (hb hby d1_76) rfl (tlt hc76).1 (by decide) (by decide) ?_
    show Steps p.tables e below (T.setTop (mkF m 86 #[.val (.int p1)] [])) _
    exact own_b1_86 X hx hby hown hZ hw hret p1 v hv hr
  · rw [if_neg hc76] at hv
    refine XS.icmpNo X.here hx rfl (hb hby d1_76) rfl (flt hc76).1 ?_
    show Steps p.tables e below (T.setTop (mkF m 79 #[.val (.int p1)] [])) _
    refine XS.iloadN X.here hx rfl (hb hby d1_79) rfl ?_
    show Steps p.tables e below (T.setTop (mkF m 80 #[.val (.int p1)] [(.int p1)])) _
    refine XS.sipush X.here hx rfl (hb hby d1_80) ?_
    show Steps p.tables e below (T.setTop (mkF m 83 #[.val (.int p1)] [(.int (893 : Int32)), (.int p1)])) _
    by_cases hc83 : (893 : Int32) < p1
    · rw [if_pos hc83] at hv
      refine XS.icmpNo X.here hx rfl (hb hby d1_83) rfl (tlt hc83).2.2.2 ?_
      show Steps p.tables e below (T.setTop (mkF m 86 #[.val (.int p1)] [])) _
      exact own_b1_86 X hx hby hown hZ hw hret p1 v hv hr
    · rw [if_neg hc83] at hv
      refine XS.icmpYes X.here hx rfl (pc0 := 83) (pc' := 191) rfl (hb hby d1_83) rfl (flt hc83).2.2.2 (by decide) (by decide) ?_
      show Steps p.tables e below (T.setTop (mkF m 191 #[.val (.int p1)] [])) _
      exact own_b1_191 X hx hby hown hZ hw hret p1 v hv hr
def own_f1_58 (p1 : Int32) : Int32 := (if p1 < (248 : Int32) then own_f1_72 p1 else (if (767 : Int32) < p1 then own_f1_72 p1 else own_f1_191 p1))
set_option maxRecDepth 65536 in
set_option maxHeartbeats 4000000 in
theorem own_b1_58 {p : Program} {l : Launch} {e : Env} {R : Room} {s : State} {m : MethodId} {args : Array Value} {below : List Frame} {meth : Method} {c : Code} {T : State} {locs : List Loc} {cells slots : Nat} {Z : State} {a0 : Array Value} (X : Stand p l e R s m args below meth c T locs cells slots) (hx : p.tables.exec = Jvm.exec) (hby : c.code = prog_235_method_5_code) (hown : s.vm.findClass "com/example/querent/querent/xdm/XmlChars" = some m.cls) (hZ : Z.Warmed39 s.vm) (hw : ∀ d ∈ tables_1, d.before a0 Z = true) (hret : meth.sig.returnType = some .boolean) (p1 : Int32) (v : Int32) (hv : own_f1_58 p1 = v) {fs : List Frame} (hr : ∀ (f : JFrame) (acts : List Action), f.method = m → f.locked = none → f.entered = [] → (doReturn e (T.setTop f) acts (some (.int v))).1 = T.setFrames fs) :
    Steps p.tables e below (T.setTop (mkF m 58 #[.val (.int p1)] [])) (T.setFrames fs) := by
  unfold own_f1_58 at hv
  show Steps p.tables e below (T.setTop (mkF m 58 #[.val (.int p1)] [])) _
  refine XS.iloadN X.here hx rfl (hb hby d1_58) rfl ?_
  show Steps p.tables e below (T.setTop (mkF m 59 #[.val (.int p1)] [(.int p1)])) _
  refine XS.sipush X.here hx rfl (hb hby d1_59) ?_
  show Steps p.tables e below (T.setTop (mkF m 62 #[.val (.int p1)] [(.int (248 : Int32)), (.int p1)])) _
  by_cases hc62 : p1 < (248 : Int32)
  · rw [if_pos hc62] at hv
    refine XS.icmpYes X.here hx rfl (pc0 := 62) (pc' := 72) rfl (hb hby d1_62) rfl (tlt hc62).1 (by decide) (by decide) ?_
    show Steps p.tables e below (T.setTop (mkF m 72 #[.val (.int p1)] [])) _
    exact own_b1_72 X hx hby hown hZ hw hret p1 v hv hr
  · rw [if_neg hc62] at hv
    refine XS.icmpNo X.here hx rfl (hb hby d1_62) rfl (flt hc62).1 ?_
    show Steps p.tables e below (T.setTop (mkF m 65 #[.val (.int p1)] [])) _
    refine XS.iloadN X.here hx rfl (hb hby d1_65) rfl ?_
    show Steps p.tables e below (T.setTop (mkF m 66 #[.val (.int p1)] [(.int p1)])) _
    refine XS.sipush X.here hx rfl (hb hby d1_66) ?_
    show Steps p.tables e below (T.setTop (mkF m 69 #[.val (.int p1)] [(.int (767 : Int32)), (.int p1)])) _
    by_cases hc69 : (767 : Int32) < p1
    · rw [if_pos hc69] at hv
      refine XS.icmpNo X.here hx rfl (hb hby d1_69) rfl (tlt hc69).2.2.2 ?_
      show Steps p.tables e below (T.setTop (mkF m 72 #[.val (.int p1)] [])) _
      exact own_b1_72 X hx hby hown hZ hw hret p1 v hv hr
    · rw [if_neg hc69] at hv
      refine XS.icmpYes X.here hx rfl (pc0 := 69) (pc' := 191) rfl (hb hby d1_69) rfl (flt hc69).2.2.2 (by decide) (by decide) ?_
      show Steps p.tables e below (T.setTop (mkF m 191 #[.val (.int p1)] [])) _
      exact own_b1_191 X hx hby hown hZ hw hret p1 v hv hr
def own_f1_44 (p1 : Int32) : Int32 := (if p1 < (216 : Int32) then own_f1_58 p1 else (if (246 : Int32) < p1 then own_f1_58 p1 else own_f1_191 p1))
set_option maxRecDepth 65536 in
set_option maxHeartbeats 4000000 in
theorem own_b1_44 {p : Program} {l : Launch} {e : Env} {R : Room} {s : State} {m : MethodId} {args : Array Value} {below : List Frame} {meth : Method} {c : Code} {T : State} {locs : List Loc} {cells slots : Nat} {Z : State} {a0 : Array Value} (X : Stand p l e R s m args below meth c T locs cells slots) (hx : p.tables.exec = Jvm.exec) (hby : c.code = prog_235_method_5_code) (hown : s.vm.findClass "com/example/querent/querent/xdm/XmlChars" = some m.cls) (hZ : Z.Warmed39 s.vm) (hw : ∀ d ∈ tables_1, d.before a0 Z = true) (hret : meth.sig.returnType = some .boolean) (p1 : Int32) (v : Int32) (hv : own_f1_44 p1 = v) {fs : List Frame} (hr : ∀ (f : JFrame) (acts : List Action), f.method = m → f.locked = none → f.entered = [] → (doReturn e (T.setTop f) acts (some (.int v))).1 = T.setFrames fs) :
    Steps p.tables e below (T.setTop (mkF m 44 #[.val (.int p1)] [])) (T.setFrames fs) := by
  unfold own_f1_44 at hv
  show Steps p.tables e below (T.setTop (mkF m 44 #[.val (.int p1)] [])) _
  refine XS.iloadN X.here hx rfl (hb hby d1_44) rfl ?_
  show Steps p.tables e below (T.setTop (mkF m 45 #[.val (.int p1)] [(.int p1)])) _
  refine XS.sipush X.here hx rfl (hb hby d1_45) ?_
  show Steps p.tables e below (T.setTop (mkF m 48 #[.val (.int p1)] [(.int (216 : Int32)), (.int p1)])) _
  by_cases hc48 : p1 < (216 : Int32)
  · rw [if_pos hc48] at hv
    refine XS.icmpYes X.here hx rfl (pc0 := 48) (pc' := 58) rfl (hb hby d1_48) rfl (tlt hc48).1 (by decide) (by decide) ?_
    show Steps p.tables e below (T.setTop (mkF m 58 #[.val (.int p1)] [])) _
    exact own_b1_58 X hx hby hown hZ hw hret p1 v hv hr
  · rw [if_neg hc48] at hv
    refine XS.icmpNo X.here hx rfl (hb hby d1_48) rfl (flt hc48).1 ?_
    show Steps p.tables e below (T.setTop (mkF m 51 #[.val (.int p1)] [])) _
    refine XS.iloadN X.here hx rfl (hb hby d1_51) rfl ?_
    show Steps p.tables e below (T.setTop (mkF m 52 #[.val (.int p1)] [(.int p1)])) _
    refine XS.sipush X.here hx rfl (hb hby d1_52) ?_
    show Steps p.tables e below (T.setTop (mkF m 55 #[.val (.int p1)] [(.int (246 : Int32)), (.int p1)])) _
    by_cases hc55 : (246 : Int32) < p1
    · rw [if_pos hc55] at hv
      refine XS.icmpNo X.here hx rfl (hb hby d1_55) rfl (tlt hc55).2.2.2 ?_
      show Steps p.tables e below (T.setTop (mkF m 58 #[.val (.int p1)] [])) _
      exact own_b1_58 X hx hby hown hZ hw hret p1 v hv hr
    · rw [if_neg hc55] at hv
      refine XS.icmpYes X.here hx rfl (pc0 := 55) (pc' := 191) rfl (hb hby d1_55) rfl (flt hc55).2.2.2 (by decide) (by decide) ?_
      show Steps p.tables e below (T.setTop (mkF m 191 #[.val (.int p1)] [])) _
      exact own_b1_191 X hx hby hown hZ hw hret p1 v hv hr
def own_f1_30 (p1 : Int32) : Int32 := (if p1 < (192 : Int32) then own_f1_44 p1 else (if (214 : Int32) < p1 then own_f1_44 p1 else own_f1_191 p1))
set_option maxRecDepth 65536 in
set_option maxHeartbeats 4000000 in
theorem own_b1_30 {p : Program} {l : Launch} {e : Env} {R : Room} {s : State} {m : MethodId} {args : Array Value} {below : List Frame} {meth : Method} {c : Code} {T : State} {locs : List Loc} {cells slots : Nat} {Z : State} {a0 : Array Value} (X : Stand p l e R s m args below meth c T locs cells slots) (hx : p.tables.exec = Jvm.exec) (hby : c.code = prog_235_method_5_code) (hown : s.vm.findClass "com/example/querent/querent/xdm/XmlChars" = some m.cls) (hZ : Z.Warmed39 s.vm) (hw : ∀ d ∈ tables_1, d.before a0 Z = true) (hret : meth.sig.returnType = some .boolean) (p1 : Int32) (v : Int32) (hv : own_f1_30 p1 = v) {fs : List Frame} (hr : ∀ (f : JFrame) (acts : List Action), f.method = m → f.locked = none → f.entered = [] → (doReturn e (T.setTop f) acts (some (.int v))).1 = T.setFrames fs) :
    Steps p.tables e below (T.setTop (mkF m 30 #[.val (.int p1)] [])) (T.setFrames fs) := by
  unfold own_f1_30 at hv
  show Steps p.tables e below (T.setTop (mkF m 30 #[.val (.int p1)] [])) _
  refine XS.iloadN X.here hx rfl (hb hby d1_30) rfl ?_
  show Steps p.tables e below (T.setTop (mkF m 31 #[.val (.int p1)] [(.int p1)])) _
  refine XS.sipush X.here hx rfl (hb hby d1_31) ?_
  show Steps p.tables e below (T.setTop (mkF m 34 #[.val (.int p1)] [(.int (192 : Int32)), (.int p1)])) _
  by_cases hc34 : p1 < (192 : Int32)
  · rw [if_pos hc34] at hv
    refine XS.icmpYes X.here hx rfl (pc0 := 34) (pc' := 44) rfl (hb hby d1_34) rfl (tlt hc34).1 (by decide) (by decide) ?_
    show Steps p.tables e below (T.setTop (mkF m 44 #[.val (.int p1)] [])) _
    exact own_b1_44 X hx hby hown hZ hw hret p1 v hv hr
  · rw [if_neg hc34] at hv
    refine XS.icmpNo X.here hx rfl (hb hby d1_34) rfl (flt hc34).1 ?_
    show Steps p.tables e below (T.setTop (mkF m 37 #[.val (.int p1)] [])) _
    refine XS.iloadN X.here hx rfl (hb hby d1_37) rfl ?_
    show Steps p.tables e below (T.setTop (mkF m 38 #[.val (.int p1)] [(.int p1)])) _
    refine XS.sipush X.here hx rfl (hb hby d1_38) ?_
    show Steps p.tables e below (T.setTop (mkF m 41 #[.val (.int p1)] [(.int (214 : Int32)), (.int p1)])) _
    by_cases hc41 : (214 : Int32) < p1
    · rw [if_pos hc41] at hv
      refine XS.icmpNo X.here hx rfl (hb hby d1_41) rfl (tlt hc41).2.2.2 ?_
      show Steps p.tables e below (T.setTop (mkF m 44 #[.val (.int p1)] [])) _
      exact own_b1_44 X hx hby hown hZ hw hret p1 v hv hr
    · rw [if_neg hc41] at hv
      refine XS.icmpYes X.here hx rfl (pc0 := 41) (pc' := 191) rfl (hb hby d1_41) rfl (flt hc41).2.2.2 (by decide) (by decide) ?_
      show Steps p.tables e below (T.setTop (mkF m 191 #[.val (.int p1)] [])) _
      exact own_b1_191 X hx hby hown hZ hw hret p1 v hv hr
def own_f1_12 (p1 : Int32) : Int32 := (if p1 = (95 : Int32) then own_f1_191 p1 else (if p1 < (97 : Int32) then own_f1_30 p1 else (if (122 : Int32) < p1 then own_f1_30 p1 else own_f1_191 p1)))
set_option maxRecDepth 65536 in
set_option maxHeartbeats 4000000 in
theorem own_b1_12 {p : Program} {l : Launch} {e : Env} {R : Room} {s : State} {m : MethodId} {args : Array Value} {below : List Frame} {meth : Method} {c : Code} {T : State} {locs : List Loc} {cells slots : Nat} {Z : State} {a0 : Array Value} (X : Stand p l e R s m args below meth c T locs cells slots) (hx : p.tables.exec = Jvm.exec) (hby : c.code = prog_235_method_5_code) (hown : s.vm.findClass "com/example/querent/querent/xdm/XmlChars" = some m.cls) (hZ : Z.Warmed39 s.vm) (hw : ∀ d ∈ tables_1, d.before a0 Z = true) (hret : meth.sig.returnType = some .boolean) (p1 : Int32) (v : Int32) (hv : own_f1_12 p1 = v) {fs : List Frame} (hr : ∀ (f : JFrame) (acts : List Action), f.method = m → f.locked = none → f.entered = [] → (doReturn e (T.setTop f) acts (some (.int v))).1 = T.setFrames fs) :
    Steps p.tables e below (T.setTop (mkF m 12 #[.val (.int p1)] [])) (T.setFrames fs) := by
  unfold own_f1_12 at hv
  show Steps p.tables e below (T.setTop (mkF m 12 #[.val (.int p1)] [])) _
  refine XS.iloadN X.here hx rfl (hb hby d1_12) rfl ?_
  show Steps p.tables e below (T.setTop (mkF m 13 #[.val (.int p1)] [(.int p1)])) _
  refine XS.bipush X.here hx rfl (hb hby d1_13) ?_
  show Steps p.tables e below (T.setTop (mkF m 15 #[.val (.int p1)] [(.int (95 : Int32)), (.int p1)])) _
  by_cases hc15 : p1 = (95 : Int32)
  · rw [if_pos hc15] at hv
    refine XS.icmpYes X.here hx rfl (pc0 := 15) (pc' := 191) rfl (hb hby d1_15) rfl (teq hc15).1 (by decide) (by decide) ?_
    show Steps p.tables e below (T.setTop (mkF m 191 #[.val (.int p1)] [])) _
    exact own_b1_191 X hx hby hown hZ hw hret p1 v hv hr
  · rw [if_neg hc15] at hv
    refine XS.icmpNo X.here hx rfl (hb hby d1_15) rfl (feq hc15).1 ?_
    show Steps p.tables e below (T.setTop (mkF m 18 #[.val (.int p1)] [])) _
    refine XS.iloadN X.here hx rfl (hb hby d1_18) rfl ?_
    show Steps p.tables e below (T.setTop (mkF m 19 #[.val (.int p1)] [(.int p1)])) _
    refine XS.bipush X.here hx rfl (hb hby d1_19) ?_
    show Steps p.tables e below (T.setTop (mkF m 21 #[.val (.int p1)] [(.int (97 : Int32)), (.int p1)])) _
    by_cases hc21 : p1 < (97 : Int32)
    · rw [if_pos hc21] at hv
      refine XS.icmpYes X.here hx rfl (pc0 := 21) (pc' := 30) rfl (hb hby d1_21) rfl (tlt hc21).1 (by decide) (by decide) ?_
      show Steps p.tables e below (T.setTop (mkF m 30 #[.val (.int p1)] [])) _
      exact own_b1_30 X hx hby hown hZ hw hret p1 v hv hr
    · rw [if_neg hc21] at hv
      refine XS.icmpNo X.here hx rfl (hb hby d1_21) rfl (flt hc21).1 ?_
      show Steps p.tables e below (T.setTop (mkF m 24 #[.val (.int p1)] [])) _
      refine XS.iloadN X.here hx rfl (hb hby d1_24) rfl ?_
      show Steps p.tables e below (T.setTop (mkF m 25 #[.val (.int p1)] [(.int p1)])) _
      refine XS.bipush X.here hx rfl (hb hby d1_25) ?_
      show Steps p.tables e below (T.setTop (mkF m 27 #[.val (.int p1)] [(.int (122 : Int32)), (.int p1)])) _
      by_cases hc27 : (122 : Int32) < p1
      · rw [if_pos hc27] at hv
        refine XS.icmpNo X.here hx rfl (hb hby d1_27) rfl (tlt hc27).2.2.2 ?_
        show Steps p.tables e below (T.setTop (mkF m 30 #[.val (.int p1)] [])) _
        exact own_b1_30 X hx hby hown hZ hw hret p1 v hv hr
      · rw [if_neg hc27] at hv
        refine XS.icmpYes X.here hx rfl (pc0 := 27) (pc' := 191) rfl (hb hby d1_27) rfl (flt hc27).2.2.2 (by decide) (by decide) ?_
        show Steps p.tables e below (T.setTop (mkF m 191 #[.val (.int p1)] [])) _
        exact own_b1_191 X hx hby hown hZ hw hret p1 v hv hr
def own_f1_0 (p1 : Int32) : Int32 := (if p1 < (65 : Int32) then own_f1_12 p1 else (if (90 : Int32) < p1 then own_f1_12 p1 else own_f1_191 p1))
set_option maxRecDepth 65536 in
set_option maxHeartbeats 4000000 in
theorem own_b1_0 {p : Program} {l : Launch} {e : Env} {R : Room} {s : State} {m : MethodId} {args : Array Value} {below : List Frame} {meth : Method} {c : Code} {T : State} {locs : List Loc} {cells slots : Nat} {Z : State} {a0 : Array Value} (X : Stand p l e R s m args below meth c T locs cells slots) (hx : p.tables.exec = Jvm.exec) (hby : c.code = prog_235_method_5_code) (hown : s.vm.findClass "com/example/querent/querent/xdm/XmlChars" = some m.cls) (hZ : Z.Warmed39 s.vm) (hw : ∀ d ∈ tables_1, d.before a0 Z = true) (hret : meth.sig.returnType = some .boolean) (p1 : Int32) (v : Int32) (hv : own_f1_0 p1 = v) {fs : List Frame} (hr : ∀ (f : JFrame) (acts : List Action), f.method = m → f.locked = none → f.entered = [] → (doReturn e (T.setTop f) acts (some (.int v))).1 = T.setFrames fs) :
    Steps p.tables e below (T.setTop (mkF m 0 #[.val (.int p1)] [])) (T.setFrames fs) := by
  unfold own_f1_0 at hv
  show Steps p.tables e below (T.setTop (mkF m 0 #[.val (.int p1)] [])) _
  refine XS.iloadN X.here hx rfl (hb hby d1_0) rfl ?_
  show Steps p.tables e below (T.setTop (mkF m 1 #[.val (.int p1)] [(.int p1)])) _
  refine XS.bipush X.here hx rfl (hb hby d1_1) ?_
  show Steps p.tables e below (T.setTop (mkF m 3 #[.val (.int p1)] [(.int (65 : Int32)), (.int p1)])) _
  by_cases hc3 : p1 < (65 : Int32)
  · rw [if_pos hc3] at hv
    refine XS.icmpYes X.here hx rfl (pc0 := 3) (pc' := 12) rfl (hb hby d1_3) rfl (tlt hc3).1 (by decide) (by decide) ?_
    show Steps p.tables e below (T.setTop (mkF m 12 #[.val (.int p1)] [])) _
    exact own_b1_12 X hx hby hown hZ hw hret p1 v hv hr
  · rw [if_neg hc3] at hv
    refine XS.icmpNo X.here hx rfl (hb hby d1_3) rfl (flt hc3).1 ?_
    show Steps p.tables e below (T.setTop (mkF m 6 #[.val (.int p1)] [])) _
    refine XS.iloadN X.here hx rfl (hb hby d1_6) rfl ?_
    show Steps p.tables e below (T.setTop (mkF m 7 #[.val (.int p1)] [(.int p1)])) _
    refine XS.bipush X.here hx rfl (hb hby d1_7) ?_
    show Steps p.tables e below (T.setTop (mkF m 9 #[.val (.int p1)] [(.int (90 : Int32)), (.int p1)])) _
    by_cases hc9 : (90 : Int32) < p1
    · rw [if_pos hc9] at hv
      refine XS.icmpNo X.here hx rfl (hb hby d1_9) rfl (tlt hc9).2.2.2 ?_
      show Steps p.tables e below (T.setTop (mkF m 12 #[.val (.int p1)] [])) _
      exact own_b1_12 X hx hby hown hZ hw hret p1 v hv hr
    · rw [if_neg hc9] at hv
      refine XS.icmpYes X.here hx rfl (pc0 := 9) (pc' := 191) rfl (hb hby d1_9) rfl (flt hc9).2.2.2 (by decide) (by decide) ?_
      show Steps p.tables e below (T.setTop (mkF m 191 #[.val (.int p1)] [])) _
      exact own_b1_191 X hx hby hown hZ hw hret p1 v hv hr
theorem ef_1 (m : MethodId) (x0 : Int32) : entryFrame m #[(.int x0)] 1 = mkF m 0 #[.val (.int x0)] [] := by first | (simp [entryFrame, mkF, argsToLocals, Value.category, maxLocals]; done) | rfl
theorem pn_1 : plainName "com/example/querent/querent/xdm/XmlChars" = true := by first | (simp [plainName, overriddenIn]; done) | decide +kernel
def Q_rm1 (Z : State) (p1 : Int32)  (h0 : Heap) (n0 : Nat) (v : Option Value) (h : Heap) (L : List Loc) : Prop := v = some (.int (own_f1_0 p1)) ∧ Fr n0 L ∧ h = h0
set_option maxRecDepth 65536 in
set_option maxHeartbeats 40000000 in
theorem rm1 (l : Launch) (Z : State) (a0 : Array Value) (hw : ∀ d ∈ tables_1, d.before a0 Z = true) (ws : List Jvm.Cond) (p1 : Int32)  (h0 : Heap) (n0 : Nat) (Z0 : n0 ≤ h0.size)  :
    MetFree l (⟨"com/example/querent/querent/xdm/XmlChars", "isNameStartChar", "(I)Z"⟩ : MethodName) (head1 (Jvm.Cond.code (⟨"com/example/querent/querent/xdm/XmlChars", "isNameStartChar", "(I)Z"⟩ : MethodName) prog_235_method_5_code 1 (some .boolean) :: ws) ({ frames := 0, cells := 0, slots := 0, locals := 0 } : Room)) (fun a U => a = #[(.int p1)] ∧ Z.Warmed39 U.vm ∧ U.heap = h0) (fun _ _ _ _ _ => True) (fun _ U o U' => ∃ v L, o = .returned v ∧ Q_rm1 Z p1  h0 n0 v U'.heap L ∧ FrameEnd U o U' L ({ frames := 0, cells := 0, slots := 0, locals := 0 } : Room).cells ({ frames := 0, cells := 0, slots := 0, locals := 0 } : Room).slots) := by
  refine MetFree.of_bodySF (plainFor_of_name pn_1) hisR ?_
  intro p e s m args below meth c s₁ Bd hml0 hP hK
  obtain ⟨rfl, hZ, hh⟩ := hP
  have hx := Bd.exec
  have hby := Bd.bytes
  have hml : c.maxLocals = 1 := hml0
  have hown : s.vm.findClass "com/example/querent/querent/xdm/XmlChars" = some m.cls := findClass_of_methodNamed Bd.named
  have hnm := (name_of_methodNamed Bd.named Bd.method).1
  have X0 : Stand p l e ({ frames := 0, cells := 0, slots := 0, locals := 0 } : Room) s m #[(.int p1)] below meth c s₁ [] 0 0 := Stand.of_body Bd
  have e0 : s₁.heap = h0 := by rw [← hh, Bd.state]; rfl
  have N0 := Fr.nil n0
  have pre0 : ∀ t, Steps p.tables e below (s₁.setTop (mkF m 0 #[.val (.int p1)] [])) t → Steps p.tables e below (s₁.setTop (entryFrame m #[(.int p1)] 1)) t := fun t k => castTop (ef_1 m p1) k
  obtain ⟨fs, hr, hrun, hended, hW, hsame⟩ := X0.leave (v := some (.int (own_f1_0 p1))) (fun h => by rw [Bd.returns] at h; cases h) Bd.notSynchronized
  refine ⟨_, _, pre0 _ ?_, hrun, hended, _, _, rfl, ?_, ⟨_, rfl⟩, hW, hsame.mono (by decide) (by decide)⟩
  · exact own_b1_0 X0 hx hby hown hZ hw Bd.returns p1 _ rfl hr
  · exact ⟨rfl, N0, e0⟩
theorem own_f1_195_spec (x : Int32) : own_f1_195 x = if False then (1 : Int32) else (0 : Int32) := by
  have b1 := Int32.le_toInt x
  have b2 := Int32.toInt_lt x
  unfold own_f1_195
  simp only [Int32.lt_iff_toInt_lt, ← Int32.toInt_inj, Int32.reduceToInt, if_true, if_false]
  repeat' split
  all_goals first | (exfalso; omega) | rfl
theorem own_f1_191_spec (x : Int32) : own_f1_191 x = if True then (1 : Int32) else (0 : Int32) := by
  have b1 := Int32.le_toInt x
  have b2 := Int32.toInt_lt x
  unfold own_f1_191
  simp only [Int32.lt_iff_toInt_lt, ← Int32.toInt_inj, Int32.reduceToInt, if_true, if_false]
  repeat' split
  all_goals first | (exfalso; omega) | rfl
theorem own_f1_179_spec (x : Int32) : own_f1_179 x = if (65536 ≤ x.toInt ∧ x.toInt ≤ 983039) then (1 : Int32) else (0 : Int32) := by
  have b1 := Int32.le_toInt x
  have b2 := Int32.toInt_lt x
  unfold own_f1_179
  simp only [own_f1_195_spec, own_f1_191_spec, Int32.lt_iff_toInt_lt, ← Int32.toInt_inj, Int32.reduceToInt, if_true, if_false]
  repeat' split
  all_goals first | (exfalso; omega) | rfl
theorem own_f1_167_spec (x : Int32) : own_f1_167 x = if (65008 ≤ x.toInt ∧ x.toInt ≤ 65533) ∨ (65536 ≤ x.toInt ∧ x.toInt ≤ 983039) then (1 : Int32) else (0 : Int32) := by
  have b1 := Int32.le_toInt x
  have b2 := Int32.toInt_lt x
  unfold own_f1_167
  simp only [own_f1_179_spec, own_f1_191_spec, Int32.lt_iff_toInt_lt, ← Int32.toInt_inj, Int32.reduceToInt, if_true, if_false]
  repeat' split
  all_goals first | (exfalso; omega) | rfl
theorem own_f1_155_spec (x : Int32) : own_f1_155 x = if (63744 ≤ x.toInt ∧ x.toInt ≤ 64975) ∨ (65008 ≤ x.toInt ∧ x.toInt ≤ 65533) ∨ (65536 ≤ x.toInt ∧ x.toInt ≤ 983039) then (1 : Int32) else (0 : Int32) := by
  have b1 := Int32.le_toInt x
  have b2 := Int32.toInt_lt x
  unfold own_f1_155
  simp only [own_f1_167_spec, own_f1_191_spec, Int32.lt_iff_toInt_lt, ← Int32.toInt_inj, Int32.reduceToInt, if_true, if_false]
  repeat' split
  all_goals first | (exfalso; omega) | rfl
theorem own_f1_142_spec (x : Int32) : own_f1_142 x = if (12289 ≤ x.toInt ∧ x.toInt ≤ 55295) ∨ (63744 ≤ x.toInt ∧ x.toInt ≤ 64975) ∨ (65008 ≤ x.toInt ∧ x.toInt ≤ 65533) ∨ (65536 ≤ x.toInt ∧ x.toInt ≤ 983039) then (1 : Int32) else (0 : Int32) := by
  have b1 := Int32.le_toInt x
  have b2 := Int32.toInt_lt x
  unfold own_f1_142
  simp only [own_f1_155_spec, own_f1_191_spec, Int32.lt_iff_toInt_lt, ← Int32.toInt_inj, Int32.reduceToInt, if_true, if_false]
  repeat' split
  all_goals first | (exfalso; omega) | rfl
theorem own_f1_128_spec (x : Int32) : own_f1_128 x = if (11264 ≤ x.toInt ∧ x.toInt ≤ 12271) ∨ (12289 ≤ x.toInt ∧ x.toInt ≤ 55295) ∨ (63744 ≤ x.toInt ∧ x.toInt ≤ 64975) ∨ (65008 ≤ x.toInt ∧ x.toInt ≤ 65533) ∨ (65536 ≤ x.toInt ∧ x.toInt ≤ 983039) then (1 : Int32) else (0 : Int32) := by
  have b1 := Int32.le_toInt x
  have b2 := Int32.toInt_lt x
  unfold own_f1_128
  simp only [own_f1_142_spec, own_f1_191_spec, Int32.lt_iff_toInt_lt, ← Int32.toInt_inj, Int32.reduceToInt, if_true, if_false]
  repeat' split
  all_goals first | (exfalso; omega) | rfl
theorem own_f1_114_spec (x : Int32) : own_f1_114 x = if (8304 ≤ x.toInt ∧ x.toInt ≤ 8591) ∨ (11264 ≤ x.toInt ∧ x.toInt ≤ 12271) ∨ (12289 ≤ x.toInt ∧ x.toInt ≤ 55295) ∨ (63744 ≤ x.toInt ∧ x.toInt ≤ 64975) ∨ (65008 ≤ x.toInt ∧ x.toInt ≤ 65533) ∨ (65536 ≤ x.toInt ∧ x.toInt ≤ 983039) then (1 : Int32) else (0 : Int32) := by
  have b1 := Int32.le_toInt x
  have b2 := Int32.toInt_lt x
  unfold own_f1_114
  simp only [own_f1_128_spec, own_f1_191_spec, Int32.lt_iff_toInt_lt, ← Int32.toInt_inj, Int32.reduceToInt, if_true, if_false]
  repeat' split
  all_goals first | (exfalso; omega) | rfl
theorem own_f1_100_spec (x : Int32) : own_f1_100 x = if (8204 ≤ x.toInt ∧ x.toInt ≤ 8205) ∨ (8304 ≤ x.toInt ∧ x.toInt ≤ 8591) ∨ (11264 ≤ x.toInt ∧ x.toInt ≤ 12271) ∨ (12289 ≤ x.toInt ∧ x.toInt ≤ 55295) ∨ (63744 ≤ x.toInt ∧ x.toInt ≤ 64975) ∨ (65008 ≤ x.toInt ∧ x.toInt ≤ 65533) ∨ (65536 ≤ x.toInt ∧ x.toInt ≤ 983039) then (1 : Int32) else (0 : Int32) := by
  have b1 := Int32.le_toInt x
  have b2 := Int32.toInt_lt x
  unfold own_f1_100
  simp only [own_f1_114_spec, own_f1_191_spec, Int32.lt_iff_toInt_lt, ← Int32.toInt_inj, Int32.reduceToInt, if_true, if_false]
  repeat' split
  all_goals first | (exfalso; omega) | rfl
theorem own_f1_86_spec (x : Int32) : own_f1_86 x = if (895 ≤ x.toInt ∧ x.toInt ≤ 8191) ∨ (8204 ≤ x.toInt ∧ x.toInt ≤ 8205) ∨ (8304 ≤ x.toInt ∧ x.toInt ≤ 8591) ∨ (11264 ≤ x.toInt ∧ x.toInt ≤ 12271) ∨ (12289 ≤ x.toInt ∧ x.toInt ≤ 55295) ∨ (63744 ≤ x.toInt ∧ x.toInt ≤ 64975) ∨ (65008 ≤ x.toInt ∧ x.toInt ≤ 65533) ∨ (65536 ≤ x.toInt ∧ x.toInt ≤ 983039) then (1 : Int32) else (0 : Int32) := by
  have b1 := Int32.le_toInt x
  have b2 := Int32.toInt_lt x
  unfold own_f1_86
  simp only [own_f1_100_spec, own_f1_191_spec, Int32.lt_iff_toInt_lt, ← Int32.toInt_inj, Int32.reduceToInt, if_true, if_false]
  repeat' split
  all_goals first | (exfalso; omega) | rfl
theorem own_f1_72_spec (x : Int32) : own_f1_72 x = if (880 ≤ x.toInt ∧ x.toInt ≤ 893) ∨ (895 ≤ x.toInt ∧ x.toInt ≤ 8191) ∨ (8204 ≤ x.toInt ∧ x.toInt ≤ 8205) ∨ (8304 ≤ x.toInt ∧ x.toInt ≤ 8591) ∨ (11264 ≤ x.toInt ∧ x.toInt ≤ 12271) ∨ (12289 ≤ x.toInt ∧ x.toInt ≤ 55295) ∨ (63744 ≤ x.toInt ∧ x.toInt ≤ 64975) ∨ (65008 ≤ x.toInt ∧ x.toInt ≤ 65533) ∨ (65536 ≤ x.toInt ∧ x.toInt ≤ 983039) then (1 : Int32) else (0 : Int32) := by
  have b1 := Int32.le_toInt x
  have b2 := Int32.toInt_lt x
  unfold own_f1_72
  simp only [own_f1_86_spec, own_f1_191_spec, Int32.lt_iff_toInt_lt, ← Int32.toInt_inj, Int32.reduceToInt, if_true, if_false]
  repeat' split
  all_goals first | (exfalso; omega) | rfl
theorem own_f1_58_spec (x : Int32) : own_f1_58 x = if (248 ≤ x.toInt ∧ x.toInt ≤ 767) ∨ (880 ≤ x.toInt ∧ x.toInt ≤ 893) ∨ (895 ≤ x.toInt ∧ x.toInt ≤ 8191) ∨ (8204 ≤ x.toInt ∧ x.toInt ≤ 8205) ∨ (8304 ≤ x.toInt ∧ x.toInt ≤ 8591) ∨ (11264 ≤ x.toInt ∧ x.toInt ≤ 12271) ∨ (12289 ≤ x.toInt ∧ x.toInt ≤ 55295) ∨ (63744 ≤ x.toInt ∧ x.toInt ≤ 64975) ∨ (65008 ≤ x.toInt ∧ x.toInt ≤ 65533) ∨ (65536 ≤ x.toInt ∧ x.toInt ≤ 983039) then (1 : Int32) else (0 : Int32) := by
  have b1 := Int32.le_toInt x
  have b2 := Int32.toInt_lt x
  unfold own_f1_58
  simp only [own_f1_72_spec, own_f1_191_spec, Int32.lt_iff_toInt_lt, ← Int32.toInt_inj, Int32.reduceToInt, if_true, if_false]
  repeat' split
  all_goals first | (exfalso; omega) | rfl
theorem own_f1_44_spec (x : Int32) : own_f1_44 x = if (216 ≤ x.toInt ∧ x.toInt ≤ 246) ∨ (248 ≤ x.toInt ∧ x.toInt ≤ 767) ∨ (880 ≤ x.toInt ∧ x.toInt ≤ 893) ∨ (895 ≤ x.toInt ∧ x.toInt ≤ 8191) ∨ (8204 ≤ x.toInt ∧ x.toInt ≤ 8205) ∨ (8304 ≤ x.toInt ∧ x.toInt ≤ 8591) ∨ (11264 ≤ x.toInt ∧ x.toInt ≤ 12271) ∨ (12289 ≤ x.toInt ∧ x.toInt ≤ 55295) ∨ (63744 ≤ x.toInt ∧ x.toInt ≤ 64975) ∨ (65008 ≤ x.toInt ∧ x.toInt ≤ 65533) ∨ (65536 ≤ x.toInt ∧ x.toInt ≤ 983039) then (1 : Int32) else (0 : Int32) := by
  have b1 := Int32.le_toInt x
  have b2 := Int32.toInt_lt x
  unfold own_f1_44
  simp only [own_f1_58_spec, own_f1_191_spec, Int32.lt_iff_toInt_lt, ← Int32.toInt_inj, Int32.reduceToInt, if_true, if_false]
  repeat' split
  all_goals first | (exfalso; omega) | rfl
theorem own_f1_30_spec (x : Int32) : own_f1_30 x = if (192 ≤ x.toInt ∧ x.toInt ≤ 214) ∨ (216 ≤ x.toInt ∧ x.toInt ≤ 246) ∨ (248 ≤ x.toInt ∧ x.toInt ≤ 767) ∨ (880 ≤ x.toInt ∧ x.toInt ≤ 893) ∨ (895 ≤ x.toInt ∧ x.toInt ≤ 8191) ∨ (8204 ≤ x.toInt ∧ x.toInt ≤ 8205) ∨ (8304 ≤ x.toInt ∧ x.toInt ≤ 8591) ∨ (11264 ≤ x.toInt ∧ x.toInt ≤ 12271) ∨ (12289 ≤ x.toInt ∧ x.toInt ≤ 55295) ∨ (63744 ≤ x.toInt ∧ x.toInt ≤ 64975) ∨ (65008 ≤ x.toInt ∧ x.toInt ≤ 65533) ∨ (65536 ≤ x.toInt ∧ x.toInt ≤ 983039) then (1 : Int32) else (0 : Int32) := by
  have b1 := Int32.le_toInt x
  have b2 := Int32.toInt_lt x
  unfold own_f1_30
  simp only [own_f1_44_spec, own_f1_191_spec, Int32.lt_iff_toInt_lt, ← Int32.toInt_inj, Int32.reduceToInt, if_true, if_false]
  repeat' split
  all_goals first | (exfalso; omega) | rfl
theorem own_f1_12_spec (x : Int32) : own_f1_12 x = if x.toInt = 95 ∨ (97 ≤ x.toInt ∧ x.toInt ≤ 122) ∨ (192 ≤ x.toInt ∧ x.toInt ≤ 214) ∨ (216 ≤ x.toInt ∧ x.toInt ≤ 246) ∨ (248 ≤ x.toInt ∧ x.toInt ≤ 767) ∨ (880 ≤ x.toInt ∧ x.toInt ≤ 893) ∨ (895 ≤ x.toInt ∧ x.toInt ≤ 8191) ∨ (8204 ≤ x.toInt ∧ x.toInt ≤ 8205) ∨ (8304 ≤ x.toInt ∧ x.toInt ≤ 8591) ∨ (11264 ≤ x.toInt ∧ x.toInt ≤ 12271) ∨ (12289 ≤ x.toInt ∧ x.toInt ≤ 55295) ∨ (63744 ≤ x.toInt ∧ x.toInt ≤ 64975) ∨ (65008 ≤ x.toInt ∧ x.toInt ≤ 65533) ∨ (65536 ≤ x.toInt ∧ x.toInt ≤ 983039) then (1 : Int32) else (0 : Int32) := by
  have b1 := Int32.le_toInt x
  have b2 := Int32.toInt_lt x
  unfold own_f1_12
  simp only [own_f1_191_spec, own_f1_30_spec, Int32.lt_iff_toInt_lt, ← Int32.toInt_inj, Int32.reduceToInt, if_true, if_false]
  repeat' split
  all_goals first | (exfalso; omega) | rfl
theorem own_f1_0_spec (x : Int32) : own_f1_0 x = if (65 ≤ x.toInt ∧ x.toInt ≤ 90) ∨ x.toInt = 95 ∨ (97 ≤ x.toInt ∧ x.toInt ≤ 122) ∨ (192 ≤ x.toInt ∧ x.toInt ≤ 214) ∨ (216 ≤ x.toInt ∧ x.toInt ≤ 246) ∨ (248 ≤ x.toInt ∧ x.toInt ≤ 767) ∨ (880 ≤ x.toInt ∧ x.toInt ≤ 893) ∨ (895 ≤ x.toInt ∧ x.toInt ≤ 8191) ∨ (8204 ≤ x.toInt ∧ x.toInt ≤ 8205) ∨ (8304 ≤ x.toInt ∧ x.toInt ≤ 8591) ∨ (11264 ≤ x.toInt ∧ x.toInt ≤ 12271) ∨ (12289 ≤ x.toInt ∧ x.toInt ≤ 55295) ∨ (63744 ≤ x.toInt ∧ x.toInt ≤ 64975) ∨ (65008 ≤ x.toInt ∧ x.toInt ≤ 65533) ∨ (65536 ≤ x.toInt ∧ x.toInt ≤ 983039) then (1 : Int32) else (0 : Int32) := by
  have b1 := Int32.le_toInt x
  have b2 := Int32.toInt_lt x
  unfold own_f1_0
  simp only [own_f1_12_spec, own_f1_191_spec, Int32.lt_iff_toInt_lt, ← Int32.toInt_inj, Int32.reduceToInt, if_true, if_false]
  repeat' split
  all_goals first | (exfalso; omega) | rfl
theorem d2_0 : decode method_3_code 0 = .ok (.iload_n 0, 1) := by decide +kernel
theorem d2_1 : decode method_3_code 1 = .ok (.bipush 65, 2) := by decide +kernel
theorem d2_3 : decode method_3_code 3 = .ok (.if_icmp .lt 9, 3) := by decide +kernel
theorem d2_6 : decode method_3_code 6 = .ok (.iload_n 0, 1) := by decide +kernel
theorem d2_7 : decode method_3_code 7 = .ok (.ldc 13, 2) := by decide +kernel
theorem d2_9 : decode method_3_code 9 = .ok (.if_icmp .le 5, 3) := by decide +kernel
theorem d2_12 : decode method_3_code 12 = .ok (.iconst 0, 1) := by decide +kernel
theorem d2_13 : decode method_3_code 13 = .ok (.ireturn, 1) := by decide +kernel
theorem d2_14 : decode method_3_code 14 = .ok (.iload_n 0, 1) := by decide +kernel
theorem d2_15 : decode method_3_code 15 = .ok (.bipush 91, 2) := by decide +kernel
theorem d2_17 : decode method_3_code 17 = .ok (.if_icmp .lt 11, 3) := by decide +kernel
theorem d2_20 : decode method_3_code 20 = .ok (.iload_n 0, 1) := by decide +kernel
theorem d2_21 : decode method_3_code 21 = .ok (.bipush 94, 2) := by decide +kernel
theorem d2_23 : decode method_3_code 23 = .ok (.if_icmp .gt 5, 3) := by decide +kernel
theorem d2_26 : decode method_3_code 26 = .ok (.iconst 0, 1) := by decide +kernel
theorem d2_27 : decode method_3_code 27 = .ok (.ireturn, 1) := by decide +kernel
theorem d2_28 : decode method_3_code 28 = .ok (.iload_n 0, 1) := by decide +kernel
theorem d2_29 : decode method_3_code 29 = .ok (.bipush 96, 2) := by decide +kernel
theorem d2_31 : decode method_3_code 31 = .ok (.if_icmp .ne 5, 3) := by decide +kernel
theorem d2_34 : decode method_3_code 34 = .ok (.iconst 0, 1) := by decide +kernel
theorem d2_35 : decode method_3_code 35 = .ok (.ireturn, 1) := by decide +kernel
theorem d2_36 : decode method_3_code 36 = .ok (.iload_n 0, 1) := by decide +kernel
theorem d2_37 : decode method_3_code 37 = .ok (.bipush 123, 2) := by decide +kernel
theorem d2_39 : decode method_3_code 39 = .ok (.if_icmp .lt 12, 3) := by decide +kernel
theorem d2_42 : decode method_3_code 42 = .ok (.iload_n 0, 1) := by decide +kernel
theorem d2_43 : decode method_3_code 43 = .ok (.sipush 191, 3) := by decide +kernel
theorem d2_46 : decode method_3_code 46 = .ok (.if_icmp .gt 5, 3) := by decide +kernel
theorem d2_49 : decode method_3_code 49 = .ok (.iconst 0, 1) := by decide +kernel
theorem d2_50 : decode method_3_code 50 = .ok (.ireturn, 1) := by decide +kernel
theorem d2_51 : decode method_3_code 51 = .ok (.iload_n 0, 1) := by decide +kernel
theorem d2_52 : decode method_3_code 52 = .ok (.sipush 215, 3) := by decide +kernel
theorem d2_55 : decode method_3_code 55 = .ok (.if_icmp .eq 10, 3) := by decide +kernel
theorem d2_58 : decode method_3_code 58 = .ok (.iload_n 0, 1) := by decide +kernel
theorem d2_59 : decode method_3_code 59 = .ok (.sipush 247, 3) := by decide +kernel
theorem d2_62 : decode method_3_code 62 = .ok (.if_icmp .ne 5, 3) := by decide +kernel
theorem d2_65 : decode method_3_code 65 = .ok (.iconst 0, 1) := by decide +kernel
theorem d2_66 : decode method_3_code 66 = .ok (.ireturn, 1) := by decide +kernel
theorem d2_67 : decode method_3_code 67 = .ok (.iload_n 0, 1) := by decide +kernel
theorem d2_68 : decode method_3_code 68 = .ok (.sipush 768, 3) := by decide +kernel
theorem d2_71 : decode method_3_code 71 = .ok (.if_icmp .lt 12, 3) := by decide +kernel
theorem d2_74 : decode method_3_code 74 = .ok (.iload_n 0, 1) := by decide +kernel
theorem d2_75 : decode method_3_code 75 = .ok (.sipush 879, 3) := by decide +kernel
theorem d2_78 : decode method_3_code 78 = .ok (.if_icmp .gt 5, 3) := by decide +kernel
theorem d2_81 : decode method_3_code 81 = .ok (.iconst 0, 1) := by decide +kernel
theorem d2_82 : decode method_3_code 82 = .ok (.ireturn, 1) := by decide +kernel
theorem d2_83 : decode method_3_code 83 = .ok (.iload_n 0, 1) := by decide +kernel
theorem d2_84 : decode method_3_code 84 = .ok (.sipush 894, 3) := by decide +kernel
theorem d2_87 : decode method_3_code 87 = .ok (.if_icmp .ne 5, 3) := by decide +kernel
theorem d2_90 : decode method_3_code 90 = .ok (.iconst 0, 1) := by decide +kernel
theorem d2_91 : decode method_3_code 91 = .ok (.ireturn, 1) := by decide +kernel
theorem d2_92 : decode method_3_code 92 = .ok (.iload_n 0, 1) := by decide +kernel
theorem d2_93 : decode method_3_code 93 = .ok (.sipush 8192, 3) := by decide +kernel
theorem d2_96 : decode method_3_code 96 = .ok (.if_icmp .lt 12, 3) := by decide +kernel
theorem d2_99 : decode method_3_code 99 = .ok (.iload_n 0, 1) := by decide +kernel
theorem d2_100 : decode method_3_code 100 = .ok (.sipush 8203, 3) := by decide +kernel
theorem d2_103 : decode method_3_code 103 = .ok (.if_icmp .gt 5, 3) := by decide +kernel
theorem d2_106 : decode method_3_code 106 = .ok (.iconst 0, 1) := by decide +kernel
theorem d2_107 : decode method_3_code 107 = .ok (.ireturn, 1) := by decide +kernel
theorem d2_108 : decode method_3_code 108 = .ok (.iload_n 0, 1) := by decide +kernel
theorem d2_109 : decode method_3_code 109 = .ok (.sipush 8206, 3) := by decide +kernel
theorem d2_112 : decode method_3_code 112 = .ok (.if_icmp .lt 12, 3) := by decide +kernel
theorem d2_115 : decode method_3_code 115 = .ok (.iload_n 0, 1) := by decide +kernel
theorem d2_116 : decode method_3_code 116 = .ok (.sipush 8303, 3) := by decide +kernel
theorem d2_119 : decode method_3_code 119 = .ok (.if_icmp .gt 5, 3) := by decide +kernel
theorem d2_122 : decode method_3_code 122 = .ok (.iconst 0, 1) := by decide +kernel
theorem d2_123 : decode method_3_code 123 = .ok (.ireturn, 1) := by decide +kernel
theorem d2_124 : decode method_3_code 124 = .ok (.iload_n 0, 1) := by decide +kernel
theorem d2_125 : decode method_3_code 125 = .ok (.sipush 8592, 3) := by decide +kernel
theorem d2_128 : decode method_3_code 128 = .ok (.if_icmp .lt 12, 3) := by decide +kernel
theorem d2_131 : decode method_3_code 131 = .ok (.iload_n 0, 1) := by decide +kernel
theorem d2_132 : decode method_3_code 132 = .ok (.sipush 11263, 3) := by decide +kernel
theorem d2_135 : decode method_3_code 135 = .ok (.if_icmp .gt 5, 3) := by decide +kernel
theorem d2_138 : decode method_3_code 138 = .ok (.iconst 0, 1) := by decide +kernel
theorem d2_139 : decode method_3_code 139 = .ok (.ireturn, 1) := by decide +kernel
theorem d2_140 : decode method_3_code 140 = .ok (.iload_n 0, 1) := by decide +kernel
theorem d2_141 : decode method_3_code 141 = .ok (.sipush 12272, 3) := by decide +kernel
theorem d2_144 : decode method_3_code 144 = .ok (.if_icmp .lt 12, 3) := by decide +kernel
theorem d2_147 : decode method_3_code 147 = .ok (.iload_n 0, 1) := by decide +kernel
theorem d2_148 : decode method_3_code 148 = .ok (.sipush 12288, 3) := by decide +kernel
theorem d2_151 : decode method_3_code 151 = .ok (.if_icmp .gt 5, 3) := by decide +kernel
theorem d2_154 : decode method_3_code 154 = .ok (.iconst 0, 1) := by decide +kernel
theorem d2_155 : decode method_3_code 155 = .ok (.ireturn, 1) := by decide +kernel
theorem d2_156 : decode method_3_code 156 = .ok (.iload_n 0, 1) := by decide +kernel
theorem d2_157 : decode method_3_code 157 = .ok (.ldc 27, 2) := by decide +kernel
theorem d2_159 : decode method_3_code 159 = .ok (.if_icmp .lt 11, 3) := by decide +kernel
theorem d2_162 : decode method_3_code 162 = .ok (.iload_n 0, 1) := by decide +kernel
theorem d2_163 : decode method_3_code 163 = .ok (.ldc 28, 2) := by decide +kernel
theorem d2_165 : decode method_3_code 165 = .ok (.if_icmp .gt 5, 3) := by decide +kernel
theorem d2_168 : decode method_3_code 168 = .ok (.iconst 0, 1) := by decide +kernel
theorem d2_169 : decode method_3_code 169 = .ok (.ireturn, 1) := by decide +kernel
theorem d2_170 : decode method_3_code 170 = .ok (.iload_n 0, 1) := by decide +kernel
theorem d2_171 : decode method_3_code 171 = .ok (.ldc 29, 2) := by decide +kernel
theorem d2_173 : decode method_3_code 173 = .ok (.if_icmp .lt 11, 3) := by decide +kernel
theorem d2_176 : decode method_3_code 176 = .ok (.iload_n 0, 1) := by decide +kernel
theorem d2_177 : decode method_3_code 177 = .ok (.ldc 30, 2) := by decide +kernel
theorem d2_179 : decode method_3_code 179 = .ok (.if_icmp .gt 5, 3) := by decide +kernel
theorem d2_182 : decode method_3_code 182 = .ok (.iconst 0, 1) := by decide +kernel
theorem d2_183 : decode method_3_code 183 = .ok (.ireturn, 1) := by decide +kernel
theorem d2_184 : decode method_3_code 184 = .ok (.iload_n 0, 1) := by decide +kernel
theorem d2_185 : decode method_3_code 185 = .ok (.ldc 31, 2) := by decide +kernel
theorem d2_187 : decode method_3_code 187 = .ok (.if_icmp .eq 9, 3) := by decide +kernel
theorem d2_190 : decode method_3_code 190 = .ok (.iload_n 0, 1) := by decide +kernel
theorem d2_191 : decode method_3_code 191 = .ok (.ldc 32, 2) := by decide +kernel
theorem d2_193 : decode method_3_code 193 = .ok (.if_icmp .ne 5, 3) := by decide +kernel
theorem d2_196 : decode method_3_code 196 = .ok (.iconst 0, 1) := by decide +kernel
theorem d2_197 : decode method_3_code 197 = .ok (.ireturn, 1) := by decide +kernel
theorem d2_198 : decode method_3_code 198 = .ok (.iconst 1, 1) := by decide +kernel
theorem d2_199 : decode method_3_code 199 = .ok (.ireturn, 1) := by decide +kernel
def own_f2_196 (p1 : Int32) : Int32 := (0 : Int32)
set_option maxRecDepth 65536 in
set_option maxHeartbeats 4000000 in
theorem own_b2_196 {p : Program} {l : Launch} {e : Env} {R : Room} {s : State} {m : MethodId} {args : Array Value} {below : List Frame} {meth : Method} {c : Code} {T : State} {locs : List Loc} {cells slots : Nat} {Z : State} {a0 : Array Value} (X : Stand p l e R s m args below meth c T locs cells slots) (hx : p.tables.exec = Jvm.exec) (hby : c.code = method_3_code) (hown : s.vm.findClass "com/example/querent/querent/xdm/XmlCharsIsNameStartCharPinLaw" = some m.cls) (hZ : Z.Warmed39 s.vm) (hw : ∀ d ∈ tables_1, d.before a0 Z = true) (hret : meth.sig.returnType = some .boolean) (p1 : Int32) (v : Int32) (hv : own_f2_196 p1 = v) {fs : List Frame} (hr : ∀ (f : JFrame) (acts : List Action), f.method = m → f.locked = none → f.entered = [] → (doReturn e (T.setTop f) acts (some (.int v))).1 = T.setFrames fs) :
    Steps p.tables e below (T.setTop (mkF m 196 #[.val (.int p1)] [])) (T.setFrames fs) := by
  unfold own_f2_196 at hv
  show Steps p.tables e below (T.setTop (mkF m 196 #[.val (.int p1)] [])) _
  refine XS.iconst X.here hx rfl (hb hby d2_196) ?_
  show Steps p.tables e below (T.setTop (mkF m 197 #[.val (.int p1)] [(.int (0 : Int32))])) _
  subst hv
  exact retN X hx (t := .boolean) hret (by simp) (hb hby d2_197) hr
def own_f2_184 (p1 : Int32) : Int32 := (if p1 = (65534 : Int32) then own_f2_196 p1 else (if p1 = (65535 : Int32) then own_f2_196 p1 else (1 : Int32)))
set_option maxRecDepth 65536 in
set_option maxHeartbeats 4000000 in
theorem own_b2_184 {p : Program} {l : Launch} {e : Env} {R : Room} {s : State} {m : MethodId} {args : Array Value} {below : List Frame} {meth : Method} {c : Code} {T : State} {locs : List Loc} {cells slots : Nat} {Z : State} {a0 : Array Value} (X : Stand p l e R s m args below meth c T locs cells slots) (hx : p.tables.exec = Jvm.exec) (hby : c.code = method_3_code) (hown : s.vm.findClass "com/example/querent/querent/xdm/XmlCharsIsNameStartCharPinLaw" = some m.cls) (hZ : Z.Warmed39 s.vm) (hw : ∀ d ∈ tables_1, d.before a0 Z = true) (hret : meth.sig.returnType = some .boolean) (p1 : Int32) (v : Int32) (hv : own_f2_184 p1 = v) {fs : List Frame} (hr : ∀ (f : JFrame) (acts : List Action), f.method = m → f.locked = none → f.entered = [] → (doReturn e (T.setTop f) acts (some (.int v))).1 = T.setFrames fs) :
    Steps p.tables e below (T.setTop (mkF m 184 #[.val (.int p1)] [])) (T.setFrames fs) := by
  unfold own_f2_184 at hv
  show Steps p.tables e below (T.setTop (mkF m 184 #[.val (.int p1)] [])) _
  refine XS.iloadN X.here hx rfl (hb hby d2_184) rfl ?_
  show Steps p.tables e below (T.setTop (mkF m 185 #[.val (.int p1)] [(.int p1)])) _
  refine X.ldcInt hx hown (mvT hZ (hw _ (List.mem_of_getElem? (i := 23) rfl))) (g := (mkF m 185 #[.val (.int p1)] [(.int p1)])) rfl (hb hby d2_185) _ ?_
  show Steps p.tables e below (T.setTop (mkF m 187 #[.val (.int p1)] [(.int (65534 : Int32)), (.int p1)])) _
  by_cases hc187 : p1 = (65534 : Int32)
  · rw [if_pos hc187] at hv
    refine XS.icmpYes X.here hx rfl (pc0 := 187) (pc' := 196) rfl (hb hby d2_187) rfl (teq hc187).1 (by decide) (by decide) ?_
    show Steps p.tables e below (T.setTop (mkF m 196 #[.val (.int p1)] [])) _
    exact own_b2_196 X hx hby hown hZ hw hret p1 v hv hr
  · rw [if_neg hc187] at hv
    refine XS.icmpNo X.here hx rfl (hb hby d2_187) rfl (feq hc187).1 ?_
    show Steps p.tables e below (T.setTop (mkF m 190 #[.val (.int p1)] [])) _
    refine XS.iloadN X.here hx rfl (hb hby d2_190) rfl ?_
    show Steps p.tables e below (T.setTop (mkF m 191 #[.val (.int p1)] [(.int p1)])) _
    refine X.ldcInt hx hown (mvT hZ (hw _ (List.mem_of_getElem? (i := 24) rfl))) (g := (mkF m 191 #[.val (.int p1)] [(.int p1)])) rfl (hb hby d2_191) _ ?_
    show Steps p.tables e below (T.setTop (mkF m 193 #[.val (.int p1)] [(.int (65535 : Int32)), (.int p1)])) _
    by_cases hc193 : p1 = (65535 : Int32)
    · rw [if_pos hc193] at hv
      refine XS.icmpNo X.here hx rfl (hb hby d2_193) rfl (teq hc193).2 ?_
      show Steps p.tables e below (T.setTop (mkF m 196 #[.val (.int p1)] [])) _
      exact own_b2_196 X hx hby hown hZ hw hret p1 v hv hr
    · rw [if_neg hc193] at hv
      refine XS.icmpYes X.here hx rfl (pc0 := 193) (pc' := 198) rfl (hb hby d2_193) rfl (feq hc193).2 (by decide) (by decide) ?_
      show Steps p.tables e below (T.setTop (mkF m 198 #[.val (.int p1)] [])) _
      refine XS.iconst X.here hx rfl (hb hby d2_198) ?_
      show Steps p.tables e below (T.setTop (mkF m 199 #[.val (.int p1)] [(.int (1 : Int32))])) _
      subst hv
      exact retN X hx (t := .boolean) hret (by simp) (hb hby d2_199) hr
def own_f2_170 (p1 : Int32) : Int32 := (if p1 < (64976 : Int32) then own_f2_184 p1 else (if (65007 : Int32) < p1 then own_f2_184 p1 else (0 : Int32)))
set_option maxRecDepth 65536 in
set_option maxHeartbeats 4000000 in
theorem own_b2_170 {p : Program} {l : Launch} {e : Env} {R : Room} {s : State} {m : MethodId} {args : Array Value} {below : List Frame} {meth : Method} {c : Code} {T : State} {locs : List Loc} {cells slots : Nat} {Z : State} {a0 : Array Value} (X : Stand p l e R s m args below meth c T locs cells slots) (hx : p.tables.exec = Jvm.exec) (hby : c.code = method_3_code) (hown : s.vm.findClass "com/example/querent/querent/xdm/XmlCharsIsNameStartCharPinLaw" = some m.cls) (hZ : Z.Warmed39 s.vm) (hw : ∀ d ∈ tables_1, d.before a0 Z = true) (hret : meth.sig.returnType = some .boolean) (p1 : Int32) (v : Int32) (hv : own_f2_170 p1 = v) {fs : List Frame} (hr : ∀ (f : JFrame) (acts : List Action), f.method = m → f.locked = none → f.entered = [] → (doReturn e (T.setTop f) acts (some (.int v))).1 = T.setFrames fs) :
    Steps p.tables e below (T.setTop (mkF m 170 #[.val (.int p1)] [])) (T.setFrames fs) := by
  unfold own_f2_170 at hv
  show Steps p.tables e below (T.setTop (mkF m 170 #[.val (.int p1)] [])) _
  refine XS.iloadN X.here hx rfl (hb hby d2_170) rfl ?_
  show Steps p.tables e below (T.setTop (mkF m 171 #[.val (.int p1)] [(.int p1)])) _
  refine X.ldcInt hx hown (mvT hZ (hw _ (List.mem_of_getElem? (i := 22) rfl))) (g := (mkF m 171 #[.val (.int p1)] [(.int p1)])) rfl (hb hby d2_171) _ ?_
  show Steps p.tables e below (T.setTop (mkF m 173 #[.val (.int p1)] [(.int (64976 : Int32)), (.int p1)])) _
  by_cases hc173 : p1 < (64976 : Int32)
  · rw [if_pos hc173] at hv
    refine XS.icmpYes X.here hx rfl (pc0 := 173) (pc' := 184) rfl (hb hby d2_173) rfl (tlt hc173).1 (by decide) (by decide) ?_
    show Steps p.tables e below (T.setTop (mkF m 184 #[.val (.int p1)] [])) _
    exact own_b2_184 X hx hby hown hZ hw hret p1 v hv hr
  · rw [if_neg hc173] at hv
    refine XS.icmpNo X.here hx rfl (hb hby d2_173) rfl (flt hc173).1 ?_
    show Steps p.tables e below (T.setTop (mkF m 176 #[.val (.int p1)] [])) _
    refine XS.iloadN X.here hx rfl (hb hby d2_176) rfl ?_
    show Steps p.tables e below (T.setTop (mkF m 177 #[.val (.int p1)] [(.int p1)])) _
    refine X.ldcInt hx hown (mvT hZ (hw _ (List.mem_of_getElem? (i := 30) rfl))) (g := (mkF m 177 #[.val (.int p1)] [(.int p1)])) rfl (hb hby d2_177) _ ?_
    show Steps p.tables e below (T.setTop (mkF m 179 #[.val (.int p1)] [(.int (65007 : Int32)), (.int p1)])) _
    by_cases hc179 : (65007 : Int32) < p1
    · rw [if_pos hc179] at hv
      refine XS.icmpYes X.here hx rfl (pc0 := 179) (pc' := 184) rfl (hb hby d2_179) rfl (tlt hc179).2.2.1 (by decide) (by decide) ?_
      show Steps p.tables e below (T.setTop (mkF m 184 #[.val (.int p1)] [])) _
      exact own_b2_184 X hx hby hown hZ hw hret p1 v hv hr
    · rw [if_neg hc179] at hv
      refine XS.icmpNo X.here hx rfl (hb hby d2_179) rfl (flt hc179).2.2.1 ?_
      show Steps p.tables e below (T.setTop (mkF m 182 #[.val (.int p1)] [])) _
      refine XS.iconst X.here hx rfl (hb hby d2_182) ?_
      show Steps p.tables e below (T.setTop (mkF m 183 #[.val (.int p1)] [(.int (0 : Int32))])) _
      subst hv
      exact retN X hx (t := .boolean) hret (by simp) (hb hby d2_183) hr
def own_f2_156 (p1 : Int32) : Int32 := (if p1 < (55296 : Int32) then own_f2_170 p1 else (if (63743 : Int32) < p1 then own_f2_170 p1 else (0 : Int32)))
set_option maxRecDepth 65536 in
set_option maxHeartbeats 4000000 in
theorem own_b2_156 {p : Program} {l : Launch} {e : Env} {R : Room} {s : State} {m : MethodId} {args : Array Value} {below : List Frame} {meth : Method} {c : Code} {T : State} {locs : List Loc} {cells slots : Nat} {Z : State} {a0 : Array Value} (X : Stand p l e R s m args below meth c T locs cells slots) (hx : p.tables.exec = Jvm.exec) (hby : c.code = method_3_code) (hown : s.vm.findClass "com/example/querent/querent/xdm/XmlCharsIsNameStartCharPinLaw" = some m.cls) (hZ : Z.Warmed39 s.vm) (hw : ∀ d ∈ tables_1, d.before a0 Z = true) (hret : meth.sig.returnType = some .boolean) (p1 : Int32) (v : Int32) (hv : own_f2_156 p1 = v) {fs : List Frame} (hr : ∀ (f : JFrame) (acts : List Action), f.method = m → f.locked = none → f.entered = [] → (doReturn e (T.setTop f) acts (some (.int v))).1 = T.setFrames fs) :
    Steps p.tables e below (T.setTop (mkF m 156 #[.val (.int p1)] [])) (T.setFrames fs) := by
  unfold own_f2_156 at hv
  show Steps p.tables e below (T.setTop (mkF m 156 #[.val (.int p1)] [])) _
  refine XS.iloadN X.here hx rfl (hb hby d2_156) rfl ?_
  show Steps p.tables e below (T.setTop (mkF m 157 #[.val (.int p1)] [(.int p1)])) _
  refine X.ldcInt hx hown (mvT hZ (hw _ (List.mem_of_getElem? (i := 21) rfl))) (g := (mkF m 157 #[.val (.int p1)] [(.int p1)])) rfl (hb hby d2_157) _ ?_
  show Steps p.tables e below (T.setTop (mkF m 159 #[.val (.int p1)] [(.int (55296 : Int32)), (.int p1)])) _
  by_cases hc159 : p1 < (55296 : Int32)
  · rw [if_pos hc159] at hv
    refine XS.icmpYes X.here hx rfl (pc0 := 159) (pc' := 170) rfl (hb hby d2_159) rfl (tlt hc159).1 (by decide) (by decide) ?_
    show Steps p.tables e below (T.setTop (mkF m 170 #[.val (.int p1)] [])) _
    exact own_b2_170 X hx hby hown hZ hw hret p1 v hv hr
  · rw [if_neg hc159] at hv
    refine XS.icmpNo X.here hx rfl (hb hby d2_159) rfl (flt hc159).1 ?_
    show Steps p.tables e below (T.setTop (mkF m 162 #[.val (.int p1)] [])) _
    refine XS.iloadN X.here hx rfl (hb hby d2_162) rfl ?_
    show Steps p.tables e below (T.setTop (mkF m 163 #[.val (.int p1)] [(.int p1)])) _
    refine X.ldcInt hx hown (mvT hZ (hw _ (List.mem_of_getElem? (i := 29) rfl))) (g := (mkF m 163 #[.val (.int p1)] [(.int p1)])) rfl (hb hby d2_163) _ ?_
    show Steps p.tables e below (T.setTop (mkF m 165 #[.val (.int p1)] [(.int (63743 : Int32)), (.int p1)])) _
    by_cases hc165 : (63743 : Int32) < p1
    · rw [if_pos hc165] at hv
      refine XS.icmpYes X.here hx rfl (pc0 := 165) (pc' := 170) rfl (hb hby d2_165) rfl (tlt hc165).2.2.1 (by decide) (by decide) ?_
      show Steps p.tables e below (T.setTop (mkF m 170 #[.val (.int p1)] [])) _
      exact own_b2_170 X hx hby hown hZ hw hret p1 v hv hr
    · rw [if_neg hc165] at hv
      refine XS.icmpNo X.here hx rfl (hb hby d2_165) rfl (flt hc165).2.2.1 ?_
      show Steps p.tables e below (T.setTop (mkF m 168 #[.val (.int p1)] [])) _
      refine XS.iconst X.here hx rfl (hb hby d2_168) ?_
      show Steps p.tables e below (T.setTop (mkF m 169 #[.val (.int p1)] [(.int (0 : Int32))])) _
      subst hv
      exact retN X hx (t := .boolean) hret (by simp) (hb hby d2_169) hr
def own_f2_140 (p1 : Int32) : Int32 := (if p1 < (12272 : Int32) then own_f2_156 p1 else (if (12288 : Int32) < p1 then own_f2_156 p1 else (0 : Int32)))
set_option maxRecDepth 65536 in
set_option maxHeartbeats 4000000 in
theorem own_b2_140 {p : Program} {l : Launch} {e : Env} {R : Room} {s : State} {m : MethodId} {args : Array Value} {below : List Frame} {meth : Method} {c : Code} {T : State} {locs : List Loc} {cells slots : Nat} {Z : State} {a0 : Array Value} (X : Stand p l e R s m args below meth c T locs cells slots) (hx : p.tables.exec = Jvm.exec) (hby : c.code = method_3_code) (hown : s.vm.findClass "com/example/querent/querent/xdm/XmlCharsIsNameStartCharPinLaw" = some m.cls) (hZ : Z.Warmed39 s.vm) (hw : ∀ d ∈ tables_1, d.before a0 Z = true) (hret : meth.sig.returnType = some .boolean) (p1 : Int32) (v : Int32) (hv : own_f2_140 p1 = v) {fs : List Frame} (hr : ∀ (f : JFrame) (acts : List Action), f.method = m → f.locked = none → f.entered = [] → (doReturn e (T.setTop f) acts (some (.int v))).1 = T.setFrames fs) :
    Steps p.tables e below (T.setTop (mkF m 140 #[.val (.int p1)] [])) (T.setFrames fs) := by
  unfold own_f2_140 at hv
  show Steps p.tables e below (T.setTop (mkF m 140 #[.val (.int p1)] [])) _
  refine XS.iloadN X.here hx rfl (hb hby d2_140) rfl ?_
  show Steps p.tables e below (T.setTop (mkF m 141 #[.val (.int p1)] [(.int p1)])) _
  refine XS.sipush X.here hx rfl (hb hby d2_141) ?_
  show Steps p.tables e below (T.setTop (mkF m 144 #[.val (.int p1)] [(.int (12272 : Int32)), (.int p1)])) _
  by_cases hc144 : p1 < (12272 : Int32)
  · rw [if_pos hc144] at hv
    refine XS.icmpYes X.here hx rfl (pc0 := 144) (pc' := 156) rfl (hb hby d2_144) rfl (tlt hc144).1 (by decide) (by decide) ?_
    show Steps p.tables e below (T.setTop (mkF m 156 #[.val (.int p1)] [])) _
    exact own_b2_156 X hx hby hown hZ hw hret p1 v hv hr
  · rw [if_neg hc144] at hv
    refine XS.icmpNo X.here hx rfl (hb hby d2_144) rfl (flt hc144).1 ?_
    show Steps p.tables e below (T.setTop (mkF m 147 #[.val (.int p1)] [])) _
    refine XS.iloadN X.here hx rfl (hb hby d2_147) rfl ?_
    show Steps p.tables e below (T.setTop (mkF m 148 #[.val (.int p1)] [(.int p1)])) _
    refine XS.sipush X.here hx rfl (hb hby d2_148) ?_
    show Steps p.tables e below (T.setTop (mkF m 151 #[.val (.int p1)] [(.int (12288 : Int32)), (.int p1)])) _
    by_cases hc151 : (12288 : Int32) < p1
    · rw [if_pos hc151] at hv
      refine XS.icmpYes X.here hx rfl (pc0 := 151) (pc' := 156) rfl (hb hby d2_151) rfl (tlt hc151).2.2.1 (by decide) (by decide) ?_
      show Steps p.tables e below (T.setTop (mkF m 156 #[.val (.int p1)] [])) _
      exact own_b2_156 X hx hby hown hZ hw hret p1 v hv hr
    · rw [if_neg hc151] at hv
      refine XS.icmpNo X.here hx rfl (hb hby d2_151) rfl (flt hc151).2.2.1 ?_
      show Steps p.tables e below (T.setTop (mkF m 154 #[.val (.int p1)] [])) _
      refine XS.iconst X.here hx rfl (hb hby d2_154) ?_
      show Steps p.tables e below (T.setTop (mkF m 155 #[.val (.int p1)] [(.int (0 : Int32))])) _
      subst hv
      exact retN X hx (t := .boolean) hret (by simp) (hb hby d2_155) hr
def own_f2_124 (p1 : Int32) : Int32 := (if p1 < (8592 : Int32) then own_f2_140 p1 else (if (11263 : Int32) < p1 then own_f2_140 p1 else (0 : Int32)))
set_option maxRecDepth 65536 in
set_option maxHeartbeats 4000000 in
theorem own_b2_124 {p : Program} {l : Launch} {e : Env} {R : Room} {s : State} {m : MethodId} {args : Array Value} {below : List Frame} {meth : Method} {c : Code} {T : State} {locs : List Loc} {cells slots : Nat} {Z : State} {a0 : Array Value} (X : Stand p l e R s m args below meth c T locs cells slots) (hx : p.tables.exec = Jvm.exec) (hby : c.code = method_3_code) (hown : s.vm.findClass "com/example/querent/querent/xdm/XmlCharsIsNameStartCharPinLaw" = some m.cls) (hZ : Z.Warmed39 s.vm) (hw : ∀ d ∈ tables_1, d.before a0 Z = true) (hret : meth.sig.returnType = some .boolean) (p1 : Int32) (v : Int32) (hv : own_f2_124 p1 = v) {fs : List Frame} (hr : ∀ (f : JFrame) (acts : List Action), f.method = m → f.locked = none → f.entered = [] → (doReturn e (T.setTop f) acts (some (.int v))).1 = T.setFrames fs) :
    Steps p.tables e below (T.setTop (mkF m 124 #[.val (.int p1)] [])) (T.setFrames fs) := by
  unfold own_f2_124 at hv
  show Steps p.tables e below (T.setTop (mkF m 124 #[.val (.int p1)] [])) _
  refine XS.iloadN X.here hx rfl (hb hby d2_124) rfl ?_
  show Steps p.tables e below (T.setTop (mkF m 125 #[.val (.int p1)] [(.int p1)])) _
  refine XS.sipush X.here hx rfl (hb hby d2_125) ?_
  show Steps p.tables e below (T.setTop (mkF m 128 #[.val (.int p1)] [(.int (8592 : Int32)), (.int p1)])) _
  by_cases hc128 : p1 < (8592 : Int32)
  · rw [if_pos hc128] at hv
    refine XS.icmpYes X.here hx rfl (pc0 := 128) (pc' := 140) rfl (hb hby d2_128) rfl (tlt hc128).1 (by decide) (by decide) ?_
    show Steps p.tables e below (T.setTop (mkF m 140 #[.val (.int p1)] [])) _
    exact own_b2_140 X hx hby hown hZ hw hret p1 v hv hr
  · rw [if_neg hc128] at hv
    refine XS.icmpNo X.here hx rfl (hb hby d2_128) rfl (flt hc128).1 ?_
    show Steps p.tables e below (T.setTop (mkF m 131 #[.val (.int p1)] [])) _
    refine XS.iloadN X.here hx rfl (hb hby d2_131) rfl ?_
    show Steps p.tables e below (T.setTop (mkF m 132 #[.val (.int p1)] [(.int p1)])) _
    refine XS.sipush X.here hx rfl (hb hby d2_132) ?_
    show Steps p.tables e below (T.setTop (mkF m 135 #[.val (.int p1)] [(.int (11263 : Int32)), (.int p1)])) _
    by_cases hc135 : (11263 : Int32) < p1
    · rw [if_pos hc135] at hv
      refine XS.icmpYes X.here hx rfl (pc0 := 135) (pc' := 140) rfl (hb hby d2_135) rfl (tlt hc135).2.2.1 (by decide) (by decide) ?_
      show Steps p.tables e below (T.setTop (mkF m 140 #[.val (.int p1)] [])) _
      exact own_b2_140 X hx hby hown hZ hw hret p1 v hv hr
    · rw [if_neg hc135] at hv
      refine XS.icmpNo X.here hx rfl (hb hby d2_135) rfl (flt hc135).2.2.1 ?_
      show Steps p.tables e below (T.setTop (mkF m 138 #[.val (.int p1)] [])) _
      refine XS.iconst X.here hx rfl (hb hby d2_138) ?_
      show Steps p.tables e below (T.setTop (mkF m 139 #[.val (.int p1)] [(.int (0 : Int32))])) _
      subst hv
      exact retN X hx (t := .boolean) hret (by simp) (hb hby d2_139) hr
def own_f2_108 (p1 : Int32) : Int32 := (if p1 < (8206 : Int32) then own_f2_124 p1 else (if (8303 : Int32) < p1 then own_f2_124 p1 else (0 : Int32)))
set_option maxRecDepth 65536 in
set_option maxHeartbeats 4000000 in
theorem own_b2_108 {p : Program} {l : Launch} {e : Env} {R : Room} {s : State} {m : MethodId} {args : Array Value} {below : List Frame} {meth : Method} {c : Code} {T : State} {locs : List Loc} {cells slots : Nat} {Z : State} {a0 : Array Value} (X : Stand p l e R s m args below meth c T locs cells slots) (hx : p.tables.exec = Jvm.exec) (hby : c.code = method_3_code) (hown : s.vm.findClass "com/example/querent/querent/xdm/XmlCharsIsNameStartCharPinLaw" = some m.cls) (hZ : Z.Warmed39 s.vm) (hw : ∀ d ∈ tables_1, d.before a0 Z = true) (hret : meth.sig.returnType = some .boolean) (p1 : Int32) (v : Int32) (hv : own_f2_108 p1 = v) {fs : List Frame} (hr : ∀ (f : JFrame) (acts : List Action), f.method = m → f.locked = none → f.entered = [] → (doReturn e (T.setTop f) acts (some (.int v))).1 = T.setFrames fs) :
    Steps p.tables e below (T.setTop (mkF m 108 #[.val (.int p1)] [])) (T.setFrames fs) := by
  unfold own_f2_108 at hv
  show Steps p.tables e below (T.setTop (mkF m 108 #[.val (.int p1)] [])) _
  refine XS.iloadN X.here hx rfl (hb hby d2_108) rfl ?_
  show Steps p.tables e below (T.setTop (mkF m 109 #[.val (.int p1)] [(.int p1)])) _
  refine XS.sipush X.here hx rfl (hb hby d2_109) ?_
  show Steps p.tables e below (T.setTop (mkF m 112 #[.val (.int p1)] [(.int (8206 : Int32)), (.int p1)])) _
  by_cases hc112 : p1 < (8206 : Int32)
  · rw [if_pos hc112] at hv
    refine XS.icmpYes X.here hx rfl (pc0 := 112) (pc' := 124) rfl (hb hby d2_112) rfl (tlt hc112).1 (by decide) (by decide) ?_
    show Steps p.tables e below (T.setTop (mkF m 124 #[.val (.int p1)] [])) _
    exact own_b2_124 X hx hby hown hZ hw hret p1 v hv hr
  · rw [if_neg hc112] at hv
    refine XS.icmpNo X.here hx rfl (hb hby d2_112) rfl (flt hc112).1 ?_
    show Steps p.tables e below (T.setTop (mkF m 115 #[.val (.int p1)] [])) _
    refine XS.iloadN X.here hx rfl (hb hby d2_115) rfl ?_
    show Steps p.tables e below (T.setTop (mkF m 116 #[.val (.int p1)] [(.int p1)])) _
    refine XS.sipush X.here hx rfl (hb hby d2_116) ?_
    show Steps p.tables e below (T.setTop (mkF m 119 #[.val (.int p1)] [(.int (8303 : Int32)), (.int p1)])) _
    by_cases hc119 : (8303 : Int32) < p1
    · rw [if_pos hc119] at hv
      refine XS.icmpYes X.here hx rfl (pc0 := 119) (pc' := 124) rfl (hb hby d2_119) rfl (tlt hc119).2.2.1 (by decide) (by decide) ?_
      show Steps p.tables e below (T.setTop (mkF m 124 #[.val (.int p1)] [])) _
      exact own_b2_124 X hx hby hown hZ hw hret p1 v hv hr
    · rw [if_neg hc119] at hv
      refine XS.icmpNo X.here hx rfl (hb hby d2_119) rfl (flt hc119).2.2.1 ?_
      show Steps p.tables e below (T.setTop (mkF m 122 #[.val (.int p1)] [])) _
      refine XS.iconst X.here hx rfl (hb hby d2_122) ?_
      show Steps p.tables e below (T.setTop (mkF m 123 #[.val (.int p1)] [(.int (0 : Int32))])) _
      subst hv
      exact retN X hx (t := .boolean) hret (by simp) (hb hby d2_123) hr
def own_f2_83 (p1 : Int32) : Int32 := (if p1 = (894 : Int32) then (0 : Int32) else (if p1 < (8192 : Int32) then own_f2_108 p1 else (if (8203 : Int32) < p1 then own_f2_108 p1 else (0 : Int32))))
set_option maxRecDepth 65536 in
set_option maxHeartbeats 4000000 in
theorem own_b2_83 {p : Program} {l : Launch} {e : Env} {R : Room} {s : State} {m : MethodId} {args : Array Value} {below : List Frame} {meth : Method} {c : Code} {T : State} {locs : List Loc} {cells slots : Nat} {Z : State} {a0 : Array Value} (X : Stand p l e R s m args below meth c T locs cells slots) (hx : p.tables.exec = Jvm.exec) (hby : c.code = method_3_code) (hown : s.vm.findClass "com/example/querent/querent/xdm/XmlCharsIsNameStartCharPinLaw" = some m.cls) (hZ : Z.Warmed39 s.vm) (hw : ∀ d ∈ tables_1, d.before a0 Z = true) (hret : meth.sig.returnType = some .boolean) (p1 : Int32) (v : Int32) (hv : own_f2_83 p1 = v) {fs : List Frame} (hr : ∀ (f : JFrame) (acts : List Action), f.method = m → f.locked = none → f.entered = [] → (doReturn e (T.setTop f) acts (some (.int v))).1 = T.setFrames fs) :
    Steps p.tables e below (T.setTop (mkF m 83 #[.val (.int p1)] [])) (T.setFrames fs) := by
  unfold own_f2_83 at hv
  show Steps p.tables e below (T.setTop (mkF m 83 #[.val (.int p1)] [])) _
  refine XS.iloadN X.here hx rfl (hb hby d2_83) rfl ?_
  show Steps p.tables e below (T.setTop (mkF m 84 #[.val (.int p1)] [(.int p1)])) _
  refine XS.sipush X.here hx rfl (hb hby d2_84) ?_
  show Steps p.tables e below (T.setTop (mkF m 87 #[.val (.int p1)] [(.int (894 : Int32)), (.int p1)])) _
  by_cases hc87 : p1 = (894 : Int32)
  · rw [if_pos hc87] at hv
    refine XS.icmpNo X.here hx rfl (hb hby d2_87) rfl (teq hc87).2 ?_
    show Steps p.tables e below (T.setTop (mkF m 90 #[.val (.int p1)] [])) _
    refine XS.iconst X.here hx rfl (hb hby d2_90) ?_
    show Steps p.tables e below (T.setTop (mkF m 91 #[.val (.int p1)] [(.int (0 : Int32))])) _
    subst hv
    exact retN X hx (t := .boolean) hret (by simp) (hb hby d2_91) hr
  · rw [if_neg hc87] at hv
    refine XS.icmpYes X.here hx rfl (pc0 := 87) (pc' := 92) rfl (hb hby d2_87) rfl (feq hc87).2 (by decide) (by decide) ?_
    show Steps p.tables e below (T.setTop (mkF m 92 #[.val (.int p1)] [])) _
    refine XS.iloadN X.here hx rfl (hb hby d2_92) rfl ?_
    show Steps p.tables e below (T.setTop (mkF m 93 #[.val (.int p1)] [(.int p1)])) _
    refine XS.sipush X.here hx rfl (hb hby d2_93) ?_
    show Steps p.tables e below (T.setTop (mkF m 96 #[.val (.int p1)] [(.int (8192 : Int32)), (.int p1)])) _
    by_cases hc96 : p1 < (8192 : Int32)
    · rw [if_pos hc96] at hv
      refine XS.icmpYes X.here hx rfl (pc0 := 96) (pc' := 108) rfl (hb hby d2_96) rfl (tlt hc96).1 (by decide) (by decide) ?_
      show Steps p.tables e below (T.setTop (mkF m 108 #[.val (.int p1)] [])) _
      exact own_b2_108 X hx hby hown hZ hw hret p1 v hv hr
    · rw [if_neg hc96] at hv
      refine XS.icmpNo X.here hx rfl (hb hby d2_96) rfl (flt hc96).1 ?_
      show Steps p.tables e below (T.setTop (mkF m 99 #[.val (.int p1)] [])) _
      refine XS.iloadN X.here hx rfl (hb hby d2_99) rfl ?_
      show Steps p.tables e below (T.setTop (mkF m 100 #[.val (.int p1)] [(.int p1)])) _
      refine XS.sipush X.here hx rfl (hb hby d2_100) ?_
      show Steps p.tables e below (T.setTop (mkF m 103 #[.val (.int p1)] [(.int (8203 : Int32)), (.int p1)])) _
      by_cases hc103 : (8203 : Int32) < p1
      · rw [if_pos hc103] at hv
        refine XS.icmpYes X.here hx rfl (pc0 := 103) (pc' := 108) rfl (hb hby d2_103) rfl (tlt hc103).2.2.1 (by decide) (by decide) ?_
        show Steps p.tables e below (T.setTop (mkF m 108 #[.val (.int p1)] [])) _
        exact own_b2_108 X hx hby hown hZ hw hret p1 v hv hr
      · rw [if_neg hc103] at hv
        refine XS.icmpNo X.here hx rfl (hb hby d2_103) rfl (flt hc103).2.2.1 ?_
        show Steps p.tables e below (T.setTop (mkF m 106 #[.val (.int p1)] [])) _
        refine XS.iconst X.here hx rfl (hb hby d2_106) ?_
        show Steps p.tables e below (T.setTop (mkF m 107 #[.val (.int p1)] [(.int (0 : Int32))])) _
        subst hv
        exact retN X hx (t := .boolean) hret (by simp) (hb hby d2_107) hr
def own_f2_65 (p1 : Int32) : Int32 := (0 : Int32)
set_option maxRecDepth 65536 in
set_option maxHeartbeats 4000000 in
theorem own_b2_65 {p : Program} {l : Launch} {e : Env} {R : Room} {s : State} {m : MethodId} {args : Array Value} {below : List Frame} {meth : Method} {c : Code} {T : State} {locs : List Loc} {cells slots : Nat} {Z : State} {a0 : Array Value} (X : Stand p l e R s m args below meth c T locs cells slots) (hx : p.tables.exec = Jvm.exec) (hby : c.code = method_3_code) (hown : s.vm.findClass "com/example/querent/querent/xdm/XmlCharsIsNameStartCharPinLaw" = some m.cls) (hZ : Z.Warmed39 s.vm) (hw : ∀ d ∈ tables_1, d.before a0 Z = true) (hret : meth.sig.returnType = some .boolean) (p1 : Int32) (v : Int32) (hv : own_f2_65 p1 = v) {fs : List Frame} (hr : ∀ (f : JFrame) (acts : List Action), f.method = m → f.locked = none → f.entered = [] → (doReturn e (T.setTop f) acts (some (.int v))).1 = T.setFrames fs) :
    Steps p.tables e below (T.setTop (mkF m 65 #[.val (.int p1)] [])) (T.setFrames fs) := by
  unfold own_f2_65 at hv
  show Steps p.tables e below (T.setTop (mkF m 65 #[.val (.int p1)] [])) _
  refine XS.iconst X.here hx rfl (hb hby d2_65) ?_
  show Steps p.tables e below (T.setTop (mkF m 66 #[.val (.int p1)] [(.int (0 : Int32))])) _
  subst hv
  exact retN X hx (t := .boolean) hret (by simp) (hb hby d2_66) hr
def own_f2_51 (p1 : Int32) : Int32 := (if p1 = (215 : Int32) then own_f2_65 p1 else (if p1 = (247 : Int32) then own_f2_65 p1 else (if p1 < (768 : Int32) then own_f2_83 p1 else (if (879 : Int32) < p1 then own_f2_83 p1 else (0 : Int32)))))
set_option maxRecDepth 65536 in
set_option maxHeartbeats 4000000 in
theorem own_b2_51 {p : Program} {l : Launch} {e : Env} {R : Room} {s : State} {m : MethodId} {args : Array Value} {below : List Frame} {meth : Method} {c : Code} {T : State} {locs : List Loc} {cells slots : Nat} {Z : State} {a0 : Array Value} (X : Stand p l e R s m args below meth c T locs cells slots) (hx : p.tables.exec = Jvm.exec) (hby : c.code = method_3_code) (hown : s.vm.findClass "com/example/querent/querent/xdm/XmlCharsIsNameStartCharPinLaw" = some m.cls) (hZ : Z.Warmed39 s.vm) (hw : ∀ d ∈ tables_1, d.before a0 Z = true) (hret : meth.sig.returnType = some .boolean) (p1 : Int32) (v : Int32) (hv : own_f2_51 p1 = v) {fs : List Frame} (hr : ∀ (f : JFrame) (acts : List Action), f.method = m → f.locked = none → f.entered = [] → (doReturn e (T.setTop f) acts (some (.int v))).1 = T.setFrames fs) :
    Steps p.tables e below (T.setTop (mkF m 51 #[.val (.int p1)] [])) (T.setFrames fs) := by
  unfold own_f2_51 at hv
  show Steps p.tables e below (T.setTop (mkF m 51 #[.val (.int p1)] [])) _
  refine XS.iloadN X.here hx rfl (hb hby d2_51) rfl ?_
  show Steps p.tables e below (T.setTop (mkF m 52 #[.val (.int p1)] [(.int p1)])) _
  refine XS.sipush X.here hx rfl (hb hby d2_52) ?_
  show Steps p.tables e below (T.setTop (mkF m 55 #[.val (.int p1)] [(.int (215 : Int32)), (.int p1)])) _
  by_cases hc55 : p1 = (215 : Int32)
  · rw [if_pos hc55] at hv
    refine XS.icmpYes X.here hx rfl (pc0 := 55) (pc' := 65) rfl (hb hby d2_55) rfl (teq hc55).1 (by decide) (by decide) ?_
    show Steps p.tables e below (T.setTop (mkF m 65 #[.val (.int p1)] [])) _
    exact own_b2_65 X hx hby hown hZ hw hret p1 v hv hr
  · rw [if_neg hc55] at hv
    refine XS.icmpNo X.here hx rfl (hb hby d2_55) rfl (feq hc55).1 ?_
    show Steps p.tables e below (T.setTop (mkF m 58 #[.val (.int p1)] [])) _
    refine XS.iloadN X.here hx rfl (hb hby d2_58) rfl ?_
    show Steps p.tables e below (T.setTop (mkF m 59 #[.val (.int p1)] [(.int p1)])) _
    refine XS.sipush X.here hx rfl (hb hby d2_59) ?_
    show Steps p.tables e below (T.setTop (mkF m 62 #[.val (.int p1)] [(.int (247 : Int32)), (.int p1)])) _
    by_cases hc62 : p1 = (247 : Int32)
    · rw [if_pos hc62] at hv
      refine XS.icmpNo X.here hx rfl (hb hby d2_62) rfl (teq hc62).2 ?_
      show Steps p.tables e below (T.setTop (mkF m 65 #[.val (.int p1)] [])) _
      exact own_b2_65 X hx hby hown hZ hw hret p1 v hv hr
    · rw [if_neg hc62] at hv
      refine XS.icmpYes X.here hx rfl (pc0 := 62) (pc' := 67) rfl (hb hby d2_62) rfl (feq hc62).2 (by decide) (by decide) ?_
      show Steps p.tables e below (T.setTop (mkF m 67 #[.val (.int p1)] [])) _
      refine XS.iloadN X.here hx rfl (hb hby d2_67) rfl ?_
      show Steps p.tables e below (T.setTop (mkF m 68 #[.val (.int p1)] [(.int p1)])) _
      refine XS.sipush X.here hx rfl (hb hby d2_68) ?_
      show Steps p.tables e below (T.setTop (mkF m 71 #[.val (.int p1)] [(.int (768 : Int32)), (.int p1)])) _
      by_cases hc71 : p1 < (768 : Int32)
      · rw [if_pos hc71] at hv
        refine XS.icmpYes X.here hx rfl (pc0 := 71) (pc' := 83) rfl (hb hby d2_71) rfl (tlt hc71).1 (by decide) (by decide) ?_
        show Steps p.tables e below (T.setTop (mkF m 83 #[.val (.int p1)] [])) _
        exact own_b2_83 X hx hby hown hZ hw hret p1 v hv hr
      · rw [if_neg hc71] at hv
        refine XS.icmpNo X.here hx rfl (hb hby d2_71) rfl (flt hc71).1 ?_
        show Steps p.tables e below (T.setTop (mkF m 74 #[.val (.int p1)] [])) _
        refine XS.iloadN X.here hx rfl (hb hby d2_74) rfl ?_
        show Steps p.tables e below (T.setTop (mkF m 75 #[.val (.int p1)] [(.int p1)])) _
        refine XS.sipush X.here hx rfl (hb hby d2_75) ?_
        show Steps p.tables e below (T.setTop (mkF m 78 #[.val (.int p1)] [(.int (879 : Int32)), (.int p1)])) _
        by_cases hc78 : (879 : Int32) < p1
        · rw [if_pos hc78] at hv
          refine XS.icmpYes X.here hx rfl (pc0 := 78) (pc' := 83) rfl (hb hby d2_78) rfl (tlt hc78).2.2.1 (by decide) (by decide) ?_
          show Steps p.tables e below (T.setTop (mkF m 83 #[.val (.int p1)] [])) _
          exact own_b2_83 X hx hby hown hZ hw hret p1 v hv hr
        · rw [if_neg hc78] at hv
          refine XS.icmpNo X.here hx rfl (hb hby d2_78) rfl (flt hc78).2.2.1 ?_
          show Steps p.tables e below (T.setTop (mkF m 81 #[.val (.int p1)] [])) _
          refine XS.iconst X.here hx rfl (hb hby d2_81) ?_
          show Steps p.tables e below (T.setTop (mkF m 82 #[.val (.int p1)] [(.int (0 : Int32))])) _
          subst hv
          exact retN X hx (t := .boolean) hret (by simp) (hb hby d2_82) hr
def own_f2_28 (p1 : Int32) : Int32 := (if p1 = (96 : Int32) then (0 : Int32) else (if p1 < (123 : Int32) then own_f2_51 p1 else (if (191 : Int32) < p1 then own_f2_51 p1 else (0 : Int32))))
set_option maxRecDepth 65536 in
set_option maxHeartbeats 4000000 in
theorem own_b2_28 {p : Program} {l : Launch} {e : Env} {R : Room} {s : State} {m : MethodId} {args : Array Value} {below : List Frame} {meth : Method} {c : Code} {T : State} {locs : List Loc} {cells slots : Nat} {Z : State} {a0 : Array Value} (X : Stand p l e R s m args below meth c T locs cells slots) (hx : p.tables.exec = Jvm.exec) (hby : c.code = method_3_code) (hown : s.vm.findClass "com/example/querent/querent/xdm/XmlCharsIsNameStartCharPinLaw" = some m.cls) (hZ : Z.Warmed39 s.vm) (hw : ∀ d ∈ tables_1, d.before a0 Z = true) (hret : meth.sig.returnType = some .boolean) (p1 : Int32) (v : Int32) (hv : own_f2_28 p1 = v) {fs : List Frame} (hr : ∀ (f : JFrame) (acts : List Action), f.method = m → f.locked = none → f.entered = [] → (doReturn e (T.setTop f) acts (some (.int v))).1 = T.setFrames fs) :
    Steps p.tables e below (T.setTop (mkF m 28 #[.val (.int p1)] [])) (T.setFrames fs) := by
  unfold own_f2_28 at hv
  show Steps p.tables e below (T.setTop (mkF m 28 #[.val (.int p1)] [])) _
  refine XS.iloadN X.here hx rfl (hb hby d2_28) rfl ?_
  show Steps p.tables e below (T.setTop (mkF m 29 #[.val (.int p1)] [(.int p1)])) _
  refine XS.bipush X.here hx rfl (hb hby d2_29) ?_
  show Steps p.tables e below (T.setTop (mkF m 31 #[.val (.int p1)] [(.int (96 : Int32)), (.int p1)])) _
  by_cases hc31 : p1 = (96 : Int32)
  · rw [if_pos hc31] at hv
    refine XS.icmpNo X.here hx rfl (hb hby d2_31) rfl (teq hc31).2 ?_
    show Steps p.tables e below (T.setTop (mkF m 34 #[.val (.int p1)] [])) _
    refine XS.iconst X.here hx rfl (hb hby d2_34) ?_
    show Steps p.tables e below (T.setTop (mkF m 35 #[.val (.int p1)] [(.int (0 : Int32))])) _
    subst hv
    exact retN X hx (t := .boolean) hret (by simp) (hb hby d2_35) hr
  · rw [if_neg hc31] at hv
    refine XS.icmpYes X.here hx rfl (pc0 := 31) (pc' := 36) rfl (hb hby d2_31) rfl (feq hc31).2 (by decide) (by decide) ?_
    show Steps p.tables e below (T.setTop (mkF m 36 #[.val (.int p1)] [])) _
    refine XS.iloadN X.here hx rfl (hb hby d2_36) rfl ?_
    show Steps p.tables e below (T.setTop (mkF m 37 #[.val (.int p1)] [(.int p1)])) _
    refine XS.bipush X.here hx rfl (hb hby d2_37) ?_
    show Steps p.tables e below (T.setTop (mkF m 39 #[.val (.int p1)] [(.int (123 : Int32)), (.int p1)])) _
    by_cases hc39 : p1 < (123 : Int32)
    · rw [if_pos hc39] at hv
      refine XS.icmpYes X.here hx rfl (pc0 := 39) (pc' := 51) rfl (hb hby d2_39) rfl (tlt hc39).1 (by decide) (by decide) ?_
      show Steps p.tables e below (T.setTop (mkF m 51 #[.val (.int p1)] [])) _
      exact own_b2_51 X hx hby hown hZ hw hret p1 v hv hr
    · rw [if_neg hc39] at hv
      refine XS.icmpNo X.here hx rfl (hb hby d2_39) rfl (flt hc39).1 ?_
      show Steps p.tables e below (T.setTop (mkF m 42 #[.val (.int p1)] [])) _
      refine XS.iloadN X.here hx rfl (hb hby d2_42) rfl ?_
      show Steps p.tables e below (T.setTop (mkF m 43 #[.val (.int p1)] [(.int p1)])) _
      refine XS.sipush X.here hx rfl (hb hby d2_43) ?_
      show Steps p.tables e below (T.setTop (mkF m 46 #[.val (.int p1)] [(.int (191 : Int32)), (.int p1)])) _
      by_cases hc46 : (191 : Int32) < p1
      · rw [if_pos hc46] at hv
        refine XS.icmpYes X.here hx rfl (pc0 := 46) (pc' := 51) rfl (hb hby d2_46) rfl (tlt hc46).2.2.1 (by decide) (by decide) ?_
        show Steps p.tables e below (T.setTop (mkF m 51 #[.val (.int p1)] [])) _
        exact own_b2_51 X hx hby hown hZ hw hret p1 v hv hr
      · rw [if_neg hc46] at hv
        refine XS.icmpNo X.here hx rfl (hb hby d2_46) rfl (flt hc46).2.2.1 ?_
        show Steps p.tables e below (T.setTop (mkF m 49 #[.val (.int p1)] [])) _
        refine XS.iconst X.here hx rfl (hb hby d2_49) ?_
        show Steps p.tables e below (T.setTop (mkF m 50 #[.val (.int p1)] [(.int (0 : Int32))])) _
        subst hv
        exact retN X hx (t := .boolean) hret (by simp) (hb hby d2_50) hr
def own_f2_12 (p1 : Int32) : Int32 := (0 : Int32)
set_option maxRecDepth 65536 in
set_option maxHeartbeats 4000000 in
theorem own_b2_12 {p : Program} {l : Launch} {e : Env} {R : Room} {s : State} {m : MethodId} {args : Array Value} {below : List Frame} {meth : Method} {c : Code} {T : State} {locs : List Loc} {cells slots : Nat} {Z : State} {a0 : Array Value} (X : Stand p l e R s m args below meth c T locs cells slots) (hx : p.tables.exec = Jvm.exec) (hby : c.code = method_3_code) (hown : s.vm.findClass "com/example/querent/querent/xdm/XmlCharsIsNameStartCharPinLaw" = some m.cls) (hZ : Z.Warmed39 s.vm) (hw : ∀ d ∈ tables_1, d.before a0 Z = true) (hret : meth.sig.returnType = some .boolean) (p1 : Int32) (v : Int32) (hv : own_f2_12 p1 = v) {fs : List Frame} (hr : ∀ (f : JFrame) (acts : List Action), f.method = m → f.locked = none → f.entered = [] → (doReturn e (T.setTop f) acts (some (.int v))).1 = T.setFrames fs) :
    Steps p.tables e below (T.setTop (mkF m 12 #[.val (.int p1)] [])) (T.setFrames fs) := by
  unfold own_f2_12 at hv
  show Steps p.tables e below (T.setTop (mkF m 12 #[.val (.int p1)] [])) _
  refine XS.iconst X.here hx rfl (hb hby d2_12) ?_
  show Steps p.tables e below (T.setTop (mkF m 13 #[.val (.int p1)] [(.int (0 : Int32))])) _
  subst hv
  exact retN X hx (t := .boolean) hret (by simp) (hb hby d2_13) hr
def own_f2_0 (p1 : Int32) : Int32 := (if p1 < (65 : Int32) then own_f2_12 p1 else (if (983039 : Int32) < p1 then own_f2_12 p1 else (if p1 < (91 : Int32) then own_f2_28 p1 else (if (94 : Int32) < p1 then own_f2_28 p1 else (0 : Int32)))))
set_option maxRecDepth 65536 in
set_option maxHeartbeats 4000000 in
theorem own_b2_0 {p : Program} {l : Launch} {e : Env} {R : Room} {s : State} {m : MethodId} {args : Array Value} {below : List Frame} {meth : Method} {c : Code} {T : State} {locs : List Loc} {cells slots : Nat} {Z : State} {a0 : Array Value} (X : Stand p l e R s m args below meth c T locs cells slots) (hx : p.tables.exec = Jvm.exec) (hby : c.code = method_3_code) (hown : s.vm.findClass "com/example/querent/querent/xdm/XmlCharsIsNameStartCharPinLaw" = some m.cls) (hZ : Z.Warmed39 s.vm) (hw : ∀ d ∈ tables_1, d.before a0 Z = true) (hret : meth.sig.returnType = some .boolean) (p1 : Int32) (v : Int32) (hv : own_f2_0 p1 = v) {fs : List Frame} (hr : ∀ (f : JFrame) (acts : List Action), f.method = m → f.locked = none → f.entered = [] → (doReturn e (T.setTop f) acts (some (.int v))).1 = T.setFrames fs) :
    Steps p.tables e below (T.setTop (mkF m 0 #[.val (.int p1)] [])) (T.setFrames fs) := by
  unfold own_f2_0 at hv
  show Steps p.tables e below (T.setTop (mkF m 0 #[.val (.int p1)] [])) _
  refine XS.iloadN X.here hx rfl (hb hby d2_0) rfl ?_
  show Steps p.tables e below (T.setTop (mkF m 1 #[.val (.int p1)] [(.int p1)])) _
  refine XS.bipush X.here hx rfl (hb hby d2_1) ?_
  show Steps p.tables e below (T.setTop (mkF m 3 #[.val (.int p1)] [(.int (65 : Int32)), (.int p1)])) _
  by_cases hc3 : p1 < (65 : Int32)
  · rw [if_pos hc3] at hv
    refine XS.icmpYes X.here hx rfl (pc0 := 3) (pc' := 12) rfl (hb hby d2_3) rfl (tlt hc3).1 (by decide) (by decide) ?_
    show Steps p.tables e below (T.setTop (mkF m 12 #[.val (.int p1)] [])) _
    exact own_b2_12 X hx hby hown hZ hw hret p1 v hv hr
  · rw [if_neg hc3] at hv
    refine XS.icmpNo X.here hx rfl (hb hby d2_3) rfl (flt hc3).1 ?_
    show Steps p.tables e below (T.setTop (mkF m 6 #[.val (.int p1)] [])) _
    refine XS.iloadN X.here hx rfl (hb hby d2_6) rfl ?_
    show Steps p.tables e below (T.setTop (mkF m 7 #[.val (.int p1)] [(.int p1)])) _
    refine X.ldcInt hx hown (mvT hZ (hw _ (List.mem_of_getElem? (i := 7) rfl))) (g := (mkF m 7 #[.val (.int p1)] [(.int p1)])) rfl (hb hby d2_7) _ ?_
    show Steps p.tables e below (T.setTop (mkF m 9 #[.val (.int p1)] [(.int (983039 : Int32)), (.int p1)])) _
    by_cases hc9 : (983039 : Int32) < p1
    · rw [if_pos hc9] at hv
      refine XS.icmpNo X.here hx rfl (hb hby d2_9) rfl (tlt hc9).2.2.2 ?_
      show Steps p.tables e below (T.setTop (mkF m 12 #[.val (.int p1)] [])) _
      exact own_b2_12 X hx hby hown hZ hw hret p1 v hv hr
    · rw [if_neg hc9] at hv
      refine XS.icmpYes X.here hx rfl (pc0 := 9) (pc' := 14) rfl (hb hby d2_9) rfl (flt hc9).2.2.2 (by decide) (by decide) ?_
      show Steps p.tables e below (T.setTop (mkF m 14 #[.val (.int p1)] [])) _
      refine XS.iloadN X.here hx rfl (hb hby d2_14) rfl ?_
      show Steps p.tables e below (T.setTop (mkF m 15 #[.val (.int p1)] [(.int p1)])) _
      refine XS.bipush X.here hx rfl (hb hby d2_15) ?_
      show Steps p.tables e below (T.setTop (mkF m 17 #[.val (.int p1)] [(.int (91 : Int32)), (.int p1)])) _
      by_cases hc17 : p1 < (91 : Int32)
      · rw [if_pos hc17] at hv
        refine XS.icmpYes X.here hx rfl (pc0 := 17) (pc' := 28) rfl (hb hby d2_17) rfl (tlt hc17).1 (by decide) (by decide) ?_
        show Steps p.tables e below (T.setTop (mkF m 28 #[.val (.int p1)] [])) _
        exact own_b2_28 X hx hby hown hZ hw hret p1 v hv hr
      · rw [if_neg hc17] at hv
        refine XS.icmpNo X.here hx rfl (hb hby d2_17) rfl (flt hc17).1 ?_
        show Steps p.tables e below (T.setTop (mkF m 20 #[.val (.int p1)] [])) _
        refine XS.iloadN X.here hx rfl (hb hby d2_20) rfl ?_
        show Steps p.tables e below (T.setTop (mkF m 21 #[.val (.int p1)] [(.int p1)])) _
        refine XS.bipush X.here hx rfl (hb hby d2_21) ?_
        show Steps p.tables e below (T.setTop (mkF m 23 #[.val (.int p1)] [(.int (94 : Int32)), (.int p1)])) _
        by_cases hc23 : (94 : Int32) < p1
        · rw [if_pos hc23] at hv
          refine XS.icmpYes X.here hx rfl (pc0 := 23) (pc' := 28) rfl (hb hby d2_23) rfl (tlt hc23).2.2.1 (by decide) (by decide) ?_
          show Steps p.tables e below (T.setTop (mkF m 28 #[.val (.int p1)] [])) _
          exact own_b2_28 X hx hby hown hZ hw hret p1 v hv hr
        · rw [if_neg hc23] at hv
          refine XS.icmpNo X.here hx rfl (hb hby d2_23) rfl (flt hc23).2.2.1 ?_
          show Steps p.tables e below (T.setTop (mkF m 26 #[.val (.int p1)] [])) _
          refine XS.iconst X.here hx rfl (hb hby d2_26) ?_
          show Steps p.tables e below (T.setTop (mkF m 27 #[.val (.int p1)] [(.int (0 : Int32))])) _
          subst hv
          exact retN X hx (t := .boolean) hret (by simp) (hb hby d2_27) hr
theorem ef_2 (m : MethodId) (x0 : Int32) : entryFrame m #[(.int x0)] 1 = mkF m 0 #[.val (.int x0)] [] := by first | (simp [entryFrame, mkF, argsToLocals, Value.category, maxLocals]; done) | rfl
theorem pn_2 : plainName "com/example/querent/querent/xdm/XmlCharsIsNameStartCharPinLaw" = true := by first | (simp [plainName, overriddenIn]; done) | decide +kernel
def Q_rm2 (Z : State) (p1 : Int32)  (h0 : Heap) (n0 : Nat) (v : Option Value) (h : Heap) (L : List Loc) : Prop := v = some (.int (own_f2_0 p1)) ∧ Fr n0 L ∧ h = h0
set_option maxRecDepth 65536 in
set_option maxHeartbeats 40000000 in
theorem rm2 (l : Launch) (Z : State) (a0 : Array Value) (hw : ∀ d ∈ tables_1, d.before a0 Z = true) (ws : List Jvm.Cond) (p1 : Int32)  (h0 : Heap) (n0 : Nat) (Z0 : n0 ≤ h0.size)  :
    MetFree l (⟨"com/example/querent/querent/xdm/XmlCharsIsNameStartCharPinLaw", "ref", "(I)Z"⟩ : MethodName) (head1 (Jvm.Cond.code (⟨"com/example/querent/querent/xdm/XmlCharsIsNameStartCharPinLaw", "ref", "(I)Z"⟩ : MethodName) method_3_code 1 (some .boolean) :: ws) ({ frames := 0, cells := 0, slots := 0, locals := 0 } : Room)) (fun a U => a = #[(.int p1)] ∧ Z.Warmed39 U.vm ∧ U.heap = h0) (fun _ _ _ _ _ => True) (fun _ U o U' => ∃ v L, o = .returned v ∧ Q_rm2 Z p1  h0 n0 v U'.heap L ∧ FrameEnd U o U' L ({ frames := 0, cells := 0, slots := 0, locals := 0 } : Room).cells ({ frames := 0, cells := 0, slots := 0, locals := 0 } : Room).slots) := by
  refine MetFree.of_bodySF (plainFor_of_name pn_2) hisR ?_
  intro p e s m args below meth c s₁ Bd hml0 hP hK
  obtain ⟨rfl, hZ, hh⟩ := hP
  have hx := Bd.exec
  have hby := Bd.bytes
  have hml : c.maxLocals = 1 := hml0
  have hown : s.vm.findClass "com/example/querent/querent/xdm/XmlCharsIsNameStartCharPinLaw" = some m.cls := findClass_of_methodNamed Bd.named
  have hnm := (name_of_methodNamed Bd.named Bd.method).1
  have X0 : Stand p l e ({ frames := 0, cells := 0, slots := 0, locals := 0 } : Room) s m #[(.int p1)] below meth c s₁ [] 0 0 := Stand.of_body Bd
  have e0 : s₁.heap = h0 := by rw [← hh, Bd.state]; rfl
  have N0 := Fr.nil n0
  have pre0 : ∀ t, Steps p.tables e below (s₁.setTop (mkF m 0 #[.val (.int p1)] [])) t → Steps p.tables e below (s₁.setTop (entryFrame m #[(.int p1)] 1)) t := fun t k => castTop (ef_2 m p1) k
  obtain ⟨fs, hr, hrun, hended, hW, hsame⟩ := X0.leave (v := some (.int (own_f2_0 p1))) (fun h => by rw [Bd.returns] at h; cases h) Bd.notSynchronized
  refine ⟨_, _, pre0 _ ?_, hrun, hended, _, _, rfl, ?_, ⟨_, rfl⟩, hW, hsame.mono (by decide) (by decide)⟩
  · exact own_b2_0 X0 hx hby hown hZ hw Bd.returns p1 _ rfl hr
  · exact ⟨rfl, N0, e0⟩
theorem own_f2_196_spec (x : Int32) : own_f2_196 x = if False then (1 : Int32) else (0 : Int32) := by
  have b1 := Int32.le_toInt x
  have b2 := Int32.toInt_lt x
  unfold own_f2_196
  simp only [Int32.lt_iff_toInt_lt, ← Int32.toInt_inj, Int32.reduceToInt, if_true, if_false]
  repeat' split
  all_goals first | (exfalso; omega) | rfl
theorem own_f2_184_spec (x : Int32) : own_f2_184 x = if x.toInt ≤ 65533 ∨ 65536 ≤ x.toInt then (1 : Int32) else (0 : Int32) := by
  have b1 := Int32.le_toInt x
  have b2 := Int32.toInt_lt x
  unfold own_f2_184
  simp only [own_f2_196_spec, Int32.lt_iff_toInt_lt, ← Int32.toInt_inj, Int32.reduceToInt, if_true, if_false]
  repeat' split
  all_goals first | (exfalso; omega) | rfl
theorem own_f2_170_spec (x : Int32) : own_f2_170 x = if x.toInt ≤ 64975 ∨ (65008 ≤ x.toInt ∧ x.toInt ≤ 65533) ∨ 65536 ≤ x.toInt then (1 : Int32) else (0 : Int32) := by
  have b1 := Int32.le_toInt x
  have b2 := Int32.toInt_lt x
  unfold own_f2_170
  simp only [own_f2_184_spec, Int32.lt_iff_toInt_lt, ← Int32.toInt_inj, Int32.reduceToInt, if_true, if_false]
  repeat' split
  all_goals first | (exfalso; omega) | rfl
theorem own_f2_156_spec (x : Int32) : own_f2_156 x = if x.toInt ≤ 55295 ∨ (63744 ≤ x.toInt ∧ x.toInt ≤ 64975) ∨ (65008 ≤ x.toInt ∧ x.toInt ≤ 65533) ∨ 65536 ≤ x.toInt then (1 : Int32) else (0 : Int32) := by
  have b1 := Int32.le_toInt x
  have b2 := Int32.toInt_lt x
  unfold own_f2_156
  simp only [own_f2_170_spec, Int32.lt_iff_toInt_lt, ← Int32.toInt_inj, Int32.reduceToInt, if_true, if_false]
  repeat' split
  all_goals first | (exfalso; omega) | rfl
theorem own_f2_140_spec (x : Int32) : own_f2_140 x = if x.toInt ≤ 12271 ∨ (12289 ≤ x.toInt ∧ x.toInt ≤ 55295) ∨ (63744 ≤ x.toInt ∧ x.toInt ≤ 64975) ∨ (65008 ≤ x.toInt ∧ x.toInt ≤ 65533) ∨ 65536 ≤ x.toInt then (1 : Int32) else (0 : Int32) := by
  have b1 := Int32.le_toInt x
  have b2 := Int32.toInt_lt x
  unfold own_f2_140
  simp only [own_f2_156_spec, Int32.lt_iff_toInt_lt, ← Int32.toInt_inj, Int32.reduceToInt, if_true, if_false]
  repeat' split
  all_goals first | (exfalso; omega) | rfl
theorem own_f2_124_spec (x : Int32) : own_f2_124 x = if x.toInt ≤ 8591 ∨ (11264 ≤ x.toInt ∧ x.toInt ≤ 12271) ∨ (12289 ≤ x.toInt ∧ x.toInt ≤ 55295) ∨ (63744 ≤ x.toInt ∧ x.toInt ≤ 64975) ∨ (65008 ≤ x.toInt ∧ x.toInt ≤ 65533) ∨ 65536 ≤ x.toInt then (1 : Int32) else (0 : Int32) := by
  have b1 := Int32.le_toInt x
  have b2 := Int32.toInt_lt x
  unfold own_f2_124
  simp only [own_f2_140_spec, Int32.lt_iff_toInt_lt, ← Int32.toInt_inj, Int32.reduceToInt, if_true, if_false]
  repeat' split
  all_goals first | (exfalso; omega) | rfl
theorem own_f2_108_spec (x : Int32) : own_f2_108 x = if x.toInt ≤ 8205 ∨ (8304 ≤ x.toInt ∧ x.toInt ≤ 8591) ∨ (11264 ≤ x.toInt ∧ x.toInt ≤ 12271) ∨ (12289 ≤ x.toInt ∧ x.toInt ≤ 55295) ∨ (63744 ≤ x.toInt ∧ x.toInt ≤ 64975) ∨ (65008 ≤ x.toInt ∧ x.toInt ≤ 65533) ∨ 65536 ≤ x.toInt then (1 : Int32) else (0 : Int32) := by
  have b1 := Int32.le_toInt x
  have b2 := Int32.toInt_lt x
  unfold own_f2_108
  simp only [own_f2_124_spec, Int32.lt_iff_toInt_lt, ← Int32.toInt_inj, Int32.reduceToInt, if_true, if_false]
  repeat' split
  all_goals first | (exfalso; omega) | rfl
theorem own_f2_83_spec (x : Int32) : own_f2_83 x = if x.toInt ≤ 893 ∨ (895 ≤ x.toInt ∧ x.toInt ≤ 8191) ∨ (8204 ≤ x.toInt ∧ x.toInt ≤ 8205) ∨ (8304 ≤ x.toInt ∧ x.toInt ≤ 8591) ∨ (11264 ≤ x.toInt ∧ x.toInt ≤ 12271) ∨ (12289 ≤ x.toInt ∧ x.toInt ≤ 55295) ∨ (63744 ≤ x.toInt ∧ x.toInt ≤ 64975) ∨ (65008 ≤ x.toInt ∧ x.toInt ≤ 65533) ∨ 65536 ≤ x.toInt then (1 : Int32) else (0 : Int32) := by
  have b1 := Int32.le_toInt x
  have b2 := Int32.toInt_lt x
  unfold own_f2_83
  simp only [own_f2_108_spec, Int32.lt_iff_toInt_lt, ← Int32.toInt_inj, Int32.reduceToInt, if_true, if_false]
  repeat' split
  all_goals first | (exfalso; omega) | rfl
theorem own_f2_65_spec (x : Int32) : own_f2_65 x = if False then (1 : Int32) else (0 : Int32) := by
  have b1 := Int32.le_toInt x
  have b2 := Int32.toInt_lt x
  unfold own_f2_65
  simp only [Int32.lt_iff_toInt_lt, ← Int32.toInt_inj, Int32.reduceToInt, if_true, if_false]
  repeat' split
  all_goals first | (exfalso; omega) | rfl
theorem own_f2_51_spec (x : Int32) : own_f2_51 x = if x.toInt ≤ 214 ∨ (216 ≤ x.toInt ∧ x.toInt ≤ 246) ∨ (248 ≤ x.toInt ∧ x.toInt ≤ 767) ∨ (880 ≤ x.toInt ∧ x.toInt ≤ 893) ∨ (895 ≤ x.toInt ∧ x.toInt ≤ 8191) ∨ (8204 ≤ x.toInt ∧ x.toInt ≤ 8205) ∨ (8304 ≤ x.toInt ∧ x.toInt ≤ 8591) ∨ (11264 ≤ x.toInt ∧ x.toInt ≤ 12271) ∨ (12289 ≤ x.toInt ∧ x.toInt ≤ 55295) ∨ (63744 ≤ x.toInt ∧ x.toInt ≤ 64975) ∨ (65008 ≤ x.toInt ∧ x.toInt ≤ 65533) ∨ 65536 ≤ x.toInt then (1 : Int32) else (0 : Int32) := by
  have b1 := Int32.le_toInt x
  have b2 := Int32.toInt_lt x
  unfold own_f2_51
  simp only [own_f2_65_spec, own_f2_83_spec, Int32.lt_iff_toInt_lt, ← Int32.toInt_inj, Int32.reduceToInt, if_true, if_false]
  repeat' split
  all_goals first | (exfalso; omega) | rfl
theorem own_f2_28_spec (x : Int32) : own_f2_28 x = if x.toInt ≤ 95 ∨ (97 ≤ x.toInt ∧ x.toInt ≤ 122) ∨ (192 ≤ x.toInt ∧ x.toInt ≤ 214) ∨ (216 ≤ x.toInt ∧ x.toInt ≤ 246) ∨ (248 ≤ x.toInt ∧ x.toInt ≤ 767) ∨ (880 ≤ x.toInt ∧ x.toInt ≤ 893) ∨ (895 ≤ x.toInt ∧ x.toInt ≤ 8191) ∨ (8204 ≤ x.toInt ∧ x.toInt ≤ 8205) ∨ (8304 ≤ x.toInt ∧ x.toInt ≤ 8591) ∨ (11264 ≤ x.toInt ∧ x.toInt ≤ 12271) ∨ (12289 ≤ x.toInt ∧ x.toInt ≤ 55295) ∨ (63744 ≤ x.toInt ∧ x.toInt ≤ 64975) ∨ (65008 ≤ x.toInt ∧ x.toInt ≤ 65533) ∨ 65536 ≤ x.toInt then (1 : Int32) else (0 : Int32) := by
  have b1 := Int32.le_toInt x
  have b2 := Int32.toInt_lt x
  unfold own_f2_28
  simp only [own_f2_51_spec, Int32.lt_iff_toInt_lt, ← Int32.toInt_inj, Int32.reduceToInt, if_true, if_false]
  repeat' split
  all_goals first | (exfalso; omega) | rfl
theorem own_f2_12_spec (x : Int32) : own_f2_12 x = if False then (1 : Int32) else (0 : Int32) := by
  have b1 := Int32.le_toInt x
  have b2 := Int32.toInt_lt x
  unfold own_f2_12
  simp only [Int32.lt_iff_toInt_lt, ← Int32.toInt_inj, Int32.reduceToInt, if_true, if_false]
  repeat' split
  all_goals first | (exfalso; omega) | rfl
theorem own_f2_0_spec (x : Int32) : own_f2_0 x = if (65 ≤ x.toInt ∧ x.toInt ≤ 90) ∨ x.toInt = 95 ∨ (97 ≤ x.toInt ∧ x.toInt ≤ 122) ∨ (192 ≤ x.toInt ∧ x.toInt ≤ 214) ∨ (216 ≤ x.toInt ∧ x.toInt ≤ 246) ∨ (248 ≤ x.toInt ∧ x.toInt ≤ 767) ∨ (880 ≤ x.toInt ∧ x.toInt ≤ 893) ∨ (895 ≤ x.toInt ∧ x.toInt ≤ 8191) ∨ (8204 ≤ x.toInt ∧ x.toInt ≤ 8205) ∨ (8304 ≤ x.toInt ∧ x.toInt ≤ 8591) ∨ (11264 ≤ x.toInt ∧ x.toInt ≤ 12271) ∨ (12289 ≤ x.toInt ∧ x.toInt ≤ 55295) ∨ (63744 ≤ x.toInt ∧ x.toInt ≤ 64975) ∨ (65008 ≤ x.toInt ∧ x.toInt ≤ 65533) ∨ (65536 ≤ x.toInt ∧ x.toInt ≤ 983039) then (1 : Int32) else (0 : Int32) := by
  have b1 := Int32.le_toInt x
  have b2 := Int32.toInt_lt x
  unfold own_f2_0
  simp only [own_f2_12_spec, own_f2_28_spec, Int32.lt_iff_toInt_lt, ← Int32.toInt_inj, Int32.reduceToInt, if_true, if_false]
  repeat' split
  all_goals first | (exfalso; omega) | rfl
theorem own_same (x : Int32) : own_f1_0 x = own_f2_0 x := by rw [own_f1_0_spec, own_f2_0_spec]
theorem own_idx (x : Int32) : ¬ ((x &&& (2147483647 : Int32)) % (30 : Int32)) < 0 ∧ ((x &&& (2147483647 : Int32)) % (30 : Int32)) < (30 : Int32) := by
  have q := c_and x (2147483647 : Int32) (by decide)
  have r := (c_irem (x &&& (2147483647 : Int32)) (30 : Int32) 30 (by decide)).1 q.1
  rw [Int32.lt_iff_toInt_lt, Int32.lt_iff_toInt_lt, r]
  show ¬ _ < (0 : Int) ∧ _ < (30 : Int)
  omega
set_option maxRecDepth 65536 in
set_option maxHeartbeats 40000000 in
theorem own_tail {p : Program} {l : Launch} {e : Env} {s : State} {m : MethodId} {args : Array Value} {below : List Frame} {meth : Method} {c : Code} {T : State} {locs : List Loc} {cells slots : Nat} {Z : State} {a0 : Array Value} {h0 : Heap} {n0 : Nat} {S0 : State} (X : Stand p l e room_1 s m args below meth c T locs cells slots) (hx : p.tables.exec = Jvm.exec) (hby : c.code = code) (hml : c.maxLocals = 9) (hown : s.vm.findClass "com/example/querent/querent/xdm/XmlCharsIsNameStartCharPinLaw" = some m.cls) (hZ : Z.Warmed39 s.vm) (hw : ∀ d ∈ tables_1, d.before a0 Z = true) (hret : meth.sig.returnType = ret) (hlk : meth.locks = false) (p1 : Int32) (p2 : Int32) (p3 : Int32) (p4 : Int32) (ar : Addr) (ii : Int32) (of : Int32) (ed : Int32) (ipl : Int32) (e0 : T.heap = h0) (Z0 : n0 ≤ h0.size) (N0 : Fr n0 locs) (hcb : cells ≤ 16) (hsb : slots ≤ 128) (K0 : ∀ t, Steps p.tables e below (T.setTop (mkF m 236 #[.val (.int p1), .val (.int p2), .val (.int p3), .val (.int p4), .val (.ref ar), .val (.int ii), .val (.int of), .val (.int ed), .val (.int ipl)] [])) t → Steps p.tables e below S0 t) :
    ∃ s₂ o, Steps p.tables e below S0 s₂ ∧ s₂.status = .running ∧ Ended s₂ below o ∧ (∃ v L, o = .returned v ∧ (v = some (.int (1 : Int32)) ∧ Fr n0 L) ∧ FrameEnd s o s₂ L 16 128) := by
  have K1 : ∀ t, Steps p.tables e below (T.setTop (mkF m 237 #[.val (.int p1), .val (.int p2), .val (.int p3), .val (.int p4), .val (.ref ar), .val (.int ii), .val (.int of), .val (.int ed), .val (.int ipl)] [(.int p1)])) t → Steps p.tables e below S0 t := by
    intro t hk
    refine K0 t ?_
    show Steps p.tables e below (T.setTop (mkF m 236 #[.val (.int p1), .val (.int p2), .val (.int p3), .val (.int p4), .val (.ref ar), .val (.int ii), .val (.int of), .val (.int ed), .val (.int ipl)] [])) _
    refine XS.iloadN X.here hx rfl (hb hby at_236) rfl ?_
    show Steps p.tables e below (T.setTop (mkF m 237 #[.val (.int p1), .val (.int p2), .val (.int p3), .val (.int p4), .val (.ref ar), .val (.int ii), .val (.int of), .val (.int ed), .val (.int ipl)] [(.int p1)])) _
    exact hk
  obtain ⟨_, _, ⟨T2, L2, k2, n2⟩, -, X2, ⟨Lc2, hQ2, l2, y2, z2⟩, st2⟩ := Jvm.LawKit.callS X hx (y := (⟨"com/example/querent/querent/xdm/XmlChars", "isNameStartChar", "(I)Z"⟩ : MethodName)) hown (mvT hZ (hw _ (List.mem_of_getElem? (i := 10) rfl))) (mvT hZ (hw _ (List.mem_of_getElem? (i := 11) rfl))) (mvT hZ (hw _ (List.mem_of_getElem? (i := 12) rfl))) (mvT hZ (hw _ (List.mem_of_getElem? (i := 13) rfl))) (by decide) (backOf (W := 0) (rm1 l Z a0 hw [] p1  h0 n0 Z0 ) hZ (hw _ (List.mem_of_getElem? (i := 13) rfl)) (hw _ (List.mem_of_getElem? (i := 12) rfl)) (by decide) (by decide)) (g := (mkF m 237 #[.val (.int p1), .val (.int p2), .val (.int p3), .val (.int p4), .val (.ref ar), .val (.int ii), .val (.int of), .val (.int ed), .val (.int ipl)] [(.int p1)])) rfl (by rw [hml]; rfl) (argsL := [(.int p1)]) (rest := []) (lenOf (by decide +kernel : parseMethodDescriptor "(I)Z" = some ⟨[.int], (some .boolean)⟩) rfl) rfl (by show 2 * 0 + _ ≤ _; exact Nat.le_of_eq rfl) (hb hby at_237) (fun _ _ => ⟨rfl, e0, (by show cells + 0 ≤ 16; omega), (by show slots + 0 ≤ 128; omega)⟩)
  dsimp only [Pt.U, Pt.locs, Pt.cells, Pt.slots] at X2 l2 y2 z2 st2 hQ2
  replace y2 := y2.symm; replace z2 := z2.symm; subst l2 y2 z2
  obtain ⟨rfl, Nq2, e2⟩ := hQ2
  have N2 := Fr.app N0 Nq2
  have K2 : ∀ t, Steps p.tables e below (T2.setTop (mkF m 240 #[.val (.int p1), .val (.int p2), .val (.int p3), .val (.int p4), .val (.ref ar), .val (.int ii), .val (.int of), .val (.int ed), .val (.int ipl)] [(.int (own_f1_0 p1))])) t → Steps p.tables e below S0 t := fun t hk => K1 t (st2 _ hk)
  have K3 : ∀ t, Steps p.tables e below (T2.setTop (mkF m 241 #[.val (.int p1), .val (.int p2), .val (.int p3), .val (.int p4), .val (.ref ar), .val (.int ii), .val (.int of), .val (.int ed), .val (.int ipl)] [(.int p1), (.int (own_f1_0 p1))])) t → Steps p.tables e below S0 t := by
    intro t hk
    refine K2 t ?_
    show Steps p.tables e below (T2.setTop (mkF m 240 #[.val (.int p1), .val (.int p2), .val (.int p3), .val (.int p4), .val (.ref ar), .val (.int ii), .val (.int of), .val (.int ed), .val (.int ipl)] [(.int (own_f1_0 p1))])) _
    refine XS.iloadN X2.here hx rfl (hb hby at_240) rfl ?_
    show Steps p.tables e below (T2.setTop (mkF m 241 #[.val (.int p1), .val (.int p2), .val (.int p3), .val (.int p4), .val (.ref ar), .val (.int ii), .val (.int of), .val (.int ed), .val (.int ipl)] [(.int p1), (.int (own_f1_0 p1))])) _
    exact hk
  obtain ⟨_, _, ⟨T4, L4, k4, n4⟩, -, X4, ⟨Lc4, hQ4, l4, y4, z4⟩, st4⟩ := Jvm.LawKit.callS X2 hx (y := (⟨"com/example/querent/querent/xdm/XmlCharsIsNameStartCharPinLaw", "ref", "(I)Z"⟩ : MethodName)) hown (mvT hZ (hw _ (List.mem_of_getElem? (i := 17) rfl))) (mvT hZ (hw _ (List.mem_of_getElem? (i := 18) rfl))) (mvT hZ (hw _ (List.mem_of_getElem? (i := 19) rfl))) (mvT hZ (hw _ (List.mem_of_getElem? (i := 20) rfl))) (by decide) (backOf (W := 1) (rm2 l Z a0 hw [] p1  h0 n0 Z0 ) hZ (hw _ (List.mem_of_getElem? (i := 20) rfl)) (hw _ (List.mem_of_getElem? (i := 19) rfl)) (by decide) (by decide)) (g := (mkF m 241 #[.val (.int p1), .val (.int p2), .val (.int p3), .val (.int p4), .val (.ref ar), .val (.int ii), .val (.int of), .val (.int ed), .val (.int ipl)] [(.int p1), (.int (own_f1_0 p1))])) rfl (by rw [hml]; rfl) (argsL := [(.int p1)]) (rest := [(.int (own_f1_0 p1))]) (lenOf (by decide +kernel : parseMethodDescriptor "(I)Z" = some ⟨[.int], (some .boolean)⟩) rfl) rfl (by show 2 * 0 + _ ≤ _; exact Nat.le_of_eq rfl) (hb hby at_241) (fun _ _ => ⟨rfl, e2, (by show cells + 0 + 0 ≤ 16; omega), (by show slots + 0 + 0 ≤ 128; omega)⟩)
  dsimp only [Pt.U, Pt.locs, Pt.cells, Pt.slots] at X4 l4 y4 z4 st4 hQ4
  replace y4 := y4.symm; replace z4 := z4.symm; subst l4 y4 z4
  obtain ⟨rfl, Nq4, e4⟩ := hQ4
  have N4 := Fr.app N2 Nq4
  have K4 : ∀ t, Steps p.tables e below (T4.setTop (mkF m 244 #[.val (.int p1), .val (.int p2), .val (.int p3), .val (.int p4), .val (.ref ar), .val (.int ii), .val (.int of), .val (.int ed), .val (.int ipl)] [(.int (own_f2_0 p1)), (.int (own_f1_0 p1))])) t → Steps p.tables e below S0 t := fun t hk => K3 t (st4 _ hk)
  have hc244 : (own_f1_0 p1) = (own_f2_0 p1) := own_same p1
  have K5 : ∀ t, Steps p.tables e below (T4.setTop (mkF m 247 #[.val (.int p1), .val (.int p2), .val (.int p3), .val (.int p4), .val (.ref ar), .val (.int ii), .val (.int of), .val (.int ed), .val (.int ipl)] [])) t → Steps p.tables e below S0 t := by
    intro t hk
    refine K4 t ?_
    show Steps p.tables e below (T4.setTop (mkF m 244 #[.val (.int p1), .val (.int p2), .val (.int p3), .val (.int p4), .val (.ref ar), .val (.int ii), .val (.int of), .val (.int ed), .val (.int ipl)] [(.int (own_f2_0 p1)), (.int (own_f1_0 p1))])) _
    refine XS.icmpNo X4.here hx rfl (hb hby at_244) rfl (teq hc244).2 ?_
    exact hk
  have K6 : ∀ t, Steps p.tables e below (T4.setTop (mkF m 249 #[.val (.int p1), .val (.int p2), .val (.int p3), .val (.int p4), .val (.ref ar), .val (.int ii), .val (.int of), .val (.int ed), .val (.int ipl)] [(.int ipl)])) t → Steps p.tables e below S0 t := by
    intro t hk
    refine K5 t ?_
    show Steps p.tables e below (T4.setTop (mkF m 247 #[.val (.int p1), .val (.int p2), .val (.int p3), .val (.int p4), .val (.ref ar), .val (.int ii), .val (.int of), .val (.int ed), .val (.int ipl)] [])) _
    refine XS.iload X4.here hx rfl (hb hby at_247) rfl ?_
    show Steps p.tables e below (T4.setTop (mkF m 249 #[.val (.int p1), .val (.int p2), .val (.int p3), .val (.int p4), .val (.ref ar), .val (.int ii), .val (.int of), .val (.int ed), .val (.int ipl)] [(.int ipl)])) _
    exact hk
  obtain ⟨_, _, ⟨T7, L7, k7, n7⟩, -, X7, ⟨Lc7, hQ7, l7, y7, z7⟩, st7⟩ := Jvm.LawKit.callS X4 hx (y := (⟨"com/example/querent/querent/xdm/XmlChars", "isNameStartChar", "(I)Z"⟩ : MethodName)) hown (mvT hZ (hw _ (List.mem_of_getElem? (i := 10) rfl))) (mvT hZ (hw _ (List.mem_of_getElem? (i := 11) rfl))) (mvT hZ (hw _ (List.mem_of_getElem? (i := 12) rfl))) (mvT hZ (hw _ (List.mem_of_getElem? (i := 13) rfl))) (by decide) (backOf (W := 0) (rm1 l Z a0 hw [] ipl  h0 n0 Z0 ) hZ (hw _ (List.mem_of_getElem? (i := 13) rfl)) (hw _ (List.mem_of_getElem? (i := 12) rfl)) (by decide) (by decide)) (g := (mkF m 249 #[.val (.int p1), .val (.int p2), .val (.int p3), .val (.int p4), .val (.ref ar), .val (.int ii), .val (.int of), .val (.int ed), .val (.int ipl)] [(.int ipl)])) rfl (by rw [hml]; rfl) (argsL := [(.int ipl)]) (rest := []) (lenOf (by decide +kernel : parseMethodDescriptor "(I)Z" = some ⟨[.int], (some .boolean)⟩) rfl) rfl (by show 2 * 0 + _ ≤ _; exact Nat.le_of_eq rfl) (hb hby at_249) (fun _ _ => ⟨rfl, e4, (by show cells + 0 + 0 + 0 ≤ 16; omega), (by show slots + 0 + 0 + 0 ≤ 128; omega)⟩)
  dsimp only [Pt.U, Pt.locs, Pt.cells, Pt.slots] at X7 l7 y7 z7 st7 hQ7
  replace y7 := y7.symm; replace z7 := z7.symm; subst l7 y7 z7
  obtain ⟨rfl, Nq7, e7⟩ := hQ7
  have N7 := Fr.app N4 Nq7
  have K7 : ∀ t, Steps p.tables e below (T7.setTop (mkF m 252 #[.val (.int p1), .val (.int p2), .val (.int p3), .val (.int p4), .val (.ref ar), .val (.int ii), .val (.int of), .val (.int ed), .val (.int ipl)] [(.int (own_f1_0 ipl))])) t → Steps p.tables e below S0 t := fun t hk => K6 t (st7 _ hk)
  have K8 : ∀ t, Steps p.tables e below (T7.setTop (mkF m 254 #[.val (.int p1), .val (.int p2), .val (.int p3), .val (.int p4), .val (.ref ar), .val (.int ii), .val (.int of), .val (.int ed), .val (.int ipl)] [(.int ipl), (.int (own_f1_0 ipl))])) t → Steps p.tables e below S0 t := by
    intro t hk
    refine K7 t ?_
    show Steps p.tables e below (T7.setTop (mkF m 252 #[.val (.int p1), .val (.int p2), .val (.int p3), .val (.int p4), .val (.ref ar), .val (.int ii), .val (.int of), .val (.int ed), .val (.int ipl)] [(.int (own_f1_0 ipl))])) _
    refine XS.iload X7.here hx rfl (hb hby at_252) rfl ?_
    show Steps p.tables e below (T7.setTop (mkF m 254 #[.val (.int p1), .val (.int p2), .val (.int p3), .val (.int p4), .val (.ref ar), .val (.int ii), .val (.int of), .val (.int ed), .val (.int ipl)] [(.int ipl), (.int (own_f1_0 ipl))])) _
    exact hk
  obtain ⟨_, _, ⟨T9, L9, k9, n9⟩, -, X9, ⟨Lc9, hQ9, l9, y9, z9⟩, st9⟩ := Jvm.LawKit.callS X7 hx (y := (⟨"com/example/querent/querent/xdm/XmlCharsIsNameStartCharPinLaw", "ref", "(I)Z"⟩ : MethodName)) hown (mvT hZ (hw _ (List.mem_of_getElem? (i := 17) rfl))) (mvT hZ (hw _ (List.mem_of_getElem? (i := 18) rfl))) (mvT hZ (hw _ (List.mem_of_getElem? (i := 19) rfl))) (mvT hZ (hw _ (List.mem_of_getElem? (i := 20) rfl))) (by decide) (backOf (W := 1) (rm2 l Z a0 hw [] ipl  h0 n0 Z0 ) hZ (hw _ (List.mem_of_getElem? (i := 20) rfl)) (hw _ (List.mem_of_getElem? (i := 19) rfl)) (by decide) (by decide)) (g := (mkF m 254 #[.val (.int p1), .val (.int p2), .val (.int p3), .val (.int p4), .val (.ref ar), .val (.int ii), .val (.int of), .val (.int ed), .val (.int ipl)] [(.int ipl), (.int (own_f1_0 ipl))])) rfl (by rw [hml]; rfl) (argsL := [(.int ipl)]) (rest := [(.int (own_f1_0 ipl))]) (lenOf (by decide +kernel : parseMethodDescriptor "(I)Z" = some ⟨[.int], (some .boolean)⟩) rfl) rfl (by show 2 * 0 + _ ≤ _; exact Nat.le_of_eq rfl) (hb hby at_254) (fun _ _ => ⟨rfl, e7, (by show cells + 0 + 0 + 0 + 0 ≤ 16; omega), (by show slots + 0 + 0 + 0 + 0 ≤ 128; omega)⟩)
  dsimp only [Pt.U, Pt.locs, Pt.cells, Pt.slots] at X9 l9 y9 z9 st9 hQ9
  replace y9 := y9.symm; replace z9 := z9.symm; subst l9 y9 z9
  obtain ⟨rfl, Nq9, e9⟩ := hQ9
  have N9 := Fr.app N7 Nq9
  have K9 : ∀ t, Steps p.tables e below (T9.setTop (mkF m 257 #[.val (.int p1), .val (.int p2), .val (.int p3), .val (.int p4), .val (.ref ar), .val (.int ii), .val (.int of), .val (.int ed), .val (.int ipl)] [(.int (own_f2_0 ipl)), (.int (own_f1_0 ipl))])) t → Steps p.tables e below S0 t := fun t hk => K8 t (st9 _ hk)
  have hc257 : (own_f1_0 ipl) = (own_f2_0 ipl) := own_same ipl
  have K10 : ∀ t, Steps p.tables e below (T9.setTop (mkF m 260 #[.val (.int p1), .val (.int p2), .val (.int p3), .val (.int p4), .val (.ref ar), .val (.int ii), .val (.int of), .val (.int ed), .val (.int ipl)] [])) t → Steps p.tables e below S0 t := by
    intro t hk
    refine K9 t ?_
    show Steps p.tables e below (T9.setTop (mkF m 257 #[.val (.int p1), .val (.int p2), .val (.int p3), .val (.int p4), .val (.ref ar), .val (.int ii), .val (.int of), .val (.int ed), .val (.int ipl)] [(.int (own_f2_0 ipl)), (.int (own_f1_0 ipl))])) _
    refine XS.icmpNo X9.here hx rfl (hb hby at_257) rfl (teq hc257).2 ?_
    exact hk
  have K11 : ∀ t, Steps p.tables e below (T9.setTop (mkF m 262 #[.val (.int p1), .val (.int p2), .val (.int p3), .val (.int p4), .val (.ref ar), .val (.int ii), .val (.int of), .val (.int ed), .val (.int ipl)] [(.int ed)])) t → Steps p.tables e below S0 t := by
    intro t hk
    refine K10 t ?_
    show Steps p.tables e below (T9.setTop (mkF m 260 #[.val (.int p1), .val (.int p2), .val (.int p3), .val (.int p4), .val (.ref ar), .val (.int ii), .val (.int of), .val (.int ed), .val (.int ipl)] [])) _
    refine XS.iload X9.here hx rfl (hb hby at_260) rfl ?_
    show Steps p.tables e below (T9.setTop (mkF m 262 #[.val (.int p1), .val (.int p2), .val (.int p3), .val (.int p4), .val (.ref ar), .val (.int ii), .val (.int of), .val (.int ed), .val (.int ipl)] [(.int ed)])) _
    exact hk
  obtain ⟨_, _, ⟨T12, L12, k12, n12⟩, -, X12, ⟨Lc12, hQ12, l12, y12, z12⟩, st12⟩ := Jvm.LawKit.callS X9 hx (y := (⟨"com/example/querent/querent/xdm/XmlChars", "isNameStartChar", "(I)Z"⟩ : MethodName)) hown (mvT hZ (hw _ (List.mem_of_getElem? (i := 10) rfl))) (mvT hZ (hw _ (List.mem_of_getElem? (i := 11) rfl))) (mvT hZ (hw _ (List.mem_of_getElem? (i := 12) rfl))) (mvT hZ (hw _ (List.mem_of_getElem? (i := 13) rfl))) (by decide) (backOf (W := 0) (rm1 l Z a0 hw [] ed  h0 n0 Z0 ) hZ (hw _ (List.mem_of_getElem? (i := 13) rfl)) (hw _ (List.mem_of_getElem? (i := 12) rfl)) (by decide) (by decide)) (g := (mkF m 262 #[.val (.int p1), .val (.int p2), .val (.int p3), .val (.int p4), .val (.ref ar), .val (.int ii), .val (.int of), .val (.int ed), .val (.int ipl)] [(.int ed)])) rfl (by rw [hml]; rfl) (argsL := [(.int ed)]) (rest := []) (lenOf (by decide +kernel : parseMethodDescriptor "(I)Z" = some ⟨[.int], (some .boolean)⟩) rfl) rfl (by show 2 * 0 + _ ≤ _; exact Nat.le_of_eq rfl) (hb hby at_262) (fun _ _ => ⟨rfl, e9, (by show cells + 0 + 0 + 0 + 0 + 0 ≤ 16; omega), (by show slots + 0 + 0 + 0 + 0 + 0 ≤ 128; omega)⟩)
  dsimp only [Pt.U, Pt.locs, Pt.cells, Pt.slots] at X12 l12 y12 z12 st12 hQ12
  replace y12 := y12.symm; replace z12 := z12.symm; subst l12 y12 z12
  obtain ⟨rfl, Nq12, e12⟩ := hQ12
  have N12 := Fr.app N9 Nq12
  have K12 : ∀ t, Steps p.tables e below (T12.setTop (mkF m 265 #[.val (.int p1), .val (.int p2), .val (.int p3), .val (.int p4), .val (.ref ar), .val (.int ii), .val (.int of), .val (.int ed), .val (.int ipl)] [(.int (own_f1_0 ed))])) t → Steps p.tables e below S0 t := fun t hk => K11 t (st12 _ hk)
  have K13 : ∀ t, Steps p.tables e below (T12.setTop (mkF m 267 #[.val (.int p1), .val (.int p2), .val (.int p3), .val (.int p4), .val (.ref ar), .val (.int ii), .val (.int of), .val (.int ed), .val (.int ipl)] [(.int ed), (.int (own_f1_0 ed))])) t → Steps p.tables e below S0 t := by
    intro t hk
    refine K12 t ?_
    show Steps p.tables e below (T12.setTop (mkF m 265 #[.val (.int p1), .val (.int p2), .val (.int p3), .val (.int p4), .val (.ref ar), .val (.int ii), .val (.int of), .val (.int ed), .val (.int ipl)] [(.int (own_f1_0 ed))])) _
    refine XS.iload X12.here hx rfl (hb hby at_265) rfl ?_
    show Steps p.tables e below (T12.setTop (mkF m 267 #[.val (.int p1), .val (.int p2), .val (.int p3), .val (.int p4), .val (.ref ar), .val (.int ii), .val (.int of), .val (.int ed), .val (.int ipl)] [(.int ed), (.int (own_f1_0 ed))])) _
    exact hk
  obtain ⟨_, _, ⟨T14, L14, k14, n14⟩, -, X14, ⟨Lc14, hQ14, l14, y14, z14⟩, st14⟩ := Jvm.LawKit.callS X12 hx (y := (⟨"com/example/querent/querent/xdm/XmlCharsIsNameStartCharPinLaw", "ref", "(I)Z"⟩ : MethodName)) hown (mvT hZ (hw _ (List.mem_of_getElem? (i := 17) rfl))) (mvT hZ (hw _ (List.mem_of_getElem? (i := 18) rfl))) (mvT hZ (hw _ (List.mem_of_getElem? (i := 19) rfl))) (mvT hZ (hw _ (List.mem_of_getElem? (i := 20) rfl))) (by decide) (backOf (W := 1) (rm2 l Z a0 hw [] ed  h0 n0 Z0 ) hZ (hw _ (List.mem_of_getElem? (i := 20) rfl)) (hw _ (List.mem_of_getElem? (i := 19) rfl)) (by decide) (by decide)) (g := (mkF m 267 #[.val (.int p1), .val (.int p2), .val (.int p3), .val (.int p4), .val (.ref ar), .val (.int ii), .val (.int of), .val (.int ed), .val (.int ipl)] [(.int ed), (.int (own_f1_0 ed))])) rfl (by rw [hml]; rfl) (argsL := [(.int ed)]) (rest := [(.int (own_f1_0 ed))]) (lenOf (by decide +kernel : parseMethodDescriptor "(I)Z" = some ⟨[.int], (some .boolean)⟩) rfl) rfl (by show 2 * 0 + _ ≤ _; exact Nat.le_of_eq rfl) (hb hby at_267) (fun _ _ => ⟨rfl, e12, (by show cells + 0 + 0 + 0 + 0 + 0 + 0 ≤ 16; omega), (by show slots + 0 + 0 + 0 + 0 + 0 + 0 ≤ 128; omega)⟩)
  dsimp only [Pt.U, Pt.locs, Pt.cells, Pt.slots] at X14 l14 y14 z14 st14 hQ14
  replace y14 := y14.symm; replace z14 := z14.symm; subst l14 y14 z14
  obtain ⟨rfl, Nq14, e14⟩ := hQ14
  have N14 := Fr.app N12 Nq14
  have K14 : ∀ t, Steps p.tables e below (T14.setTop (mkF m 270 #[.val (.int p1), .val (.int p2), .val (.int p3), .val (.int p4), .val (.ref ar), .val (.int ii), .val (.int of), .val (.int ed), .val (.int ipl)] [(.int (own_f2_0 ed)), (.int (own_f1_0 ed))])) t → Steps p.tables e below S0 t := fun t hk => K13 t (st14 _ hk)
  have hc270 : (own_f1_0 ed) = (own_f2_0 ed) := own_same ed
  have K15 : ∀ t, Steps p.tables e below (T14.setTop (mkF m 273 #[.val (.int p1), .val (.int p2), .val (.int p3), .val (.int p4), .val (.ref ar), .val (.int ii), .val (.int of), .val (.int ed), .val (.int ipl)] [])) t → Steps p.tables e below S0 t := by
    intro t hk
    refine K14 t ?_
    show Steps p.tables e below (T14.setTop (mkF m 270 #[.val (.int p1), .val (.int p2), .val (.int p3), .val (.int p4), .val (.ref ar), .val (.int ii), .val (.int of), .val (.int ed), .val (.int ipl)] [(.int (own_f2_0 ed)), (.int (own_f1_0 ed))])) _
    refine XS.icmpNo X14.here hx rfl (hb hby at_270) rfl (teq hc270).2 ?_
    exact hk
  have K16 : ∀ t, Steps p.tables e below (T14.setTop (mkF m 278 #[.val (.int p1), .val (.int p2), .val (.int p3), .val (.int p4), .val (.ref ar), .val (.int ii), .val (.int of), .val (.int ed), .val (.int ipl)] [(.int (1 : Int32))])) t → Steps p.tables e below S0 t := by
    intro t hk
    refine K15 t ?_
    show Steps p.tables e below (T14.setTop (mkF m 273 #[.val (.int p1), .val (.int p2), .val (.int p3), .val (.int p4), .val (.ref ar), .val (.int ii), .val (.int of), .val (.int ed), .val (.int ipl)] [])) _
    refine XS.iconst X14.here hx rfl (hb hby at_273) ?_
    show Steps p.tables e below (T14.setTop (mkF m 274 #[.val (.int p1), .val (.int p2), .val (.int p3), .val (.int p4), .val (.ref ar), .val (.int ii), .val (.int of), .val (.int ed), .val (.int ipl)] [(.int (1 : Int32))])) _
    refine XS.goto X14.here hx rfl (pc0 := 274) (pc' := 278) rfl (hb hby at_274) (by decide) (by decide) ?_
    show Steps p.tables e below (T14.setTop (mkF m 278 #[.val (.int p1), .val (.int p2), .val (.int p3), .val (.int p4), .val (.ref ar), .val (.int ii), .val (.int of), .val (.int ed), .val (.int ipl)] [(.int (1 : Int32))])) _
    exact hk
  obtain ⟨fs, hr, hrun, hended, hW, hsame⟩ := X14.leave (v := some (.int (1 : Int32))) (fun h => by rw [(hret.trans (rfl : ret = some .boolean))] at h; cases h) hlk
  exact ⟨_, _, K16 _ (retN X14 hx (t := .boolean) (hret.trans (rfl : ret = some .boolean)) (by simp) (hb hby at_278) hr), hrun, hended, _, _, rfl, ⟨rfl, N14⟩, ⟨_, rfl⟩, hW, hsame.mono hcb hsb⟩
theorem ef_0 (m : MethodId) (x0 : Int32) (x1 : Int32) (x2 : Int32) (x3 : Int32) : entryFrame m #[(.int x0), (.int x1), (.int x2), (.int x3)] maxLocals = mkF m 0 #[.val (.int x0), .val (.int x1), .val (.int x2), .val (.int x3), .unset, .unset, .unset, .unset, .unset] [] := by first | (simp [entryFrame, mkF, argsToLocals, Value.category, maxLocals]; done) | rfl
theorem pn_0 : plainName "com/example/querent/querent/xdm/XmlCharsIsNameStartCharPinLaw" = true := by first | (simp [plainName, overriddenIn]; done) | decide +kernel
def Q_rm0 (Z : State) (p1 : Int32) (p2 : Int32) (p3 : Int32) (p4 : Int32)  (h0 : Heap) (n0 : Nat) (v : Option Value) (h : Heap) (L : List Loc) : Prop := v = some (.int (1 : Int32)) ∧ Fr n0 L
set_option maxRecDepth 65536 in
set_option maxHeartbeats 40000000 in
theorem rm0 (l : Launch) (Z : State) (a0 : Array Value) (hw : ∀ d ∈ tables_1, d.before a0 Z = true) (ws : List Jvm.Cond) (p1 : Int32) (p2 : Int32) (p3 : Int32) (p4 : Int32)  (h0 : Heap) (n0 : Nat) (Z0 : n0 ≤ h0.size)  :
    MetFree l x (head1 (Jvm.Cond.code x code maxLocals ret :: ws) room_1) (fun a U => a = #[(.int p1), (.int p2), (.int p3), (.int p4)] ∧ Z.Warmed39 U.vm ∧ U.heap = h0) (fun _ _ _ _ _ => True) (fun _ U o U' => ∃ v L, o = .returned v ∧ Q_rm0 Z p1 p2 p3 p4  h0 n0 v U'.heap L ∧ FrameEnd U o U' L 16 128) := by
  refine MetFree.of_bodySF (plainFor_of_name pn_0) hisR ?_
  intro p e s m args below meth c s₁ Bd hml0 hP hK
  obtain ⟨rfl, hZ, hh⟩ := hP
  have hx := Bd.exec
  have hby := Bd.bytes
  have hml : c.maxLocals = 9 := hml0
  have hown : s.vm.findClass "com/example/querent/querent/xdm/XmlCharsIsNameStartCharPinLaw" = some m.cls := findClass_of_methodNamed Bd.named
  have hnm := (name_of_methodNamed Bd.named Bd.method).1
  have X0 : Stand p l e room_1 s m #[(.int p1), (.int p2), (.int p3), (.int p4)] below meth c s₁ [] 0 0 := Stand.of_body Bd
  have e0 : s₁.heap = h0 := by rw [← hh, Bd.state]; rfl
  have N0 := Fr.nil n0
  have pre0 : ∀ t, Steps p.tables e below (s₁.setTop (mkF m 0 #[.val (.int p1), .val (.int p2), .val (.int p3), .val (.int p4), .unset, .unset, .unset, .unset, .unset] [])) t → Steps p.tables e below (s₁.setTop (entryFrame m #[(.int p1), (.int p2), (.int p3), (.int p4)] maxLocals)) t := fun t k => castTop (ef_0 m p1 p2 p3 p4) k
  have K1 : ∀ t, Steps p.tables e below (s₁.setTop (mkF m 2 #[.val (.int p1), .val (.int p2), .val (.int p3), .val (.int p4), .unset, .unset, .unset, .unset, .unset] [(.int (30 : Int32))])) t → Steps p.tables e below (s₁.setTop (entryFrame m #[(.int p1), (.int p2), (.int p3), (.int p4)] maxLocals)) t := by
    intro t hk
    refine pre0 t ?_
    show Steps p.tables e below (s₁.setTop (mkF m 0 #[.val (.int p1), .val (.int p2), .val (.int p3), .val (.int p4), .unset, .unset, .unset, .unset, .unset] [])) _
    refine XS.bipush X0.here hx rfl (hb hby at_0) ?_
    show Steps p.tables e below (s₁.setTop (mkF m 2 #[.val (.int p1), .val (.int p2), .val (.int p3), .val (.int p4), .unset, .unset, .unset, .unset, .unset] [(.int (30 : Int32))])) _
    exact hk
  obtain ⟨T2, h2, c2, X2, e2, E2, A2, st2⟩ := newP X0 hx hZ (hw _ (List.mem_of_getElem? (i := 0) rfl)) e0 (g := (mkF m 2 #[.val (.int p1), .val (.int p2), .val (.int p3), .val (.int p4), .unset, .unset, .unset, .unset, .unset] [(.int (30 : Int32))])) rfl (hb hby at_2) rfl (by decide) (cap := 30) (by decide) (by decide) (by decide) (by decide)
  obtain ⟨b2, g2⟩ : ∃ z, z = h0.size := ⟨_, rfl⟩
  rw [← g2] at A2 st2
  have V2 : Arv Z h2 b2 c2 .int (30 : Int32) [(.int (0 : Int32)), (.int (0 : Int32)), (.int (0 : Int32)), (.int (0 : Int32)), (.int (0 : Int32)), (.int (0 : Int32)), (.int (0 : Int32)), (.int (0 : Int32)), (.int (0 : Int32)), (.int (0 : Int32)), (.int (0 : Int32)), (.int (0 : Int32)), (.int (0 : Int32)), (.int (0 : Int32)), (.int (0 : Int32)), (.int (0 : Int32)), (.int (0 : Int32)), (.int (0 : Int32)), (.int (0 : Int32)), (.int (0 : Int32)), (.int (0 : Int32)), (.int (0 : Int32)), (.int (0 : Int32)), (.int (0 : Int32)), (.int (0 : Int32)), (.int (0 : Int32)), (.int (0 : Int32)), (.int (0 : Int32)), (.int (0 : Int32)), (.int (0 : Int32))] (.int (0 : Int32)) := (Arv.new A2 (by decide)).pad (pad_rep [] (.int (0 : Int32)) 30)
  have gb2 : n0 ≤ b2 := Nat.le_trans Z0 (Nat.le_of_eq g2.symm)
  have K2 : ∀ t, Steps p.tables e below (T2.setTop (mkF m 4 #[.val (.int p1), .val (.int p2), .val (.int p3), .val (.int p4), .unset, .unset, .unset, .unset, .unset] [(.ref b2)])) t → Steps p.tables e below (s₁.setTop (entryFrame m #[(.int p1), (.int p2), (.int p3), (.int p4)] maxLocals)) t := fun t hk => K1 t (st2 _ hk)
  have sz2 : n0 ≤ h2.size := Nat.le_trans Z0 E2.1
  have K3 : ∀ t, Steps p.tables e below (T2.setTop (mkF m 8 #[.val (.int p1), .val (.int p2), .val (.int p3), .val (.int p4), .unset, .unset, .unset, .unset, .unset] [(.int (58 : Int32)), (.int (0 : Int32)), (.ref b2), (.ref b2)])) t → Steps p.tables e below (s₁.setTop (entryFrame m #[(.int p1), (.int p2), (.int p3), (.int p4)] maxLocals)) t := by
    intro t hk
    refine K2 t ?_
    show Steps p.tables e below (T2.setTop (mkF m 4 #[.val (.int p1), .val (.int p2), .val (.int p3), .val (.int p4), .unset, .unset, .unset, .unset, .unset] [(.ref b2)])) _
    refine XS.dup X2.here hx rfl (hb hby at_4) rfl rfl ?_
    show Steps p.tables e below (T2.setTop (mkF m 5 #[.val (.int p1), .val (.int p2), .val (.int p3), .val (.int p4), .unset, .unset, .unset, .unset, .unset] [(.ref b2), (.ref b2)])) _
    refine XS.iconst X2.here hx rfl (hb hby at_5) ?_
    show Steps p.tables e below (T2.setTop (mkF m 6 #[.val (.int p1), .val (.int p2), .val (.int p3), .val (.int p4), .unset, .unset, .unset, .unset, .unset] [(.int (0 : Int32)), (.ref b2), (.ref b2)])) _
    refine XS.bipush X2.here hx rfl (hb hby at_6) ?_
    show Steps p.tables e below (T2.setTop (mkF m 8 #[.val (.int p1), .val (.int p2), .val (.int p3), .val (.int p4), .unset, .unset, .unset, .unset, .unset] [(.int (58 : Int32)), (.int (0 : Int32)), (.ref b2), (.ref b2)])) _
    exact hk
  obtain ⟨T4, h4, X4, e4, W4, V4', st4⟩ := own_stI X2 hx hZ e2 V2 (j := (0 : Int32)) 0 rfl ⟨by decide, by decide⟩ (by decide) (g := (mkF m 8 #[.val (.int p1), .val (.int p2), .val (.int p3), .val (.int p4), .unset, .unset, .unset, .unset, .unset] [(.int (58 : Int32)), (.int (0 : Int32)), (.ref b2), (.ref b2)])) rfl rfl (hb hby at_8)
  have V4 : Arv Z h4 b2 c2 .int (30 : Int32) [(.int (58 : Int32)), (.int (0 : Int32)), (.int (0 : Int32)), (.int (0 : Int32)), (.int (0 : Int32)), (.int (0 : Int32)), (.int (0 : Int32)), (.int (0 : Int32)), (.int (0 : Int32)), (.int (0 : Int32)), (.int (0 : Int32)), (.int (0 : Int32)), (.int (0 : Int32)), (.int (0 : Int32)), (.int (0 : Int32)), (.int (0 : Int32)), (.int (0 : Int32)), (.int (0 : Int32)), (.int (0 : Int32)), (.int (0 : Int32)), (.int (0 : Int32)), (.int (0 : Int32)), (.int (0 : Int32)), (.int (0 : Int32)), (.int (0 : Int32)), (.int (0 : Int32)), (.int (0 : Int32)), (.int (0 : Int32)), (.int (0 : Int32)), (.int (0 : Int32))] (.int (0 : Int32)) := V4'
  have N4 := Fr.snoc X4 N0 gb2
  have sz4 : n0 ≤ h4.size := Nat.le_trans sz2 (Keep.of_wr W4).1
  have K4 : ∀ t, Steps p.tables e below (T4.setTop (mkF m 9 #[.val (.int p1), .val (.int p2), .val (.int p3), .val (.int p4), .unset, .unset, .unset, .unset, .unset] [(.ref b2)])) t → Steps p.tables e below (s₁.setTop (entryFrame m #[(.int p1), (.int p2), (.int p3), (.int p4)] maxLocals)) t := fun t hk => K3 t (st4 _ hk)
  have K5 : ∀ t, Steps p.tables e below (T4.setTop (mkF m 13 #[.val (.int p1), .val (.int p2), .val (.int p3), .val (.int p4), .unset, .unset, .unset, .unset, .unset] [(.int (65 : Int32)), (.int (1 : Int32)), (.ref b2), (.ref b2)])) t → Steps p.tables e below (s₁.setTop (entryFrame m #[(.int p1), (.int p2), (.int p3), (.int p4)] maxLocals)) t := by
    intro t hk
    refine K4 t ?_
    show Steps p.tables e below (T4.setTop (mkF m 9 #[.val (.int p1), .val (.int p2), .val (.int p3), .val (.int p4), .unset, .unset, .unset, .unset, .unset] [(.ref b2)])) _
    refine XS.dup X4.here hx rfl (hb hby at_9) rfl rfl ?_
    show Steps p.tables e below (T4.setTop (mkF m 10 #[.val (.int p1), .val (.int p2), .val (.int p3), .val (.int p4), .unset, .unset, .unset, .unset, .unset] [(.ref b2), (.ref b2)])) _
    refine XS.iconst X4.here hx rfl (hb hby at_10) ?_
    show Steps p.tables e below (T4.setTop (mkF m 11 #[.val (.int p1), .val (.int p2), .val (.int p3), .val (.int p4), .unset, .unset, .unset, .unset, .unset] [(.int (1 : Int32)), (.ref b2), (.ref b2)])) _
    refine XS.bipush X4.here hx rfl (hb hby at_11) ?_
    show Steps p.tables e below (T4.setTop (mkF m 13 #[.val (.int p1), .val (.int p2), .val (.int p3), .val (.int p4), .unset, .unset, .unset, .unset, .unset] [(.int (65 : Int32)), (.int (1 : Int32)), (.ref b2), (.ref b2)])) _
    exact hk
  obtain ⟨T6, h6, X6, e6, W6, V6', st6⟩ := own_stI X4 hx hZ e4 V4 (j := (1 : Int32)) 1 rfl ⟨by decide, by decide⟩ (by decide) (g := (mkF m 13 #[.val (.int p1), .val (.int p2), .val (.int p3), .val (.int p4), .unset, .unset, .unset, .unset, .unset] [(.int (65 : Int32)), (.int (1 : Int32)), (.ref b2), (.ref b2)])) rfl rfl (hb hby at_13)
  have V6 : Arv Z h6 b2 c2 .int (30 : Int32) [(.int (58 : Int32)), (.int (65 : Int32)), (.int (0 : Int32)), (.int (0 : Int32)), (.int (0 : Int32)), (.int (0 : Int32)), (.int (0 : Int32)), (.int (0 : Int32)), (.int (0 : Int32)), (.int (0 : Int32)), (.int (0 : Int32)), (.int (0 : Int32)), (.int (0 : Int32)), (.int (0 : Int32)), (.int (0 : Int32)), (.int (0 : Int32)), (.int (0 : Int32)), (.int (0 : Int32)), (.int (0 : Int32)), (.int (0 : Int32)), (.int (0 : Int32)), (.int (0 : Int32)), (.int (0 : Int32)), (.int (0 : Int32)), (.int (0 : Int32)), (.int (0 : Int32)), (.int (0 : Int32)), (.int (0 : Int32)), (.int (0 : Int32)), (.int (0 : Int32))] (.int (0 : Int32)) := V6'
  have N6 := Fr.snoc X6 N4 gb2
  have sz6 : n0 ≤ h6.size := Nat.le_trans sz4 (Keep.of_wr W6).1
  have K6 : ∀ t, Steps p.tables e below (T6.setTop (mkF m 14 #[.val (.int p1), .val (.int p2), .val (.int p3), .val (.int p4), .unset, .unset, .unset, .unset, .unset] [(.ref b2)])) t → Steps p.tables e below (s₁.setTop (entryFrame m #[(.int p1), (.int p2), (.int p3), (.int p4)] maxLocals)) t := fun t hk => K5 t (st6 _ hk)
  have K7 : ∀ t, Steps p.tables e below (T6.setTop (mkF m 18 #[.val (.int p1), .val (.int p2), .val (.int p3), .val (.int p4), .unset, .unset, .unset, .unset, .unset] [(.int (90 : Int32)), (.int (2 : Int32)), (.ref b2), (.ref b2)])) t → Steps p.tables e below (s₁.setTop (entryFrame m #[(.int p1), (.int p2), (.int p3), (.int p4)] maxLocals)) t := by
    intro t hk
    refine K6 t ?_
    show Steps p.tables e below (T6.setTop (mkF m 14 #[.val (.int p1), .val (.int p2), .val (.int p3), .val (.int p4), .unset, .unset, .unset, .unset, .unset] [(.ref b2)])) _
    refine XS.dup X6.here hx rfl (hb hby at_14) rfl rfl ?_
    show Steps p.tables e below (T6.setTop (mkF m 15 #[.val (.int p1), .val (.int p2), .val (.int p3), .val (.int p4), .unset, .unset, .unset, .unset, .unset] [(.ref b2), (.ref b2)])) _
    refine XS.iconst X6.here hx rfl (hb hby at_15) ?_
    show Steps p.tables e below (T6.setTop (mkF m 16 #[.val (.int p1), .val (.int p2), .val (.int p3), .val (.int p4), .unset, .unset, .unset, .unset, .unset] [(.int (2 : Int32)), (.ref b2), (.ref b2)])) _
    refine XS.bipush X6.here hx rfl (hb hby at_16) ?_
    show Steps p.tables e below (T6.setTop (mkF m 18 #[.val (.int p1), .val (.int p2), .val (.int p3), .val (.int p4), .unset, .unset, .unset, .unset, .unset] [(.int (90 : Int32)), (.int (2 : Int32)), (.ref b2), (.ref b2)])) _
    exact hk
  obtain ⟨T8, h8, X8, e8, W8, V8', st8⟩ := own_stI X6 hx hZ e6 V6 (j := (2 : Int32)) 2 rfl ⟨by decide, by decide⟩ (by decide) (g := (mkF m 18 #[.val (.int p1), .val (.int p2), .val (.int p3), .val (.int p4), .unset, .unset, .unset, .unset, .unset] [(.int (90 : Int32)), (.int (2 : Int32)), (.ref b2), (.ref b2)])) rfl rfl (hb hby at_18)
  have V8 : Arv Z h8 b2 c2 .int (30 : Int32) [(.int (58 : Int32)), (.int (65 : Int32)), (.int (90 : Int32)), (.int (0 : Int32)), (.int (0 : Int32)), (.int (0 : Int32)), (.int (0 : Int32)), (.int (0 : Int32)), (.int (0 : Int32)), (.int (0 : Int32)), (.int (0 : Int32)), (.int (0 : Int32)), (.int (0 : Int32)), (.int (0 : Int32)), (.int (0 : Int32)), (.int (0 : Int32)), (.int (0 : Int32)), (.int (0 : Int32)), (.int (0 : Int32)), (.int (0 : Int32)), (.int (0 : Int32)), (.int (0 : Int32)), (.int (0 : Int32)), (.int (0 : Int32)), (.int (0 : Int32)), (.int (0 : Int32)), (.int (0 : Int32)), (.int (0 : Int32)), (.int (0 : Int32)), (.int (0 : Int32))] (.int (0 : Int32)) := V8'
  have N8 := Fr.snoc X8 N6 gb2
  have sz8 : n0 ≤ h8.size := Nat.le_trans sz6 (Keep.of_wr W8).1
  have K8 : ∀ t, Steps p.tables e below (T8.setTop (mkF m 19 #[.val (.int p1), .val (.int p2), .val (.int p3), .val (.int p4), .unset, .unset, .unset, .unset, .unset] [(.ref b2)])) t → Steps p.tables e below (s₁.setTop (entryFrame m #[(.int p1), (.int p2), (.int p3), (.int p4)] maxLocals)) t := fun t hk => K7 t (st8 _ hk)
  have K9 : ∀ t, Steps p.tables e below (T8.setTop (mkF m 23 #[.val (.int p1), .val (.int p2), .val (.int p3), .val (.int p4), .unset, .unset, .unset, .unset, .unset] [(.int (95 : Int32)), (.int (3 : Int32)), (.ref b2), (.ref b2)])) t → Steps p.tables e below (s₁.setTop (entryFrame m #[(.int p1), (.int p2), (.int p3), (.int p4)] maxLocals)) t := by
    intro t hk
    refine K8 t ?_
    show Steps p.tables e below (T8.setTop (mkF m 19 #[.val (.int p1), .val (.int p2), .val (.int p3), .val (.int p4), .unset, .unset, .unset, .unset, .unset] [(.ref b2)])) _
    refine XS.dup X8.here hx rfl (hb hby at_19) rfl rfl ?_
    show Steps p.tables e below (T8.setTop (mkF m 20 #[.val (.int p1), .val (.int p2), .val (.int p3), .val (.int p4), .unset, .unset, .unset, .unset, .unset] [(.ref b2), (.ref b2)])) _
    refine XS.iconst X8.here hx rfl (hb hby at_20) ?_
    show Steps p.tables e below (T8.setTop (mkF m 21 #[.val (.int p1), .val (.int p2), .val (.int p3), .val (.int p4), .unset, .unset, .unset, .unset, .unset] [(.int (3 : Int32)), (.ref b2), (.ref b2)])) _
    refine XS.bipush X8.here hx rfl (hb hby at_21) ?_
    show Steps p.tables e below (T8.setTop (mkF m 23 #[.val (.int p1), .val (.int p2), .val (.int p3), .val (.int p4), .unset, .unset, .unset, .unset, .unset] [(.int (95 : Int32)), (.int (3 : Int32)), (.ref b2), (.ref b2)])) _
    exact hk
  obtain ⟨T10, h10, X10, e10, W10, V10', st10⟩ := own_stI X8 hx hZ e8 V8 (j := (3 : Int32)) 3 rfl ⟨by decide, by decide⟩ (by decide) (g := (mkF m 23 #[.val (.int p1), .val (.int p2), .val (.int p3), .val (.int p4), .unset, .unset, .unset, .unset, .unset] [(.int (95 : Int32)), (.int (3 : Int32)), (.ref b2), (.ref b2)])) rfl rfl (hb hby at_23)
  have V10 : Arv Z h10 b2 c2 .int (30 : Int32) [(.int (58 : Int32)), (.int (65 : Int32)), (.int (90 : Int32)), (.int (95 : Int32)), (.int (0 : Int32)), (.int (0 : Int32)), (.int (0 : Int32)), (.int (0 : Int32)), (.int (0 : Int32)), (.int (0 : Int32)), (.int (0 : Int32)), (.int (0 : Int32)), (.int (0 : Int32)), (.int (0 : Int32)), (.int (0 : Int32)), (.int (0 : Int32)), (.int (0 : Int32)), (.int (0 : Int32)), (.int (0 : Int32)), (.int (0 : Int32)), (.int (0 : Int32)), (.int (0 : Int32)), (.int (0 : Int32)), (.int (0 : Int32)), (.int (0 : Int32)), (.int (0 : Int32)), (.int (0 : Int32)), (.int (0 : Int32)), (.int (0 : Int32)), (.int (0 : Int32))] (.int (0 : Int32)) := V10'
  have N10 := Fr.snoc X10 N8 gb2
  have sz10 : n0 ≤ h10.size := Nat.le_trans sz8 (Keep.of_wr W10).1
  have K10 : ∀ t, Steps p.tables e below (T10.setTop (mkF m 24 #[.val (.int p1), .val (.int p2), .val (.int p3), .val (.int p4), .unset, .unset, .unset, .unset, .unset] [(.ref b2)])) t → Steps p.tables e below (s₁.setTop (entryFrame m #[(.int p1), (.int p2), (.int p3), (.int p4)] maxLocals)) t := fun t hk => K9 t (st10 _ hk)
  have K11 : ∀ t, Steps p.tables e below (T10.setTop (mkF m 28 #[.val (.int p1), .val (.int p2), .val (.int p3), .val (.int p4), .unset, .unset, .unset, .unset, .unset] [(.int (97 : Int32)), (.int (4 : Int32)), (.ref b2), (.ref b2)])) t → Steps p.tables e below (s₁.setTop (entryFrame m #[(.int p1), (.int p2), (.int p3), (.int p4)] maxLocals)) t := by
    intro t hk
    refine K10 t ?_
    show Steps p.tables e below (T10.setTop (mkF m 24 #[.val (.int p1), .val (.int p2), .val (.int p3), .val (.int p4), .unset, .unset, .unset, .unset, .unset] [(.ref b2)])) _
    refine XS.dup X10.here hx rfl (hb hby at_24) rfl rfl ?_
    show Steps p.tables e below (T10.setTop (mkF m 25 #[.val (.int p1), .val (.int p2), .val (.int p3), .val (.int p4), .unset, .unset, .unset, .unset, .unset] [(.ref b2), (.ref b2)])) _
    refine XS.iconst X10.here hx rfl (hb hby at_25) ?_
    show Steps p.tables e below (T10.setTop (mkF m 26 #[.val (.int p1), .val (.int p2), .val (.int p3), .val (.int p4), .unset, .unset, .unset, .unset, .unset] [(.int (4 : Int32)), (.ref b2), (.ref b2)])) _
    refine XS.bipush X10.here hx rfl (hb hby at_26) ?_
    show Steps p.tables e below (T10.setTop (mkF m 28 #[.val (.int p1), .val (.int p2), .val (.int p3), .val (.int p4), .unset, .unset, .unset, .unset, .unset] [(.int (97 : Int32)), (.int (4 : Int32)), (.ref b2), (.ref b2)])) _
    exact hk
  obtain ⟨T12, h12, X12, e12, W12, V12', st12⟩ := own_stI X10 hx hZ e10 V10 (j := (4 : Int32)) 4 rfl ⟨by decide, by decide⟩ (by decide) (g := (mkF m 28 #[.val (.int p1), .val (.int p2), .val (.int p3), .val (.int p4), .unset, .unset, .unset, .unset, .unset] [(.int (97 : Int32)), (.int (4 : Int32)), (.ref b2), (.ref b2)])) rfl rfl (hb hby at_28)
  have V12 : Arv Z h12 b2 c2 .int (30 : Int32) [(.int (58 : Int32)), (.int (65 : Int32)), (.int (90 : Int32)), (.int (95 : Int32)), (.int (97 : Int32)), (.int (0 : Int32)), (.int (0 : Int32)), (.int (0 : Int32)), (.int (0 : Int32)), (.int (0 : Int32)), (.int (0 : Int32)), (.int (0 : Int32)), (.int (0 : Int32)), (.int (0 : Int32)), (.int (0 : Int32)), (.int (0 : Int32)), (.int (0 : Int32)), (.int (0 : Int32)), (.int (0 : Int32)), (.int (0 : Int32)), (.int (0 : Int32)), (.int (0 : Int32)), (.int (0 : Int32)), (.int (0 : Int32)), (.int (0 : Int32)), (.int (0 : Int32)), (.int (0 : Int32)), (.int (0 : Int32)), (.int (0 : Int32)), (.int (0 : Int32))] (.int (0 : Int32)) := V12'
  have N12 := Fr.snoc X12 N10 gb2
  have sz12 : n0 ≤ h12.size := Nat.le_trans sz10 (Keep.of_wr W12).1
  have K12 : ∀ t, Steps p.tables e below (T12.setTop (mkF m 29 #[.val (.int p1), .val (.int p2), .val (.int p3), .val (.int p4), .unset, .unset, .unset, .unset, .unset] [(.ref b2)])) t → Steps p.tables e below (s₁.setTop (entryFrame m #[(.int p1), (.int p2), (.int p3), (.int p4)] maxLocals)) t := fun t hk => K11 t (st12 _ hk)
  have K13 : ∀ t, Steps p.tables e below (T12.setTop (mkF m 33 #[.val (.int p1), .val (.int p2), .val (.int p3), .val (.int p4), .unset, .unset, .unset, .unset, .unset] [(.int (122 : Int32)), (.int (5 : Int32)), (.ref b2), (.ref b2)])) t → Steps p.tables e below (s₁.setTop (entryFrame m #[(.int p1), (.int p2), (.int p3), (.int p4)] maxLocals)) t := by
    intro t hk
    refine K12 t ?_
    show Steps p.tables e below (T12.setTop (mkF m 29 #[.val (.int p1), .val (.int p2), .val (.int p3), .val (.int p4), .unset, .unset, .unset, .unset, .unset] [(.ref b2)])) _
    refine XS.dup X12.here hx rfl (hb hby at_29) rfl rfl ?_
    show Steps p.tables e below (T12.setTop (mkF m 30 #[.val (.int p1), .val (.int p2), .val (.int p3), .val (.int p4), .unset, .unset, .unset, .unset, .unset] [(.ref b2), (.ref b2)])) _
    refine XS.iconst X12.here hx rfl (hb hby at_30) ?_
    show Steps p.tables e below (T12.setTop (mkF m 31 #[.val (.int p1), .val (.int p2), .val (.int p3), .val (.int p4), .unset, .unset, .unset, .unset, .unset] [(.int (5 : Int32)), (.ref b2), (.ref b2)])) _
    refine XS.bipush X12.here hx rfl (hb hby at_31) ?_
    show Steps p.tables e below (T12.setTop (mkF m 33 #[.val (.int p1), .val (.int p2), .val (.int p3), .val (.int p4), .unset, .unset, .unset, .unset, .unset] [(.int (122 : Int32)), (.int (5 : Int32)), (.ref b2), (.ref b2)])) _
    exact hk
  obtain ⟨T14, h14, X14, e14, W14, V14', st14⟩ := own_stI X12 hx hZ e12 V12 (j := (5 : Int32)) 5 rfl ⟨by decide, by decide⟩ (by decide) (g := (mkF m 33 #[.val (.int p1), .val (.int p2), .val (.int p3), .val (.int p4), .unset, .unset, .unset, .unset, .unset] [(.int (122 : Int32)), (.int (5 : Int32)), (.ref b2), (.ref b2)])) rfl rfl (hb hby at_33)
  have V14 : Arv Z h14 b2 c2 .int (30 : Int32) [(.int (58 : Int32)), (.int (65 : Int32)), (.int (90 : Int32)), (.int (95 : Int32)), (.int (97 : Int32)), (.int (122 : Int32)), (.int (0 : Int32)), (.int (0 : Int32)), (.int (0 : Int32)), (.int (0 : Int32)), (.int (0 : Int32)), (.int (0 : Int32)), (.int (0 : Int32)), (.int (0 : Int32)), (.int (0 : Int32)), (.int (0 : Int32)), (.int (0 : Int32)), (.int (0 : Int32)), (.int (0 : Int32)), (.int (0 : Int32)), (.int (0 : Int32)), (.int (0 : Int32)), (.int (0 : Int32)), (.int (0 : Int32)), (.int (0 : Int32)), (.int (0 : Int32)), (.int (0 : Int32)), (.int (0 : Int32)), (.int (0 : Int32)), (.int (0 : Int32))] (.int (0 : Int32)) := V14'
  have N14 := Fr.snoc X14 N12 gb2
  have sz14 : n0 ≤ h14.size := Nat.le_trans sz12 (Keep.of_wr W14).1
  have K14 : ∀ t, Steps p.tables e below (T14.setTop (mkF m 34 #[.val (.int p1), .val (.int p2), .val (.int p3), .val (.int p4), .unset, .unset, .unset, .unset, .unset] [(.ref b2)])) t → Steps p.tables e below (s₁.setTop (entryFrame m #[(.int p1), (.int p2), (.int p3), (.int p4)] maxLocals)) t := fun t hk => K13 t (st14 _ hk)
  have K15 : ∀ t, Steps p.tables e below (T14.setTop (mkF m 40 #[.val (.int p1), .val (.int p2), .val (.int p3), .val (.int p4), .unset, .unset, .unset, .unset, .unset] [(.int (192 : Int32)), (.int (6 : Int32)), (.ref b2), (.ref b2)])) t → Steps p.tables e below (s₁.setTop (entryFrame m #[(.int p1), (.int p2), (.int p3), (.int p4)] maxLocals)) t := by
    intro t hk
    refine K14 t ?_
    show Steps p.tables e below (T14.setTop (mkF m 34 #[.val (.int p1), .val (.int p2), .val (.int p3), .val (.int p4), .unset, .unset, .unset, .unset, .unset] [(.ref b2)])) _
    refine XS.dup X14.here hx rfl (hb hby at_34) rfl rfl ?_
    show Steps p.tables e below (T14.setTop (mkF m 35 #[.val (.int p1), .val (.int p2), .val (.int p3), .val (.int p4), .unset, .unset, .unset, .unset, .unset] [(.ref b2), (.ref b2)])) _
    refine XS.bipush X14.here hx rfl (hb hby at_35) ?_
    show Steps p.tables e below (T14.setTop (mkF m 37 #[.val (.int p1), .val (.int p2), .val (.int p3), .val (.int p4), .unset, .unset, .unset, .unset, .unset] [(.int (6 : Int32)), (.ref b2), (.ref b2)])) _
    refine XS.sipush X14.here hx rfl (hb hby at_37) ?_
    show Steps p.tables e below (T14.setTop (mkF m 40 #[.val (.int p1), .val (.int p2), .val (.int p3), .val (.int p4), .unset, .unset, .unset, .unset, .unset] [(.int (192 : Int32)), (.int (6 : Int32)), (.ref b2), (.ref b2)])) _
    exact hk
  obtain ⟨T16, h16, X16, e16, W16, V16', st16⟩ := own_stI X14 hx hZ e14 V14 (j := (6 : Int32)) 6 rfl ⟨by decide, by decide⟩ (by decide) (g := (mkF m 40 #[.val (.int p1), .val (.int p2), .val (.int p3), .val (.int p4), .unset, .unset, .unset, .unset, .unset] [(.int (192 : Int32)), (.int (6 : Int32)), (.ref b2), (.ref b2)])) rfl rfl (hb hby at_40)
  have V16 : Arv Z h16 b2 c2 .int (30 : Int32) [(.int (58 : Int32)), (.int (65 : Int32)), (.int (90 : Int32)), (.int (95 : Int32)), (.int (97 : Int32)), (.int (122 : Int32)), (.int (192 : Int32)), (.int (0 : Int32)), (.int (0 : Int32)), (.int (0 : Int32)), (.int (0 : Int32)), (.int (0 : Int32)), (.int (0 : Int32)), (.int (0 : Int32)), (.int (0 : Int32)), (.int (0 : Int32)), (.int (0 : Int32)), (.int (0 : Int32)), (.int (0 : Int32)), (.int (0 : Int32)), (.int (0 : Int32)), (.int (0 : Int32)), (.int (0 : Int32)), (.int (0 : Int32)), (.int (0 : Int32)), (.int (0 : Int32)), (.int (0 : Int32)), (.int (0 : Int32)), (.int (0 : Int32)), (.int (0 : Int32))] (.int (0 : Int32)) := V16'
  have N16 := Fr.snoc X16 N14 gb2
  have sz16 : n0 ≤ h16.size := Nat.le_trans sz14 (Keep.of_wr W16).1
  have K16 : ∀ t, Steps p.tables e below (T16.setTop (mkF m 41 #[.val (.int p1), .val (.int p2), .val (.int p3), .val (.int p4), .unset, .unset, .unset, .unset, .unset] [(.ref b2)])) t → Steps p.tables e below (s₁.setTop (entryFrame m #[(.int p1), (.int p2), (.int p3), (.int p4)] maxLocals)) t := fun t hk => K15 t (st16 _ hk)
  have K17 : ∀ t, Steps p.tables e below (T16.setTop (mkF m 47 #[.val (.int p1), .val (.int p2), .val (.int p3), .val (.int p4), .unset, .unset, .unset, .unset, .unset] [(.int (214 : Int32)), (.int (7 : Int32)), (.ref b2), (.ref b2)])) t → Steps p.tables e below (s₁.setTop (entryFrame m #[(.int p1), (.int p2), (.int p3), (.int p4)] maxLocals)) t := by
    intro t hk
    refine K16 t ?_
    show Steps p.tables e below (T16.setTop (mkF m 41 #[.val (.int p1), .val (.int p2), .val (.int p3), .val (.int p4), .unset, .unset, .unset, .unset, .unset] [(.ref b2)])) _
    refine XS.dup X16.here hx rfl (hb hby at_41) rfl rfl ?_
    show Steps p.tables e below (T16.setTop (mkF m 42 #[.val (.int p1), .val (.int p2), .val (.int p3), .val (.int p4), .unset, .unset, .unset, .unset, .unset] [(.ref b2), (.ref b2)])) _
    refine XS.bipush X16.here hx rfl (hb hby at_42) ?_
    show Steps p.tables e below (T16.setTop (mkF m 44 #[.val (.int p1), .val (.int p2), .val (.int p3), .val (.int p4), .unset, .unset, .unset, .unset, .unset] [(.int (7 : Int32)), (.ref b2), (.ref b2)])) _
    refine XS.sipush X16.here hx rfl (hb hby at_44) ?_
    show Steps p.tables e below (T16.setTop (mkF m 47 #[.val (.int p1), .val (.int p2), .val (.int p3), .val (.int p4), .unset, .unset, .unset, .unset, .unset] [(.int (214 : Int32)), (.int (7 : Int32)), (.ref b2), (.ref b2)])) _
    exact hk
  obtain ⟨T18, h18, X18, e18, W18, V18', st18⟩ := own_stI X16 hx hZ e16 V16 (j := (7 : Int32)) 7 rfl ⟨by decide, by decide⟩ (by decide) (g := (mkF m 47 #[.val (.int p1), .val (.int p2), .val (.int p3), .val (.int p4), .unset, .unset, .unset, .unset, .unset] [(.int (214 : Int32)), (.int (7 : Int32)), (.ref b2), (.ref b2)])) rfl rfl (hb hby at_47)
  have V18 : Arv Z h18 b2 c2 .int (30 : Int32) [(.int (58 : Int32)), (.int (65 : Int32)), (.int (90 : Int32)), (.int (95 : Int32)), (.int (97 : Int32)), (.int (122 : Int32)), (.int (192 : Int32)), (.int (214 : Int32)), (.int (0 : Int32)), (.int (0 : Int32)), (.int (0 : Int32)), (.int (0 : Int32)), (.int (0 : Int32)), (.int (0 : Int32)), (.int (0 : Int32)), (.int (0 : Int32)), (.int (0 : Int32)), (.int (0 : Int32)), (.int (0 : Int32)), (.int (0 : Int32)), (.int (0 : Int32)), (.int (0 : Int32)), (.int (0 : Int32)), (.int (0 : Int32)), (.int (0 : Int32)), (.int (0 : Int32)), (.int (0 : Int32)), (.int (0 : Int32)), (.int (0 : Int32)), (.int (0 : Int32))] (.int (0 : Int32)) := V18'
  have N18 := Fr.snoc X18 N16 gb2
  have sz18 : n0 ≤ h18.size := Nat.le_trans sz16 (Keep.of_wr W18).1
  have K18 : ∀ t, Steps p.tables e below (T18.setTop (mkF m 48 #[.val (.int p1), .val (.int p2), .val (.int p3), .val (.int p4), .unset, .unset, .unset, .unset, .unset] [(.ref b2)])) t → Steps p.tables e below (s₁.setTop (entryFrame m #[(.int p1), (.int p2), (.int p3), (.int p4)] maxLocals)) t := fun t hk => K17 t (st18 _ hk)
  have K19 : ∀ t, Steps p.tables e below (T18.setTop (mkF m 54 #[.val (.int p1), .val (.int p2), .val (.int p3), .val (.int p4), .unset, .unset, .unset, .unset, .unset] [(.int (216 : Int32)), (.int (8 : Int32)), (.ref b2), (.ref b2)])) t → Steps p.tables e below (s₁.setTop (entryFrame m #[(.int p1), (.int p2), (.int p3), (.int p4)] maxLocals)) t := by
    intro t hk
    refine K18 t ?_
    show Steps p.tables e below (T18.setTop (mkF m 48 #[.val (.int p1), .val (.int p2), .val (.int p3), .val (.int p4), .unset, .unset, .unset, .unset, .unset] [(.ref b2)])) _
    refine XS.dup X18.here hx rfl (hb hby at_48) rfl rfl ?_
    show Steps p.tables e below (T18.setTop (mkF m 49 #[.val (.int p1), .val (.int p2), .val (.int p3), .val (.int p4), .unset, .unset, .unset, .unset, .unset] [(.ref b2), (.ref b2)])) _
    refine XS.bipush X18.here hx rfl (hb hby at_49) ?_
    show Steps p.tables e below (T18.setTop (mkF m 51 #[.val (.int p1), .val (.int p2), .val (.int p3), .val (.int p4), .unset, .unset, .unset, .unset, .unset] [(.int (8 : Int32)), (.ref b2), (.ref b2)])) _
    refine XS.sipush X18.here hx rfl (hb hby at_51) ?_
    show Steps p.tables e below (T18.setTop (mkF m 54 #[.val (.int p1), .val (.int p2), .val (.int p3), .val (.int p4), .unset, .unset, .unset, .unset, .unset] [(.int (216 : Int32)), (.int (8 : Int32)), (.ref b2), (.ref b2)])) _
    exact hk
  obtain ⟨T20, h20, X20, e20, W20, V20', st20⟩ := own_stI X18 hx hZ e18 V18 (j := (8 : Int32)) 8 rfl ⟨by decide, by decide⟩ (by decide) (g := (mkF m 54 #[.val (.int p1), .val (.int p2), .val (.int p3), .val (.int p4), .unset, .unset, .unset, .unset, .unset] [(.int (216 : Int32)), (.int (8 : Int32)), (.ref b2), (.ref b2)])) rfl rfl (hb hby at_54)
  have V20 : Arv Z h20 b2 c2 .int (30 : Int32) [(.int (58 : Int32)), (.int (65 : Int32)), (.int (90 : Int32)), (.int (95 : Int32)), (.int (97 : Int32)), (.int (122 : Int32)), (.int (192 : Int32)), (.int (214 : Int32)), (.int (216 : Int32)), (.int (0 : Int32)), (.int (0 : Int32)), (.int (0 : Int32)), (.int (0 : Int32)), (.int (0 : Int32)), (.int (0 : Int32)), (.int (0 : Int32)), (.int (0 : Int32)), (.int (0 : Int32)), (.int (0 : Int32)), (.int (0 : Int32)), (.int (0 : Int32)), (.int (0 : Int32)), (.int (0 : Int32)), (.int (0 : Int32)), (.int (0 : Int32)), (.int (0 : Int32)), (.int (0 : Int32)), (.int (0 : Int32)), (.int (0 : Int32)), (.int (0 : Int32))] (.int (0 : Int32)) := V20'
  have N20 := Fr.snoc X20 N18 gb2
  have sz20 : n0 ≤ h20.size := Nat.le_trans sz18 (Keep.of_wr W20).1
  have K20 : ∀ t, Steps p.tables e below (T20.setTop (mkF m 55 #[.val (.int p1), .val (.int p2), .val (.int p3), .val (.int p4), .unset, .unset, .unset, .unset, .unset] [(.ref b2)])) t → Steps p.tables e below (s₁.setTop (entryFrame m #[(.int p1), (.int p2), (.int p3), (.int p4)] maxLocals)) t := fun t hk => K19 t (st20 _ hk)
  have K21 : ∀ t, Steps p.tables e below (T20.setTop (mkF m 61 #[.val (.int p1), .val (.int p2), .val (.int p3), .val (.int p4), .unset, .unset, .unset, .unset, .unset] [(.int (246 : Int32)), (.int (9 : Int32)), (.ref b2), (.ref b2)])) t → Steps p.tables e below (s₁.setTop (entryFrame m #[(.int p1), (.int p2), (.int p3), (.int p4)] maxLocals)) t := by
    intro t hk
    refine K20 t ?_
    show Steps p.tables e below (T20.setTop (mkF m 55 #[.val (.int p1), .val (.int p2), .val (.int p3), .val (.int p4), .unset, .unset, .unset, .unset, .unset] [(.ref b2)])) _
    refine XS.dup X20.here hx rfl (hb hby at_55) rfl rfl ?_
    show Steps p.tables e below (T20.setTop (mkF m 56 #[.val (.int p1), .val (.int p2), .val (.int p3), .val (.int p4), .unset, .unset, .unset, .unset, .unset] [(.ref b2), (.ref b2)])) _
    refine XS.bipush X20.here hx rfl (hb hby at_56) ?_
    show Steps p.tables e below (T20.setTop (mkF m 58 #[.val (.int p1), .val (.int p2), .val (.int p3), .val (.int p4), .unset, .unset, .unset, .unset, .unset] [(.int (9 : Int32)), (.ref b2), (.ref b2)])) _
    refine XS.sipush X20.here hx rfl (hb hby at_58) ?_
    show Steps p.tables e below (T20.setTop (mkF m 61 #[.val (.int p1), .val (.int p2), .val (.int p3), .val (.int p4), .unset, .unset, .unset, .unset, .unset] [(.int (246 : Int32)), (.int (9 : Int32)), (.ref b2), (.ref b2)])) _
    exact hk
  obtain ⟨T22, h22, X22, e22, W22, V22', st22⟩ := own_stI X20 hx hZ e20 V20 (j := (9 : Int32)) 9 rfl ⟨by decide, by decide⟩ (by decide) (g := (mkF m 61 #[.val (.int p1), .val (.int p2), .val (.int p3), .val (.int p4), .unset, .unset, .unset, .unset, .unset] [(.int (246 : Int32)), (.int (9 : Int32)), (.ref b2), (.ref b2)])) rfl rfl (hb hby at_61)
  have V22 : Arv Z h22 b2 c2 .int (30 : Int32) [(.int (58 : Int32)), (.int (65 : Int32)), (.int (90 : Int32)), (.int (95 : Int32)), (.int (97 : Int32)), (.int (122 : Int32)), (.int (192 : Int32)), (.int (214 : Int32)), (.int (216 : Int32)), (.int (246 : Int32)), (.int (0 : Int32)), (.int (0 : Int32)), (.int (0 : Int32)), (.int (0 : Int32)), (.int (0 : Int32)), (.int (0 : Int32)), (.int (0 : Int32)), (.int (0 : Int32)), (.int (0 : Int32)), (.int (0 : Int32)), (.int (0 : Int32)), (.int (0 : Int32)), (.int (0 : Int32)), (.int (0 : Int32)), (.int (0 : Int32)), (.int (0 : Int32)), (.int (0 : Int32)), (.int (0 : Int32)), (.int (0 : Int32)), (.int (0 : Int32))] (.int (0 : Int32)) := V22'
  have N22 := Fr.snoc X22 N20 gb2
  have sz22 : n0 ≤ h22.size := Nat.le_trans sz20 (Keep.of_wr W22).1
  have K22 : ∀ t, Steps p.tables e below (T22.setTop (mkF m 62 #[.val (.int p1), .val (.int p2), .val (.int p3), .val (.int p4), .unset, .unset, .unset, .unset, .unset] [(.ref b2)])) t → Steps p.tables e below (s₁.setTop (entryFrame m #[(.int p1), (.int p2), (.int p3), (.int p4)] maxLocals)) t := fun t hk => K21 t (st22 _ hk)
  have K23 : ∀ t, Steps p.tables e below (T22.setTop (mkF m 68 #[.val (.int p1), .val (.int p2), .val (.int p3), .val (.int p4), .unset, .unset, .unset, .unset, .unset] [(.int (248 : Int32)), (.int (10 : Int32)), (.ref b2), (.ref b2)])) t → Steps p.tables e below (s₁.setTop (entryFrame m #[(.int p1), (.int p2), (.int p3), (.int p4)] maxLocals)) t := by
    intro t hk
    refine K22 t ?_
    show Steps p.tables e below (T22.setTop (mkF m 62 #[.val (.int p1), .val (.int p2), .val (.int p3), .val (.int p4), .unset, .unset, .unset, .unset, .unset] [(.ref b2)])) _
    refine XS.dup X22.here hx rfl (hb hby at_62) rfl rfl ?_
    show Steps p.tables e below (T22.setTop (mkF m 63 #[.val (.int p1), .val (.int p2), .val (.int p3), .val (.int p4), .unset, .unset, .unset, .unset, .unset] [(.ref b2), (.ref b2)])) _
    refine XS.bipush X22.here hx rfl (hb hby at_63) ?_
    show Steps p.tables e below (T22.setTop (mkF m 65 #[.val (.int p1), .val (.int p2), .val (.int p3), .val (.int p4), .unset, .unset, .unset, .unset, .unset] [(.int (10 : Int32)), (.ref b2), (.ref b2)])) _
    refine XS.sipush X22.here hx rfl (hb hby at_65) ?_
    show Steps p.tables e below (T22.setTop (mkF m 68 #[.val (.int p1), .val (.int p2), .val (.int p3), .val (.int p4), .unset, .unset, .unset, .unset, .unset] [(.int (248 : Int32)), (.int (10 : Int32)), (.ref b2), (.ref b2)])) _
    exact hk
  obtain ⟨T24, h24, X24, e24, W24, V24', st24⟩ := own_stI X22 hx hZ e22 V22 (j := (10 : Int32)) 10 rfl ⟨by decide, by decide⟩ (by decide) (g := (mkF m 68 #[.val (.int p1), .val (.int p2), .val (.int p3), .val (.int p4), .unset, .unset, .unset, .unset, .unset] [(.int (248 : Int32)), (.int (10 : Int32)), (.ref b2), (.ref b2)])) rfl rfl (hb hby at_68)
  have V24 : Arv Z h24 b2 c2 .int (30 : Int32) [(.int (58 : Int32)), (.int (65 : Int32)), (.int (90 : Int32)), (.int (95 : Int32)), (.int (97 : Int32)), (.int (122 : Int32)), (.int (192 : Int32)), (.int (214 : Int32)), (.int (216 : Int32)), (.int (246 : Int32)), (.int (248 : Int32)), (.int (0 : Int32)), (.int (0 : Int32)), (.int (0 : Int32)), (.int (0 : Int32)), (.int (0 : Int32)), (.int (0 : Int32)), (.int (0 : Int32)), (.int (0 : Int32)), (.int (0 : Int32)), (.int (0 : Int32)), (.int (0 : Int32)), (.int (0 : Int32)), (.int (0 : Int32)), (.int (0 : Int32)), (.int (0 : Int32)), (.int (0 : Int32)), (.int (0 : Int32)), (.int (0 : Int32)), (.int (0 : Int32))] (.int (0 : Int32)) := V24'
  have N24 := Fr.snoc X24 N22 gb2
  have sz24 : n0 ≤ h24.size := Nat.le_trans sz22 (Keep.of_wr W24).1
  have K24 : ∀ t, Steps p.tables e below (T24.setTop (mkF m 69 #[.val (.int p1), .val (.int p2), .val (.int p3), .val (.int p4), .unset, .unset, .unset, .unset, .unset] [(.ref b2)])) t → Steps p.tables e below (s₁.setTop (entryFrame m #[(.int p1), (.int p2), (.int p3), (.int p4)] maxLocals)) t := fun t hk => K23 t (st24 _ hk)
  have K25 : ∀ t, Steps p.tables e below (T24.setTop (mkF m 75 #[.val (.int p1), .val (.int p2), .val (.int p3), .val (.int p4), .unset, .unset, .unset, .unset, .unset] [(.int (767 : Int32)), (.int (11 : Int32)), (.ref b2), (.ref b2)])) t → Steps p.tables e below (s₁.setTop (entryFrame m #[(.int p1), (.int p2), (.int p3), (.int p4)] maxLocals)) t := by
    intro t hk
    refine K24 t ?_
    show Steps p.tables e below (T24.setTop (mkF m 69 #[.val (.int p1), .val (.int p2), .val (.int p3), .val (.int p4), .unset, .unset, .unset, .unset, .unset] [(.ref b2)])) _
    refine XS.dup X24.here hx rfl (hb hby at_69) rfl rfl ?_
    show Steps p.tables e below (T24.setTop (mkF m 70 #[.val (.int p1), .val (.int p2), .val (.int p3), .val (.int p4), .unset, .unset, .unset, .unset, .unset] [(.ref b2), (.ref b2)])) _
    refine XS.bipush X24.here hx rfl (hb hby at_70) ?_
    show Steps p.tables e below (T24.setTop (mkF m 72 #[.val (.int p1), .val (.int p2), .val (.int p3), .val (.int p4), .unset, .unset, .unset, .unset, .unset] [(.int (11 : Int32)), (.ref b2), (.ref b2)])) _
    refine XS.sipush X24.here hx rfl (hb hby at_72) ?_
    show Steps p.tables e below (T24.setTop (mkF m 75 #[.val (.int p1), .val (.int p2), .val (.int p3), .val (.int p4), .unset, .unset, .unset, .unset, .unset] [(.int (767 : Int32)), (.int (11 : Int32)), (.ref b2), (.ref b2)])) _
    exact hk
  obtain ⟨T26, h26, X26, e26, W26, V26', st26⟩ := own_stI X24 hx hZ e24 V24 (j := (11 : Int32)) 11 rfl ⟨by decide, by decide⟩ (by decide) (g := (mkF m 75 #[.val (.int p1), .val (.int p2), .val (.int p3), .val (.int p4), .unset, .unset, .unset, .unset, .unset] [(.int (767 : Int32)), (.int (11 : Int32)), (.ref b2), (.ref b2)])) rfl rfl (hb hby at_75)
  have V26 : Arv Z h26 b2 c2 .int (30 : Int32) [(.int (58 : Int32)), (.int (65 : Int32)), (.int (90 : Int32)), (.int (95 : Int32)), (.int (97 : Int32)), (.int (122 : Int32)), (.int (192 : Int32)), (.int (214 : Int32)), (.int (216 : Int32)), (.int (246 : Int32)), (.int (248 : Int32)), (.int (767 : Int32)), (.int (0 : Int32)), (.int (0 : Int32)), (.int (0 : Int32)), (.int (0 : Int32)), (.int (0 : Int32)), (.int (0 : Int32)), (.int (0 : Int32)), (.int (0 : Int32)), (.int (0 : Int32)), (.int (0 : Int32)), (.int (0 : Int32)), (.int (0 : Int32)), (.int (0 : Int32)), (.int (0 : Int32)), (.int (0 : Int32)), (.int (0 : Int32)), (.int (0 : Int32)), (.int (0 : Int32))] (.int (0 : Int32)) := V26'
  have N26 := Fr.snoc X26 N24 gb2
  have sz26 : n0 ≤ h26.size := Nat.le_trans sz24 (Keep.of_wr W26).1
  have K26 : ∀ t, Steps p.tables e below (T26.setTop (mkF m 76 #[.val (.int p1), .val (.int p2), .val (.int p3), .val (.int p4), .unset, .unset, .unset, .unset, .unset] [(.ref b2)])) t → Steps p.tables e below (s₁.setTop (entryFrame m #[(.int p1), (.int p2), (.int p3), (.int p4)] maxLocals)) t := fun t hk => K25 t (st26 _ hk)
  have K27 : ∀ t, Steps p.tables e below (T26.setTop (mkF m 82 #[.val (.int p1), .val (.int p2), .val (.int p3), .val (.int p4), .unset, .unset, .unset, .unset, .unset] [(.int (880 : Int32)), (.int (12 : Int32)), (.ref b2), (.ref b2)])) t → Steps p.tables e below (s₁.setTop (entryFrame m #[(.int p1), (.int p2), (.int p3), (.int p4)] maxLocals)) t := by
    intro t hk
    refine K26 t ?_
    show Steps p.tables e below (T26.setTop (mkF m 76 #[.val (.int p1), .val (.int p2), .val (.int p3), .val (.int p4), .unset, .unset, .unset, .unset, .unset] [(.ref b2)])) _
    refine XS.dup X26.here hx rfl (hb hby at_76) rfl rfl ?_
    show Steps p.tables e below (T26.setTop (mkF m 77 #[.val (.int p1), .val (.int p2), .val (.int p3), .val (.int p4), .unset, .unset, .unset, .unset, .unset] [(.ref b2), (.ref b2)])) _
    refine XS.bipush X26.here hx rfl (hb hby at_77) ?_
    show Steps p.tables e below (T26.setTop (mkF m 79 #[.val (.int p1), .val (.int p2), .val (.int p3), .val (.int p4), .unset, .unset, .unset, .unset, .unset] [(.int (12 : Int32)), (.ref b2), (.ref b2)])) _
    refine XS.sipush X26.here hx rfl (hb hby at_79) ?_
    show Steps p.tables e below (T26.setTop (mkF m 82 #[.val (.int p1), .val (.int p2), .val (.int p3), .val (.int p4), .unset, .unset, .unset, .unset, .unset] [(.int (880 : Int32)), (.int (12 : Int32)), (.ref b2), (.ref b2)])) _
    exact hk
  obtain ⟨T28, h28, X28, e28, W28, V28', st28⟩ := own_stI X26 hx hZ e26 V26 (j := (12 : Int32)) 12 rfl ⟨by decide, by decide⟩ (by decide) (g := (mkF m 82 #[.val (.int p1), .val (.int p2), .val (.int p3), .val (.int p4), .unset, .unset, .unset, .unset, .unset] [(.int (880 : Int32)), (.int (12 : Int32)), (.ref b2), (.ref b2)])) rfl rfl (hb hby at_82)
  have V28 : Arv Z h28 b2 c2 .int (30 : Int32) [(.int (58 : Int32)), (.int (65 : Int32)), (.int (90 : Int32)), (.int (95 : Int32)), (.int (97 : Int32)), (.int (122 : Int32)), (.int (192 : Int32)), (.int (214 : Int32)), (.int (216 : Int32)), (.int (246 : Int32)), (.int (248 : Int32)), (.int (767 : Int32)), (.int (880 : Int32)), (.int (0 : Int32)), (.int (0 : Int32)), (.int (0 : Int32)), (.int (0 : Int32)), (.int (0 : Int32)), (.int (0 : Int32)), (.int (0 : Int32)), (.int (0 : Int32)), (.int (0 : Int32)), (.int (0 : Int32)), (.int (0 : Int32)), (.int (0 : Int32)), (.int (0 : Int32)), (.int (0 : Int32)), (.int (0 : Int32)), (.int (0 : Int32)), (.int (0 : Int32))] (.int (0 : Int32)) := V28'
  have N28 := Fr.snoc X28 N26 gb2
  have sz28 : n0 ≤ h28.size := Nat.le_trans sz26 (Keep.of_wr W28).1
  have K28 : ∀ t, Steps p.tables e below (T28.setTop (mkF m 83 #[.val (.int p1), .val (.int p2), .val (.int p3), .val (.int p4), .unset, .unset, .unset, .unset, .unset] [(.ref b2)])) t → Steps p.tables e below (s₁.setTop (entryFrame m #[(.int p1), (.int p2), (.int p3), (.int p4)] maxLocals)) t := fun t hk => K27 t (st28 _ hk)
  have K29 : ∀ t, Steps p.tables e below (T28.setTop (mkF m 89 #[.val (.int p1), .val (.int p2), .val (.int p3), .val (.int p4), .unset, .unset, .unset, .unset, .unset] [(.int (893 : Int32)), (.int (13 : Int32)), (.ref b2), (.ref b2)])) t → Steps p.tables e below (s₁.setTop (entryFrame m #[(.int p1), (.int p2), (.int p3), (.int p4)] maxLocals)) t := by
    intro t hk
    refine K28 t ?_
    show Steps p.tables e below (T28.setTop (mkF m 83 #[.val (.int p1), .val (.int p2), .val (.int p3), .val (.int p4), .unset, .unset, .unset, .unset, .unset] [(.ref b2)])) _
    refine XS.dup X28.here hx rfl (hb hby at_83) rfl rfl ?_
    show Steps p.tables e below (T28.setTop (mkF m 84 #[.val (.int p1), .val (.int p2), .val (.int p3), .val (.int p4), .unset, .unset, .unset, .unset, .unset] [(.ref b2), (.ref b2)])) _
    refine XS.bipush X28.here hx rfl (hb hby at_84) ?_
    show Steps p.tables e below (T28.setTop (mkF m 86 #[.val (.int p1), .val (.int p2), .val (.int p3), .val (.int p4), .unset, .unset, .unset, .unset, .unset] [(.int (13 : Int32)), (.ref b2), (.ref b2)])) _
    refine XS.sipush X28.here hx rfl (hb hby at_86) ?_
    show Steps p.tables e below (T28.setTop (mkF m 89 #[.val (.int p1), .val (.int p2), .val (.int p3), .val (.int p4), .unset, .unset, .unset, .unset, .unset] [(.int (893 : Int32)), (.int (13 : Int32)), (.ref b2), (.ref b2)])) _
    exact hk
  obtain ⟨T30, h30, X30, e30, W30, V30', st30⟩ := own_stI X28 hx hZ e28 V28 (j := (13 : Int32)) 13 rfl ⟨by decide, by decide⟩ (by decide) (g := (mkF m 89 #[.val (.int p1), .val (.int p2), .val (.int p3), .val (.int p4), .unset, .unset, .unset, .unset, .unset] [(.int (893 : Int32)), (.int (13 : Int32)), (.ref b2), (.ref b2)])) rfl rfl (hb hby at_89)
  have V30 : Arv Z h30 b2 c2 .int (30 : Int32) [(.int (58 : Int32)), (.int (65 : Int32)), (.int (90 : Int32)), (.int (95 : Int32)), (.int (97 : Int32)), (.int (122 : Int32)), (.int (192 : Int32)), (.int (214 : Int32)), (.int (216 : Int32)), (.int (246 : Int32)), (.int (248 : Int32)), (.int (767 : Int32)), (.int (880 : Int32)), (.int (893 : Int32)), (.int (0 : Int32)), (.int (0 : Int32)), (.int (0 : Int32)), (.int (0 : Int32)), (.int (0 : Int32)), (.int (0 : Int32)), (.int (0 : Int32)), (.int (0 : Int32)), (.int (0 : Int32)), (.int (0 : Int32)), (.int (0 : Int32)), (.int (0 : Int32)), (.int (0 : Int32)), (.int (0 : Int32)), (.int (0 : Int32)), (.int (0 : Int32))] (.int (0 : Int32)) := V30'
  have N30 := Fr.snoc X30 N28 gb2
  have sz30 : n0 ≤ h30.size := Nat.le_trans sz28 (Keep.of_wr W30).1
  have K30 : ∀ t, Steps p.tables e below (T30.setTop (mkF m 90 #[.val (.int p1), .val (.int p2), .val (.int p3), .val (.int p4), .unset, .unset, .unset, .unset, .unset] [(.ref b2)])) t → Steps p.tables e below (s₁.setTop (entryFrame m #[(.int p1), (.int p2), (.int p3), (.int p4)] maxLocals)) t := fun t hk => K29 t (st30 _ hk)
  have K31 : ∀ t, Steps p.tables e below (T30.setTop (mkF m 96 #[.val (.int p1), .val (.int p2), .val (.int p3), .val (.int p4), .unset, .unset, .unset, .unset, .unset] [(.int (895 : Int32)), (.int (14 : Int32)), (.ref b2), (.ref b2)])) t → Steps p.tables e below (s₁.setTop (entryFrame m #[(.int p1), (.int p2), (.int p3), (.int p4)] maxLocals)) t := by
    intro t hk
    refine K30 t ?_
    show Steps p.tables e below (T30.setTop (mkF m 90 #[.val (.int p1), .val (.int p2), .val (.int p3), .val (.int p4), .unset, .unset, .unset, .unset, .unset] [(.ref b2)])) _
    refine XS.dup X30.here hx rfl (hb hby at_90) rfl rfl ?_
    show Steps p.tables e below (T30.setTop (mkF m 91 #[.val (.int p1), .val (.int p2), .val (.int p3), .val (.int p4), .unset, .unset, .unset, .unset, .unset] [(.ref b2), (.ref b2)])) _
    refine XS.bipush X30.here hx rfl (hb hby at_91) ?_
    show Steps p.tables e below (T30.setTop (mkF m 93 #[.val (.int p1), .val (.int p2), .val (.int p3), .val (.int p4), .unset, .unset, .unset, .unset, .unset] [(.int (14 : Int32)), (.ref b2), (.ref b2)])) _
    refine XS.sipush X30.here hx rfl (hb hby at_93) ?_
    show Steps p.tables e below (T30.setTop (mkF m 96 #[.val (.int p1), .val (.int p2), .val (.int p3), .val (.int p4), .unset, .unset, .unset, .unset, .unset] [(.int (895 : Int32)), (.int (14 : Int32)), (.ref b2), (.ref b2)])) _
    exact hk
  obtain ⟨T32, h32, X32, e32, W32, V32', st32⟩ := own_stI X30 hx hZ e30 V30 (j := (14 : Int32)) 14 rfl ⟨by decide, by decide⟩ (by decide) (g := (mkF m 96 #[.val (.int p1), .val (.int p2), .val (.int p3), .val (.int p4), .unset, .unset, .unset, .unset, .unset] [(.int (895 : Int32)), (.int (14 : Int32)), (.ref b2), (.ref b2)])) rfl rfl (hb hby at_96)
  have V32 : Arv Z h32 b2 c2 .int (30 : Int32) [(.int (58 : Int32)), (.int (65 : Int32)), (.int (90 : Int32)), (.int (95 : Int32)), (.int (97 : Int32)), (.int (122 : Int32)), (.int (192 : Int32)), (.int (214 : Int32)), (.int (216 : Int32)), (.int (246 : Int32)), (.int (248 : Int32)), (.int (767 : Int32)), (.int (880 : Int32)), (.int (893 : Int32)), (.int (895 : Int32)), (.int (0 : Int32)), (.int (0 : Int32)), (.int (0 : Int32)), (.int (0 : Int32)), (.int (0 : Int32)), (.int (0 : Int32)), (.int (0 : Int32)), (.int (0 : Int32)), (.int (0 : Int32)), (.int (0 : Int32)), (.int (0 : Int32)), (.int (0 : Int32)), (.int (0 : Int32)), (.int (0 : Int32)), (.int (0 : Int32))] (.int (0 : Int32)) := V32'
  have N32 := Fr.snoc X32 N30 gb2
  have sz32 : n0 ≤ h32.size := Nat.le_trans sz30 (Keep.of_wr W32).1
  have K32 : ∀ t, Steps p.tables e below (T32.setTop (mkF m 97 #[.val (.int p1), .val (.int p2), .val (.int p3), .val (.int p4), .unset, .unset, .unset, .unset, .unset] [(.ref b2)])) t → Steps p.tables e below (s₁.setTop (entryFrame m #[(.int p1), (.int p2), (.int p3), (.int p4)] maxLocals)) t := fun t hk => K31 t (st32 _ hk)
  have K33 : ∀ t, Steps p.tables e below (T32.setTop (mkF m 103 #[.val (.int p1), .val (.int p2), .val (.int p3), .val (.int p4), .unset, .unset, .unset, .unset, .unset] [(.int (8191 : Int32)), (.int (15 : Int32)), (.ref b2), (.ref b2)])) t → Steps p.tables e below (s₁.setTop (entryFrame m #[(.int p1), (.int p2), (.int p3), (.int p4)] maxLocals)) t := by
    intro t hk
    refine K32 t ?_
    show Steps p.tables e below (T32.setTop (mkF m 97 #[.val (.int p1), .val (.int p2), .val (.int p3), .val (.int p4), .unset, .unset, .unset, .unset, .unset] [(.ref b2)])) _
    refine XS.dup X32.here hx rfl (hb hby at_97) rfl rfl ?_
    show Steps p.tables e below (T32.setTop (mkF m 98 #[.val (.int p1), .val (.int p2), .val (.int p3), .val (.int p4), .unset, .unset, .unset, .unset, .unset] [(.ref b2), (.ref b2)])) _
    refine XS.bipush X32.here hx rfl (hb hby at_98) ?_
    show Steps p.tables e below (T32.setTop (mkF m 100 #[.val (.int p1), .val (.int p2), .val (.int p3), .val (.int p4), .unset, .unset, .unset, .unset, .unset] [(.int (15 : Int32)), (.ref b2), (.ref b2)])) _
    refine XS.sipush X32.here hx rfl (hb hby at_100) ?_
    show Steps p.tables e below (T32.setTop (mkF m 103 #[.val (.int p1), .val (.int p2), .val (.int p3), .val (.int p4), .unset, .unset, .unset, .unset, .unset] [(.int (8191 : Int32)), (.int (15 : Int32)), (.ref b2), (.ref b2)])) _
    exact hk
  obtain ⟨T34, h34, X34, e34, W34, V34', st34⟩ := own_stI X32 hx hZ e32 V32 (j := (15 : Int32)) 15 rfl ⟨by decide, by decide⟩ (by decide) (g := (mkF m 103 #[.val (.int p1), .val (.int p2), .val (.int p3), .val (.int p4), .unset, .unset, .unset, .unset, .unset] [(.int (8191 : Int32)), (.int (15 : Int32)), (.ref b2), (.ref b2)])) rfl rfl (hb hby at_103)
  have V34 : Arv Z h34 b2 c2 .int (30 : Int32) [(.int (58 : Int32)), (.int (65 : Int32)), (.int (90 : Int32)), (.int (95 : Int32)), (.int (97 : Int32)), (.int (122 : Int32)), (.int (192 : Int32)), (.int (214 : Int32)), (.int (216 : Int32)), (.int (246 : Int32)), (.int (248 : Int32)), (.int (767 : Int32)), (.int (880 : Int32)), (.int (893 : Int32)), (.int (895 : Int32)), (.int (8191 : Int32)), (.int (0 : Int32)), (.int (0 : Int32)), (.int (0 : Int32)), (.int (0 : Int32)), (.int (0 : Int32)), (.int (0 : Int32)), (.int (0 : Int32)), (.int (0 : Int32)), (.int (0 : Int32)), (.int (0 : Int32)), (.int (0 : Int32)), (.int (0 : Int32)), (.int (0 : Int32)), (.int (0 : Int32))] (.int (0 : Int32)) := V34'
  have N34 := Fr.snoc X34 N32 gb2
  have sz34 : n0 ≤ h34.size := Nat.le_trans sz32 (Keep.of_wr W34).1
  have K34 : ∀ t, Steps p.tables e below (T34.setTop (mkF m 104 #[.val (.int p1), .val (.int p2), .val (.int p3), .val (.int p4), .unset, .unset, .unset, .unset, .unset] [(.ref b2)])) t → Steps p.tables e below (s₁.setTop (entryFrame m #[(.int p1), (.int p2), (.int p3), (.int p4)] maxLocals)) t := fun t hk => K33 t (st34 _ hk)
  have K35 : ∀ t, Steps p.tables e below (T34.setTop (mkF m 110 #[.val (.int p1), .val (.int p2), .val (.int p3), .val (.int p4), .unset, .unset, .unset, .unset, .unset] [(.int (8204 : Int32)), (.int (16 : Int32)), (.ref b2), (.ref b2)])) t → Steps p.tables e below (s₁.setTop (entryFrame m #[(.int p1), (.int p2), (.int p3), (.int p4)] maxLocals)) t := by
    intro t hk
    refine K34 t ?_
    show Steps p.tables e below (T34.setTop (mkF m 104 #[.val (.int p1), .val (.int p2), .val (.int p3), .val (.int p4), .unset, .unset, .unset, .unset, .unset] [(.ref b2)])) _
    refine XS.dup X34.here hx rfl (hb hby at_104) rfl rfl ?_
    show Steps p.tables e below (T34.setTop (mkF m 105 #[.val (.int p1), .val (.int p2), .val (.int p3), .val (.int p4), .unset, .unset, .unset, .unset, .unset] [(.ref b2), (.ref b2)])) _
    refine XS.bipush X34.here hx rfl (hb hby at_105) ?_
    show Steps p.tables e below (T34.setTop (mkF m 107 #[.val (.int p1), .val (.int p2), .val (.int p3), .val (.int p4), .unset, .unset, .unset, .unset, .unset] [(.int (16 : Int32)), (.ref b2), (.ref b2)])) _
    refine XS.sipush X34.here hx rfl (hb hby at_107) ?_
    show Steps p.tables e below (T34.setTop (mkF m 110 #[.val (.int p1), .val (.int p2), .val (.int p3), .val (.int p4), .unset, .unset, .unset, .unset, .unset] [(.int (8204 : Int32)), (.int (16 : Int32)), (.ref b2), (.ref b2)])) _
    exact hk
  obtain ⟨T36, h36, X36, e36, W36, V36', st36⟩ := own_stI X34 hx hZ e34 V34 (j := (16 : Int32)) 16 rfl ⟨by decide, by decide⟩ (by decide) (g := (mkF m 110 #[.val (.int p1), .val (.int p2), .val (.int p3), .val (.int p4), .unset, .unset, .unset, .unset, .unset] [(.int (8204 : Int32)), (.int (16 : Int32)), (.ref b2), (.ref b2)])) rfl rfl (hb hby at_110)
  have V36 : Arv Z h36 b2 c2 .int (30 : Int32) [(.int (58 : Int32)), (.int (65 : Int32)), (.int (90 : Int32)), (.int (95 : Int32)), (.int (97 : Int32)), (.int (122 : Int32)), (.int (192 : Int32)), (.int (214 : Int32)), (.int (216 : Int32)), (.int (246 : Int32)), (.int (248 : Int32)), (.int (767 : Int32)), (.int (880 : Int32)), (.int (893 : Int32)), (.int (895 : Int32)), (.int (8191 : Int32)), (.int (8204 : Int32)), (.int (0 : Int32)), (.int (0 : Int32)), (.int (0 : Int32)), (.int (0 : Int32)), (.int (0 : Int32)), (.int (0 : Int32)), (.int (0 : Int32)), (.int (0 : Int32)), (.int (0 : Int32)), (.int (0 : Int32)), (.int (0 : Int32)), (.int (0 : Int32)), (.int (0 : Int32))] (.int (0 : Int32)) := V36'
  have N36 := Fr.snoc X36 N34 gb2
  have sz36 : n0 ≤ h36.size := Nat.le_trans sz34 (Keep.of_wr W36).1
  have K36 : ∀ t, Steps p.tables e below (T36.setTop (mkF m 111 #[.val (.int p1), .val (.int p2), .val (.int p3), .val (.int p4), .unset, .unset, .unset, .unset, .unset] [(.ref b2)])) t → Steps p.tables e below (s₁.setTop (entryFrame m #[(.int p1), (.int p2), (.int p3), (.int p4)] maxLocals)) t := fun t hk => K35 t (st36 _ hk)
  have K37 : ∀ t, Steps p.tables e below (T36.setTop (mkF m 117 #[.val (.int p1), .val (.int p2), .val (.int p3), .val (.int p4), .unset, .unset, .unset, .unset, .unset] [(.int (8205 : Int32)), (.int (17 : Int32)), (.ref b2), (.ref b2)])) t → Steps p.tables e below (s₁.setTop (entryFrame m #[(.int p1), (.int p2), (.int p3), (.int p4)] maxLocals)) t := by
    intro t hk
    refine K36 t ?_
    show Steps p.tables e below (T36.setTop (mkF m 111 #[.val (.int p1), .val (.int p2), .val (.int p3), .val (.int p4), .unset, .unset, .unset, .unset, .unset] [(.ref b2)])) _
    refine XS.dup X36.here hx rfl (hb hby at_111) rfl rfl ?_
    show Steps p.tables e below (T36.setTop (mkF m 112 #[.val (.int p1), .val (.int p2), .val (.int p3), .val (.int p4), .unset, .unset, .unset, .unset, .unset] [(.ref b2), (.ref b2)])) _
    refine XS.bipush X36.here hx rfl (hb hby at_112) ?_
    show Steps p.tables e below (T36.setTop (mkF m 114 #[.val (.int p1), .val (.int p2), .val (.int p3), .val (.int p4), .unset, .unset, .unset, .unset, .unset] [(.int (17 : Int32)), (.ref b2), (.ref b2)])) _
    refine XS.sipush X36.here hx rfl (hb hby at_114) ?_
    show Steps p.tables e below (T36.setTop (mkF m 117 #[.val (.int p1), .val (.int p2), .val (.int p3), .val (.int p4), .unset, .unset, .unset, .unset, .unset] [(.int (8205 : Int32)), (.int (17 : Int32)), (.ref b2), (.ref b2)])) _
    exact hk
  obtain ⟨T38, h38, X38, e38, W38, V38', st38⟩ := own_stI X36 hx hZ e36 V36 (j := (17 : Int32)) 17 rfl ⟨by decide, by decide⟩ (by decide) (g := (mkF m 117 #[.val (.int p1), .val (.int p2), .val (.int p3), .val (.int p4), .unset, .unset, .unset, .unset, .unset] [(.int (8205 : Int32)), (.int (17 : Int32)), (.ref b2), (.ref b2)])) rfl rfl (hb hby at_117)
  have V38 : Arv Z h38 b2 c2 .int (30 : Int32) [(.int (58 : Int32)), (.int (65 : Int32)), (.int (90 : Int32)), (.int (95 : Int32)), (.int (97 : Int32)), (.int (122 : Int32)), (.int (192 : Int32)), (.int (214 : Int32)), (.int (216 : Int32)), (.int (246 : Int32)), (.int (248 : Int32)), (.int (767 : Int32)), (.int (880 : Int32)), (.int (893 : Int32)), (.int (895 : Int32)), (.int (8191 : Int32)), (.int (8204 : Int32)), (.int (8205 : Int32)), (.int (0 : Int32)), (.int (0 : Int32)), (.int (0 : Int32)), (.int (0 : Int32)), (.int (0 : Int32)), (.int (0 : Int32)), (.int (0 : Int32)), (.int (0 : Int32)), (.int (0 : Int32)), (.int (0 : Int32)), (.int (0 : Int32)), (.int (0 : Int32))] (.int (0 : Int32)) := V38'
  have N38 := Fr.snoc X38 N36 gb2
  have sz38 : n0 ≤ h38.size := Nat.le_trans sz36 (Keep.of_wr W38).1
  have K38 : ∀ t, Steps p.tables e below (T38.setTop (mkF m 118 #[.val (.int p1), .val (.int p2), .val (.int p3), .val (.int p4), .unset, .unset, .unset, .unset, .unset] [(.ref b2)])) t → Steps p.tables e below (s₁.setTop (entryFrame m #[(.int p1), (.int p2), (.int p3), (.int p4)] maxLocals)) t := fun t hk => K37 t (st38 _ hk)
  have K39 : ∀ t, Steps p.tables e below (T38.setTop (mkF m 124 #[.val (.int p1), .val (.int p2), .val (.int p3), .val (.int p4), .unset, .unset, .unset, .unset, .unset] [(.int (8304 : Int32)), (.int (18 : Int32)), (.ref b2), (.ref b2)])) t → Steps p.tables e below (s₁.setTop (entryFrame m #[(.int p1), (.int p2), (.int p3), (.int p4)] maxLocals)) t := by
    intro t hk
    refine K38 t ?_
    show Steps p.tables e below (T38.setTop (mkF m 118 #[.val (.int p1), .val (.int p2), .val (.int p3), .val (.int p4), .unset, .unset, .unset, .unset, .unset] [(.ref b2)])) _
    refine XS.dup X38.here hx rfl (hb hby at_118) rfl rfl ?_
    show Steps p.tables e below (T38.setTop (mkF m 119 #[.val (.int p1), .val (.int p2), .val (.int p3), .val (.int p4), .unset, .unset, .unset, .unset, .unset] [(.ref b2), (.ref b2)])) _
    refine XS.bipush X38.here hx rfl (hb hby at_119) ?_
    show Steps p.tables e below (T38.setTop (mkF m 121 #[.val (.int p1), .val (.int p2), .val (.int p3), .val (.int p4), .unset, .unset, .unset, .unset, .unset] [(.int (18 : Int32)), (.ref b2), (.ref b2)])) _
    refine XS.sipush X38.here hx rfl (hb hby at_121) ?_
    show Steps p.tables e below (T38.setTop (mkF m 124 #[.val (.int p1), .val (.int p2), .val (.int p3), .val (.int p4), .unset, .unset, .unset, .unset, .unset] [(.int (8304 : Int32)), (.int (18 : Int32)), (.ref b2), (.ref b2)])) _
    exact hk
  obtain ⟨T40, h40, X40, e40, W40, V40', st40⟩ := own_stI X38 hx hZ e38 V38 (j := (18 : Int32)) 18 rfl ⟨by decide, by decide⟩ (by decide) (g := (mkF m 124 #[.val (.int p1), .val (.int p2), .val (.int p3), .val (.int p4), .unset, .unset, .unset, .unset, .unset] [(.int (8304 : Int32)), (.int (18 : Int32)), (.ref b2), (.ref b2)])) rfl rfl (hb hby at_124)
  have V40 : Arv Z h40 b2 c2 .int (30 : Int32) [(.int (58 : Int32)), (.int (65 : Int32)), (.int (90 : Int32)), (.int (95 : Int32)), (.int (97 : Int32)), (.int (122 : Int32)), (.int (192 : Int32)), (.int (214 : Int32)), (.int (216 : Int32)), (.int (246 : Int32)), (.int (248 : Int32)), (.int (767 : Int32)), (.int (880 : Int32)), (.int (893 : Int32)), (.int (895 : Int32)), (.int (8191 : Int32)), (.int (8204 : Int32)), (.int (8205 : Int32)), (.int (8304 : Int32)), (.int (0 : Int32)), (.int (0 : Int32)), (.int (0 : Int32)), (.int (0 : Int32)), (.int (0 : Int32)), (.int (0 : Int32)), (.int (0 : Int32)), (.int (0 : Int32)), (.int (0 : Int32)), (.int (0 : Int32)), (.int (0 : Int32))] (.int (0 : Int32)) := V40'
  have N40 := Fr.snoc X40 N38 gb2
  have sz40 : n0 ≤ h40.size := Nat.le_trans sz38 (Keep.of_wr W40).1
  have K40 : ∀ t, Steps p.tables e below (T40.setTop (mkF m 125 #[.val (.int p1), .val (.int p2), .val (.int p3), .val (.int p4), .unset, .unset, .unset, .unset, .unset] [(.ref b2)])) t → Steps p.tables e below (s₁.setTop (entryFrame m #[(.int p1), (.int p2), (.int p3), (.int p4)] maxLocals)) t := fun t hk => K39 t (st40 _ hk)
  have K41 : ∀ t, Steps p.tables e below (T40.setTop (mkF m 131 #[.val (.int p1), .val (.int p2), .val (.int p3), .val (.int p4), .unset, .unset, .unset, .unset, .unset] [(.int (8591 : Int32)), (.int (19 : Int32)), (.ref b2), (.ref b2)])) t → Steps p.tables e below (s₁.setTop (entryFrame m #[(.int p1), (.int p2), (.int p3), (.int p4)] maxLocals)) t := by
    intro t hk
    refine K40 t ?_
    show Steps p.tables e below (T40.setTop (mkF m 125 #[.val (.int p1), .val (.int p2), .val (.int p3), .val (.int p4), .unset, .unset, .unset, .unset, .unset] [(.ref b2)])) _
    refine XS.dup X40.here hx rfl (hb hby at_125) rfl rfl ?_
    show Steps p.tables e below (T40.setTop (mkF m 126 #[.val (.int p1), .val (.int p2), .val (.int p3), .val (.int p4), .unset, .unset, .unset, .unset, .unset] [(.ref b2), (.ref b2)])) _
    refine XS.bipush X40.here hx rfl (hb hby at_126) ?_
    show Steps p.tables e below (T40.setTop (mkF m 128 #[.val (.int p1), .val (.int p2), .val (.int p3), .val (.int p4), .unset, .unset, .unset, .unset, .unset] [(.int (19 : Int32)), (.ref b2), (.ref b2)])) _
    refine XS.sipush X40.here hx rfl (hb hby at_128) ?_
    show Steps p.tables e below (T40.setTop (mkF m 131 #[.val (.int p1), .val (.int p2), .val (.int p3), .val (.int p4), .unset, .unset, .unset, .unset, .unset] [(.int (8591 : Int32)), (.int (19 : Int32)), (.ref b2), (.ref b2)])) _
    exact hk
  obtain ⟨T42, h42, X42, e42, W42, V42', st42⟩ := own_stI X40 hx hZ e40 V40 (j := (19 : Int32)) 19 rfl ⟨by decide, by decide⟩ (by decide) (g := (mkF m 131 #[.val (.int p1), .val (.int p2), .val (.int p3), .val (.int p4), .unset, .unset, .unset, .unset, .unset] [(.int (8591 : Int32)), (.int (19 : Int32)), (.ref b2), (.ref b2)])) rfl rfl (hb hby at_131)
  have V42 : Arv Z h42 b2 c2 .int (30 : Int32) [(.int (58 : Int32)), (.int (65 : Int32)), (.int (90 : Int32)), (.int (95 : Int32)), (.int (97 : Int32)), (.int (122 : Int32)), (.int (192 : Int32)), (.int (214 : Int32)), (.int (216 : Int32)), (.int (246 : Int32)), (.int (248 : Int32)), (.int (767 : Int32)), (.int (880 : Int32)), (.int (893 : Int32)), (.int (895 : Int32)), (.int (8191 : Int32)), (.int (8204 : Int32)), (.int (8205 : Int32)), (.int (8304 : Int32)), (.int (8591 : Int32)), (.int (0 : Int32)), (.int (0 : Int32)), (.int (0 : Int32)), (.int (0 : Int32)), (.int (0 : Int32)), (.int (0 : Int32)), (.int (0 : Int32)), (.int (0 : Int32)), (.int (0 : Int32)), (.int (0 : Int32))] (.int (0 : Int32)) := V42'
  have N42 := Fr.snoc X42 N40 gb2
  have sz42 : n0 ≤ h42.size := Nat.le_trans sz40 (Keep.of_wr W42).1
  have K42 : ∀ t, Steps p.tables e below (T42.setTop (mkF m 132 #[.val (.int p1), .val (.int p2), .val (.int p3), .val (.int p4), .unset, .unset, .unset, .unset, .unset] [(.ref b2)])) t → Steps p.tables e below (s₁.setTop (entryFrame m #[(.int p1), (.int p2), (.int p3), (.int p4)] maxLocals)) t := fun t hk => K41 t (st42 _ hk)
  have K43 : ∀ t, Steps p.tables e below (T42.setTop (mkF m 138 #[.val (.int p1), .val (.int p2), .val (.int p3), .val (.int p4), .unset, .unset, .unset, .unset, .unset] [(.int (11264 : Int32)), (.int (20 : Int32)), (.ref b2), (.ref b2)])) t → Steps p.tables e below (s₁.setTop (entryFrame m #[(.int p1), (.int p2), (.int p3), (.int p4)] maxLocals)) t := by
    intro t hk
    refine K42 t ?_
    show Steps p.tables e below (T42.setTop (mkF m 132 #[.val (.int p1), .val (.int p2), .val (.int p3), .val (.int p4), .unset, .unset, .unset, .unset, .unset] [(.ref b2)])) _
    refine XS.dup X42.here hx rfl (hb hby at_132) rfl rfl ?_
    show Steps p.tables e below (T42.setTop (mkF m 133 #[.val (.int p1), .val (.int p2), .val (.int p3), .val (.int p4), .unset, .unset, .unset, .unset, .unset] [(.ref b2), (.ref b2)])) _
    refine XS.bipush X42.here hx rfl (hb hby at_133) ?_
    show Steps p.tables e below (T42.setTop (mkF m 135 #[.val (.int p1), .val (.int p2), .val (.int p3), .val (.int p4), .unset, .unset, .unset, .unset, .unset] [(.int (20 : Int32)), (.ref b2), (.ref b2)])) _
    refine XS.sipush X42.here hx rfl (hb hby at_135) ?_
    show Steps p.tables e below (T42.setTop (mkF m 138 #[.val (.int p1), .val (.int p2), .val (.int p3), .val (.int p4), .unset, .unset, .unset, .unset, .unset] [(.int (11264 : Int32)), (.int (20 : Int32)), (.ref b2), (.ref b2)])) _
    exact hk
  obtain ⟨T44, h44, X44, e44, W44, V44', st44⟩ := own_stI X42 hx hZ e42 V42 (j := (20 : Int32)) 20 rfl ⟨by decide, by decide⟩ (by decide) (g := (mkF m 138 #[.val (.int p1), .val (.int p2), .val (.int p3), .val (.int p4), .unset, .unset, .unset, .unset, .unset] [(.int (11264 : Int32)), (.int (20 : Int32)), (.ref b2), (.ref b2)])) rfl rfl (hb hby at_138)
  have V44 : Arv Z h44 b2 c2 .int (30 : Int32) [(.int (58 : Int32)), (.int (65 : Int32)), (.int (90 : Int32)), (.int (95 : Int32)), (.int (97 : Int32)), (.int (122 : Int32)), (.int (192 : Int32)), (.int (214 : Int32)), (.int (216 : Int32)), (.int (246 : Int32)), (.int (248 : Int32)), (.int (767 : Int32)), (.int (880 : Int32)), (.int (893 : Int32)), (.int (895 : Int32)), (.int (8191 : Int32)), (.int (8204 : Int32)), (.int (8205 : Int32)), (.int (8304 : Int32)), (.int (8591 : Int32)), (.int (11264 : Int32)), (.int (0 : Int32)), (.int (0 : Int32)), (.int (0 : Int32)), (.int (0 : Int32)), (.int (0 : Int32)), (.int (0 : Int32)), (.int (0 : Int32)), (.int (0 : Int32)), (.int (0 : Int32))] (.int (0 : Int32)) := V44'
  have N44 := Fr.snoc X44 N42 gb2
  have sz44 : n0 ≤ h44.size := Nat.le_trans sz42 (Keep.of_wr W44).1
  have K44 : ∀ t, Steps p.tables e below (T44.setTop (mkF m 139 #[.val (.int p1), .val (.int p2), .val (.int p3), .val (.int p4), .unset, .unset, .unset, .unset, .unset] [(.ref b2)])) t → Steps p.tables e below (s₁.setTop (entryFrame m #[(.int p1), (.int p2), (.int p3), (.int p4)] maxLocals)) t := fun t hk => K43 t (st44 _ hk)
  have K45 : ∀ t, Steps p.tables e below (T44.setTop (mkF m 145 #[.val (.int p1), .val (.int p2), .val (.int p3), .val (.int p4), .unset, .unset, .unset, .unset, .unset] [(.int (12271 : Int32)), (.int (21 : Int32)), (.ref b2), (.ref b2)])) t → Steps p.tables e below (s₁.setTop (entryFrame m #[(.int p1), (.int p2), (.int p3), (.int p4)] maxLocals)) t := by
    intro t hk
    refine K44 t ?_
    show Steps p.tables e below (T44.setTop (mkF m 139 #[.val (.int p1), .val (.int p2), .val (.int p3), .val (.int p4), .unset, .unset, .unset, .unset, .unset] [(.ref b2)])) _
    refine XS.dup X44.here hx rfl (hb hby at_139) rfl rfl ?_
    show Steps p.tables e below (T44.setTop (mkF m 140 #[.val (.int p1), .val (.int p2), .val (.int p3), .val (.int p4), .unset, .unset, .unset, .unset, .unset] [(.ref b2), (.ref b2)])) _
    refine XS.bipush X44.here hx rfl (hb hby at_140) ?_
    show Steps p.tables e below (T44.setTop (mkF m 142 #[.val (.int p1), .val (.int p2), .val (.int p3), .val (.int p4), .unset, .unset, .unset, .unset, .unset] [(.int (21 : Int32)), (.ref b2), (.ref b2)])) _
    refine XS.sipush X44.here hx rfl (hb hby at_142) ?_
    show Steps p.tables e below (T44.setTop (mkF m 145 #[.val (.int p1), .val (.int p2), .val (.int p3), .val (.int p4), .unset, .unset, .unset, .unset, .unset] [(.int (12271 : Int32)), (.int (21 : Int32)), (.ref b2), (.ref b2)])) _
    exact hk
  obtain ⟨T46, h46, X46, e46, W46, V46', st46⟩ := own_stI X44 hx hZ e44 V44 (j := (21 : Int32)) 21 rfl ⟨by decide, by decide⟩ (by decide) (g := (mkF m 145 #[.val (.int p1), .val (.int p2), .val (.int p3), .val (.int p4), .unset, .unset, .unset, .unset, .unset] [(.int (12271 : Int32)), (.int (21 : Int32)), (.ref b2), (.ref b2)])) rfl rfl (hb hby at_145)
  have V46 : Arv Z h46 b2 c2 .int (30 : Int32) [(.int (58 : Int32)), (.int (65 : Int32)), (.int (90 : Int32)), (.int (95 : Int32)), (.int (97 : Int32)), (.int (122 : Int32)), (.int (192 : Int32)), (.int (214 : Int32)), (.int (216 : Int32)), (.int (246 : Int32)), (.int (248 : Int32)), (.int (767 : Int32)), (.int (880 : Int32)), (.int (893 : Int32)), (.int (895 : Int32)), (.int (8191 : Int32)), (.int (8204 : Int32)), (.int (8205 : Int32)), (.int (8304 : Int32)), (.int (8591 : Int32)), (.int (11264 : Int32)), (.int (12271 : Int32)), (.int (0 : Int32)), (.int (0 : Int32)), (.int (0 : Int32)), (.int (0 : Int32)), (.int (0 : Int32)), (.int (0 : Int32)), (.int (0 : Int32)), (.int (0 : Int32))] (.int (0 : Int32)) := V46'
  have N46 := Fr.snoc X46 N44 gb2
  have sz46 : n0 ≤ h46.size := Nat.le_trans sz44 (Keep.of_wr W46).1
  have K46 : ∀ t, Steps p.tables e below (T46.setTop (mkF m 146 #[.val (.int p1), .val (.int p2), .val (.int p3), .val (.int p4), .unset, .unset, .unset, .unset, .unset] [(.ref b2)])) t → Steps p.tables e below (s₁.setTop (entryFrame m #[(.int p1), (.int p2), (.int p3), (.int p4)] maxLocals)) t := fun t hk => K45 t (st46 _ hk)
  have K47 : ∀ t, Steps p.tables e below (T46.setTop (mkF m 152 #[.val (.int p1), .val (.int p2), .val (.int p3), .val (.int p4), .unset, .unset, .unset, .unset, .unset] [(.int (12289 : Int32)), (.int (22 : Int32)), (.ref b2), (.ref b2)])) t → Steps p.tables e below (s₁.setTop (entryFrame m #[(.int p1), (.int p2), (.int p3), (.int p4)] maxLocals)) t := by
    intro t hk
    refine K46 t ?_
    show Steps p.tables e below (T46.setTop (mkF m 146 #[.val (.int p1), .val (.int p2), .val (.int p3), .val (.int p4), .unset, .unset, .unset, .unset, .unset] [(.ref b2)])) _
    refine XS.dup X46.here hx rfl (hb hby at_146) rfl rfl ?_
    show Steps p.tables e below (T46.setTop (mkF m 147 #[.val (.int p1), .val (.int p2), .val (.int p3), .val (.int p4), .unset, .unset, .unset, .unset, .unset] [(.ref b2), (.ref b2)])) _
    refine XS.bipush X46.here hx rfl (hb hby at_147) ?_
    show Steps p.tables e below (T46.setTop (mkF m 149 #[.val (.int p1), .val (.int p2), .val (.int p3), .val (.int p4), .unset, .unset, .unset, .unset, .unset] [(.int (22 : Int32)), (.ref b2), (.ref b2)])) _
    refine XS.sipush X46.here hx rfl (hb hby at_149) ?_
    show Steps p.tables e below (T46.setTop (mkF m 152 #[.val (.int p1), .val (.int p2), .val (.int p3), .val (.int p4), .unset, .unset, .unset, .unset, .unset] [(.int (12289 : Int32)), (.int (22 : Int32)), (.ref b2), (.ref b2)])) _
    exact hk
  obtain ⟨T48, h48, X48, e48, W48, V48', st48⟩ := own_stI X46 hx hZ e46 V46 (j := (22 : Int32)) 22 rfl ⟨by decide, by decide⟩ (by decide) (g := (mkF m 152 #[.val (.int p1), .val (.int p2), .val (.int p3), .val (.int p4), .unset, .unset, .unset, .unset, .unset] [(.int (12289 : Int32)), (.int (22 : Int32)), (.ref b2), (.ref b2)])) rfl rfl (hb hby at_152)
  have V48 : Arv Z h48 b2 c2 .int (30 : Int32) [(.int (58 : Int32)), (.int (65 : Int32)), (.int (90 : Int32)), (.int (95 : Int32)), (.int (97 : Int32)), (.int (122 : Int32)), (.int (192 : Int32)), (.int (214 : Int32)), (.int (216 : Int32)), (.int (246 : Int32)), (.int (248 : Int32)), (.int (767 : Int32)), (.int (880 : Int32)), (.int (893 : Int32)), (.int (895 : Int32)), (.int (8191 : Int32)), (.int (8204 : Int32)), (.int (8205 : Int32)), (.int (8304 : Int32)), (.int (8591 : Int32)), (.int (11264 : Int32)), (.int (12271 : Int32)), (.int (12289 : Int32)), (.int (0 : Int32)), (.int (0 : Int32)), (.int (0 : Int32)), (.int (0 : Int32)), (.int (0 : Int32)), (.int (0 : Int32)), (.int (0 : Int32))] (.int (0 : Int32)) := V48'
  have N48 := Fr.snoc X48 N46 gb2
  have sz48 : n0 ≤ h48.size := Nat.le_trans sz46 (Keep.of_wr W48).1
  have K48 : ∀ t, Steps p.tables e below (T48.setTop (mkF m 153 #[.val (.int p1), .val (.int p2), .val (.int p3), .val (.int p4), .unset, .unset, .unset, .unset, .unset] [(.ref b2)])) t → Steps p.tables e below (s₁.setTop (entryFrame m #[(.int p1), (.int p2), (.int p3), (.int p4)] maxLocals)) t := fun t hk => K47 t (st48 _ hk)
  have K49 : ∀ t, Steps p.tables e below (T48.setTop (mkF m 158 #[.val (.int p1), .val (.int p2), .val (.int p3), .val (.int p4), .unset, .unset, .unset, .unset, .unset] [(.int (55295 : Int32)), (.int (23 : Int32)), (.ref b2), (.ref b2)])) t → Steps p.tables e below (s₁.setTop (entryFrame m #[(.int p1), (.int p2), (.int p3), (.int p4)] maxLocals)) t := by
    intro t hk
    refine K48 t ?_
    show Steps p.tables e below (T48.setTop (mkF m 153 #[.val (.int p1), .val (.int p2), .val (.int p3), .val (.int p4), .unset, .unset, .unset, .unset, .unset] [(.ref b2)])) _
    refine XS.dup X48.here hx rfl (hb hby at_153) rfl rfl ?_
    show Steps p.tables e below (T48.setTop (mkF m 154 #[.val (.int p1), .val (.int p2), .val (.int p3), .val (.int p4), .unset, .unset, .unset, .unset, .unset] [(.ref b2), (.ref b2)])) _
    refine XS.bipush X48.here hx rfl (hb hby at_154) ?_
    show Steps p.tables e below (T48.setTop (mkF m 156 #[.val (.int p1), .val (.int p2), .val (.int p3), .val (.int p4), .unset, .unset, .unset, .unset, .unset] [(.int (23 : Int32)), (.ref b2), (.ref b2)])) _
    refine X48.ldcInt hx hown (mvT hZ (hw _ (List.mem_of_getElem? (i := 1) rfl))) (g := (mkF m 156 #[.val (.int p1), .val (.int p2), .val (.int p3), .val (.int p4), .unset, .unset, .unset, .unset, .unset] [(.int (23 : Int32)), (.ref b2), (.ref b2)])) rfl (hb hby at_156) _ ?_
    show Steps p.tables e below (T48.setTop (mkF m 158 #[.val (.int p1), .val (.int p2), .val (.int p3), .val (.int p4), .unset, .unset, .unset, .unset, .unset] [(.int (55295 : Int32)), (.int (23 : Int32)), (.ref b2), (.ref b2)])) _
    exact hk
  obtain ⟨T50, h50, X50, e50, W50, V50', st50⟩ := own_stI X48 hx hZ e48 V48 (j := (23 : Int32)) 23 rfl ⟨by decide, by decide⟩ (by decide) (g := (mkF m 158 #[.val (.int p1), .val (.int p2), .val (.int p3), .val (.int p4), .unset, .unset, .unset, .unset, .unset] [(.int (55295 : Int32)), (.int (23 : Int32)), (.ref b2), (.ref b2)])) rfl rfl (hb hby at_158)
  have V50 : Arv Z h50 b2 c2 .int (30 : Int32) [(.int (58 : Int32)), (.int (65 : Int32)), (.int (90 : Int32)), (.int (95 : Int32)), (.int (97 : Int32)), (.int (122 : Int32)), (.int (192 : Int32)), (.int (214 : Int32)), (.int (216 : Int32)), (.int (246 : Int32)), (.int (248 : Int32)), (.int (767 : Int32)), (.int (880 : Int32)), (.int (893 : Int32)), (.int (895 : Int32)), (.int (8191 : Int32)), (.int (8204 : Int32)), (.int (8205 : Int32)), (.int (8304 : Int32)), (.int (8591 : Int32)), (.int (11264 : Int32)), (.int (12271 : Int32)), (.int (12289 : Int32)), (.int (55295 : Int32)), (.int (0 : Int32)), (.int (0 : Int32)), (.int (0 : Int32)), (.int (0 : Int32)), (.int (0 : Int32)), (.int (0 : Int32))] (.int (0 : Int32)) := V50'
  have N50 := Fr.snoc X50 N48 gb2
  have sz50 : n0 ≤ h50.size := Nat.le_trans sz48 (Keep.of_wr W50).1
  have K50 : ∀ t, Steps p.tables e below (T50.setTop (mkF m 159 #[.val (.int p1), .val (.int p2), .val (.int p3), .val (.int p4), .unset, .unset, .unset, .unset, .unset] [(.ref b2)])) t → Steps p.tables e below (s₁.setTop (entryFrame m #[(.int p1), (.int p2), (.int p3), (.int p4)] maxLocals)) t := fun t hk => K49 t (st50 _ hk)
  have K51 : ∀ t, Steps p.tables e below (T50.setTop (mkF m 164 #[.val (.int p1), .val (.int p2), .val (.int p3), .val (.int p4), .unset, .unset, .unset, .unset, .unset] [(.int (63744 : Int32)), (.int (24 : Int32)), (.ref b2), (.ref b2)])) t → Steps p.tables e below (s₁.setTop (entryFrame m #[(.int p1), (.int p2), (.int p3), (.int p4)] maxLocals)) t := by
    intro t hk
    refine K50 t ?_
    show Steps p.tables e below (T50.setTop (mkF m 159 #[.val (.int p1), .val (.int p2), .val (.int p3), .val (.int p4), .unset, .unset, .unset, .unset, .unset] [(.ref b2)])) _
    refine XS.dup X50.here hx rfl (hb hby at_159) rfl rfl ?_
    show Steps p.tables e below (T50.setTop (mkF m 160 #[.val (.int p1), .val (.int p2), .val (.int p3), .val (.int p4), .unset, .unset, .unset, .unset, .unset] [(.ref b2), (.ref b2)])) _
    refine XS.bipush X50.here hx rfl (hb hby at_160) ?_
    show Steps p.tables e below (T50.setTop (mkF m 162 #[.val (.int p1), .val (.int p2), .val (.int p3), .val (.int p4), .unset, .unset, .unset, .unset, .unset] [(.int (24 : Int32)), (.ref b2), (.ref b2)])) _
    refine X50.ldcInt hx hown (mvT hZ (hw _ (List.mem_of_getElem? (i := 2) rfl))) (g := (mkF m 162 #[.val (.int p1), .val (.int p2), .val (.int p3), .val (.int p4), .unset, .unset, .unset, .unset, .unset] [(.int (24 : Int32)), (.ref b2), (.ref b2)])) rfl (hb hby at_162) _ ?_
    show Steps p.tables e below (T50.setTop (mkF m 164 #[.val (.int p1), .val (.int p2), .val (.int p3), .val (.int p4), .unset, .unset, .unset, .unset, .unset] [(.int (63744 : Int32)), (.int (24 : Int32)), (.ref b2), (.ref b2)])) _
    exact hk
  obtain ⟨T52, h52, X52, e52, W52, V52', st52⟩ := own_stI X50 hx hZ e50 V50 (j := (24 : Int32)) 24 rfl ⟨by decide, by decide⟩ (by decide) (g := (mkF m 164 #[.val (.int p1), .val (.int p2), .val (.int p3), .val (.int p4), .unset, .unset, .unset, .unset, .unset] [(.int (63744 : Int32)), (.int (24 : Int32)), (.ref b2), (.ref b2)])) rfl rfl (hb hby at_164)
  have V52 : Arv Z h52 b2 c2 .int (30 : Int32) [(.int (58 : Int32)), (.int (65 : Int32)), (.int (90 : Int32)), (.int (95 : Int32)), (.int (97 : Int32)), (.int (122 : Int32)), (.int (192 : Int32)), (.int (214 : Int32)), (.int (216 : Int32)), (.int (246 : Int32)), (.int (248 : Int32)), (.int (767 : Int32)), (.int (880 : Int32)), (.int (893 : Int32)), (.int (895 : Int32)), (.int (8191 : Int32)), (.int (8204 : Int32)), (.int (8205 : Int32)), (.int (8304 : Int32)), (.int (8591 : Int32)), (.int (11264 : Int32)), (.int (12271 : Int32)), (.int (12289 : Int32)), (.int (55295 : Int32)), (.int (63744 : Int32)), (.int (0 : Int32)), (.int (0 : Int32)), (.int (0 : Int32)), (.int (0 : Int32)), (.int (0 : Int32))] (.int (0 : Int32)) := V52'
  have N52 := Fr.snoc X52 N50 gb2
  have sz52 : n0 ≤ h52.size := Nat.le_trans sz50 (Keep.of_wr W52).1
  have K52 : ∀ t, Steps p.tables e below (T52.setTop (mkF m 165 #[.val (.int p1), .val (.int p2), .val (.int p3), .val (.int p4), .unset, .unset, .unset, .unset, .unset] [(.ref b2)])) t → Steps p.tables e below (s₁.setTop (entryFrame m #[(.int p1), (.int p2), (.int p3), (.int p4)] maxLocals)) t := fun t hk => K51 t (st52 _ hk)
  have K53 : ∀ t, Steps p.tables e below (T52.setTop (mkF m 170 #[.val (.int p1), .val (.int p2), .val (.int p3), .val (.int p4), .unset, .unset, .unset, .unset, .unset] [(.int (64975 : Int32)), (.int (25 : Int32)), (.ref b2), (.ref b2)])) t → Steps p.tables e below (s₁.setTop (entryFrame m #[(.int p1), (.int p2), (.int p3), (.int p4)] maxLocals)) t := by
    intro t hk
    refine K52 t ?_
    show Steps p.tables e below (T52.setTop (mkF m 165 #[.val (.int p1), .val (.int p2), .val (.int p3), .val (.int p4), .unset, .unset, .unset, .unset, .unset] [(.ref b2)])) _
    refine XS.dup X52.here hx rfl (hb hby at_165) rfl rfl ?_
    show Steps p.tables e below (T52.setTop (mkF m 166 #[.val (.int p1), .val (.int p2), .val (.int p3), .val (.int p4), .unset, .unset, .unset, .unset, .unset] [(.ref b2), (.ref b2)])) _
    refine XS.bipush X52.here hx rfl (hb hby at_166) ?_
    show Steps p.tables e below (T52.setTop (mkF m 168 #[.val (.int p1), .val (.int p2), .val (.int p3), .val (.int p4), .unset, .unset, .unset, .unset, .unset] [(.int (25 : Int32)), (.ref b2), (.ref b2)])) _
    refine X52.ldcInt hx hown (mvT hZ (hw _ (List.mem_of_getElem? (i := 3) rfl))) (g := (mkF m 168 #[.val (.int p1), .val (.int p2), .val (.int p3), .val (.int p4), .unset, .unset, .unset, .unset, .unset] [(.int (25 : Int32)), (.ref b2), (.ref b2)])) rfl (hb hby at_168) _ ?_
    show Steps p.tables e below (T52.setTop (mkF m 170 #[.val (.int p1), .val (.int p2), .val (.int p3), .val (.int p4), .unset, .unset, .unset, .unset, .unset] [(.int (64975 : Int32)), (.int (25 : Int32)), (.ref b2), (.ref b2)])) _
    exact hk
  obtain ⟨T54, h54, X54, e54, W54, V54', st54⟩ := own_stI X52 hx hZ e52 V52 (j := (25 : Int32)) 25 rfl ⟨by decide, by decide⟩ (by decide) (g := (mkF m 170 #[.val (.int p1), .val (.int p2), .val (.int p3), .val (.int p4), .unset, .unset, .unset, .unset, .unset] [(.int (64975 : Int32)), (.int (25 : Int32)), (.ref b2), (.ref b2)])) rfl rfl (hb hby at_170)
  have V54 : Arv Z h54 b2 c2 .int (30 : Int32) [(.int (58 : Int32)), (.int (65 : Int32)), (.int (90 : Int32)), (.int (95 : Int32)), (.int (97 : Int32)), (.int (122 : Int32)), (.int (192 : Int32)), (.int (214 : Int32)), (.int (216 : Int32)), (.int (246 : Int32)), (.int (248 : Int32)), (.int (767 : Int32)), (.int (880 : Int32)), (.int (893 : Int32)), (.int (895 : Int32)), (.int (8191 : Int32)), (.int (8204 : Int32)), (.int (8205 : Int32)), (.int (8304 : Int32)), (.int (8591 : Int32)), (.int (11264 : Int32)), (.int (12271 : Int32)), (.int (12289 : Int32)), (.int (55295 : Int32)), (.int (63744 : Int32)), (.int (64975 : Int32)), (.int (0 : Int32)), (.int (0 : Int32)), (.int (0 : Int32)), (.int (0 : Int32))] (.int (0 : Int32)) := V54'
  have N54 := Fr.snoc X54 N52 gb2
  have sz54 : n0 ≤ h54.size := Nat.le_trans sz52 (Keep.of_wr W54).1
  have K54 : ∀ t, Steps p.tables e below (T54.setTop (mkF m 171 #[.val (.int p1), .val (.int p2), .val (.int p3), .val (.int p4), .unset, .unset, .unset, .unset, .unset] [(.ref b2)])) t → Steps p.tables e below (s₁.setTop (entryFrame m #[(.int p1), (.int p2), (.int p3), (.int p4)] maxLocals)) t := fun t hk => K53 t (st54 _ hk)
  have K55 : ∀ t, Steps p.tables e below (T54.setTop (mkF m 176 #[.val (.int p1), .val (.int p2), .val (.int p3), .val (.int p4), .unset, .unset, .unset, .unset, .unset] [(.int (65008 : Int32)), (.int (26 : Int32)), (.ref b2), (.ref b2)])) t → Steps p.tables e below (s₁.setTop (entryFrame m #[(.int p1), (.int p2), (.int p3), (.int p4)] maxLocals)) t := by
    intro t hk
    refine K54 t ?_
    show Steps p.tables e below (T54.setTop (mkF m 171 #[.val (.int p1), .val (.int p2), .val (.int p3), .val (.int p4), .unset, .unset, .unset, .unset, .unset] [(.ref b2)])) _
    refine XS.dup X54.here hx rfl (hb hby at_171) rfl rfl ?_
    show Steps p.tables e below (T54.setTop (mkF m 172 #[.val (.int p1), .val (.int p2), .val (.int p3), .val (.int p4), .unset, .unset, .unset, .unset, .unset] [(.ref b2), (.ref b2)])) _
    refine XS.bipush X54.here hx rfl (hb hby at_172) ?_
    show Steps p.tables e below (T54.setTop (mkF m 174 #[.val (.int p1), .val (.int p2), .val (.int p3), .val (.int p4), .unset, .unset, .unset, .unset, .unset] [(.int (26 : Int32)), (.ref b2), (.ref b2)])) _
    refine X54.ldcInt hx hown (mvT hZ (hw _ (List.mem_of_getElem? (i := 4) rfl))) (g := (mkF m 174 #[.val (.int p1), .val (.int p2), .val (.int p3), .val (.int p4), .unset, .unset, .unset, .unset, .unset] [(.int (26 : Int32)), (.ref b2), (.ref b2)])) rfl (hb hby at_174) _ ?_
    show Steps p.tables e below (T54.setTop (mkF m 176 #[.val (.int p1), .val (.int p2), .val (.int p3), .val (.int p4), .unset, .unset, .unset, .unset, .unset] [(.int (65008 : Int32)), (.int (26 : Int32)), (.ref b2), (.ref b2)])) _
    exact hk
  obtain ⟨T56, h56, X56, e56, W56, V56', st56⟩ := own_stI X54 hx hZ e54 V54 (j := (26 : Int32)) 26 rfl ⟨by decide, by decide⟩ (by decide) (g := (mkF m 176 #[.val (.int p1), .val (.int p2), .val (.int p3), .val (.int p4), .unset, .unset, .unset, .unset, .unset] [(.int (65008 : Int32)), (.int (26 : Int32)), (.ref b2), (.ref b2)])) rfl rfl (hb hby at_176)
  have V56 : Arv Z h56 b2 c2 .int (30 : Int32) [(.int (58 : Int32)), (.int (65 : Int32)), (.int (90 : Int32)), (.int (95 : Int32)), (.int (97 : Int32)), (.int (122 : Int32)), (.int (192 : Int32)), (.int (214 : Int32)), (.int (216 : Int32)), (.int (246 : Int32)), (.int (248 : Int32)), (.int (767 : Int32)), (.int (880 : Int32)), (.int (893 : Int32)), (.int (895 : Int32)), (.int (8191 : Int32)), (.int (8204 : Int32)), (.int (8205 : Int32)), (.int (8304 : Int32)), (.int (8591 : Int32)), (.int (11264 : Int32)), (.int (12271 : Int32)), (.int (12289 : Int32)), (.int (55295 : Int32)), (.int (63744 : Int32)), (.int (64975 : Int32)), (.int (65008 : Int32)), (.int (0 : Int32)), (.int (0 : Int32)), (.int (0 : Int32))] (.int (0 : Int32)) := V56'
  have N56 := Fr.snoc X56 N54 gb2
  have sz56 : n0 ≤ h56.size := Nat.le_trans sz54 (Keep.of_wr W56).1
  have K56 : ∀ t, Steps p.tables e below (T56.setTop (mkF m 177 #[.val (.int p1), .val (.int p2), .val (.int p3), .val (.int p4), .unset, .unset, .unset, .unset, .unset] [(.ref b2)])) t → Steps p.tables e below (s₁.setTop (entryFrame m #[(.int p1), (.int p2), (.int p3), (.int p4)] maxLocals)) t := fun t hk => K55 t (st56 _ hk)
  have K57 : ∀ t, Steps p.tables e below (T56.setTop (mkF m 182 #[.val (.int p1), .val (.int p2), .val (.int p3), .val (.int p4), .unset, .unset, .unset, .unset, .unset] [(.int (65533 : Int32)), (.int (27 : Int32)), (.ref b2), (.ref b2)])) t → Steps p.tables e below (s₁.setTop (entryFrame m #[(.int p1), (.int p2), (.int p3), (.int p4)] maxLocals)) t := by
    intro t hk
    refine K56 t ?_
    show Steps p.tables e below (T56.setTop (mkF m 177 #[.val (.int p1), .val (.int p2), .val (.int p3), .val (.int p4), .unset, .unset, .unset, .unset, .unset] [(.ref b2)])) _
    refine XS.dup X56.here hx rfl (hb hby at_177) rfl rfl ?_
    show Steps p.tables e below (T56.setTop (mkF m 178 #[.val (.int p1), .val (.int p2), .val (.int p3), .val (.int p4), .unset, .unset, .unset, .unset, .unset] [(.ref b2), (.ref b2)])) _
    refine XS.bipush X56.here hx rfl (hb hby at_178) ?_
    show Steps p.tables e below (T56.setTop (mkF m 180 #[.val (.int p1), .val (.int p2), .val (.int p3), .val (.int p4), .unset, .unset, .unset, .unset, .unset] [(.int (27 : Int32)), (.ref b2), (.ref b2)])) _
    refine X56.ldcInt hx hown (mvT hZ (hw _ (List.mem_of_getElem? (i := 5) rfl))) (g := (mkF m 180 #[.val (.int p1), .val (.int p2), .val (.int p3), .val (.int p4), .unset, .unset, .unset, .unset, .unset] [(.int (27 : Int32)), (.ref b2), (.ref b2)])) rfl (hb hby at_180) _ ?_
    show Steps p.tables e below (T56.setTop (mkF m 182 #[.val (.int p1), .val (.int p2), .val (.int p3), .val (.int p4), .unset, .unset, .unset, .unset, .unset] [(.int (65533 : Int32)), (.int (27 : Int32)), (.ref b2), (.ref b2)])) _
    exact hk
  obtain ⟨T58, h58, X58, e58, W58, V58', st58⟩ := own_stI X56 hx hZ e56 V56 (j := (27 : Int32)) 27 rfl ⟨by decide, by decide⟩ (by decide) (g := (mkF m 182 #[.val (.int p1), .val (.int p2), .val (.int p3), .val (.int p4), .unset, .unset, .unset, .unset, .unset] [(.int (65533 : Int32)), (.int (27 : Int32)), (.ref b2), (.ref b2)])) rfl rfl (hb hby at_182)
  have V58 : Arv Z h58 b2 c2 .int (30 : Int32) [(.int (58 : Int32)), (.int (65 : Int32)), (.int (90 : Int32)), (.int (95 : Int32)), (.int (97 : Int32)), (.int (122 : Int32)), (.int (192 : Int32)), (.int (214 : Int32)), (.int (216 : Int32)), (.int (246 : Int32)), (.int (248 : Int32)), (.int (767 : Int32)), (.int (880 : Int32)), (.int (893 : Int32)), (.int (895 : Int32)), (.int (8191 : Int32)), (.int (8204 : Int32)), (.int (8205 : Int32)), (.int (8304 : Int32)), (.int (8591 : Int32)), (.int (11264 : Int32)), (.int (12271 : Int32)), (.int (12289 : Int32)), (.int (55295 : Int32)), (.int (63744 : Int32)), (.int (64975 : Int32)), (.int (65008 : Int32)), (.int (65533 : Int32)), (.int (0 : Int32)), (.int (0 : Int32))] (.int (0 : Int32)) := V58'
  have N58 := Fr.snoc X58 N56 gb2
  have sz58 : n0 ≤ h58.size := Nat.le_trans sz56 (Keep.of_wr W58).1
  have K58 : ∀ t, Steps p.tables e below (T58.setTop (mkF m 183 #[.val (.int p1), .val (.int p2), .val (.int p3), .val (.int p4), .unset, .unset, .unset, .unset, .unset] [(.ref b2)])) t → Steps p.tables e below (s₁.setTop (entryFrame m #[(.int p1), (.int p2), (.int p3), (.int p4)] maxLocals)) t := fun t hk => K57 t (st58 _ hk)
  have K59 : ∀ t, Steps p.tables e below (T58.setTop (mkF m 188 #[.val (.int p1), .val (.int p2), .val (.int p3), .val (.int p4), .unset, .unset, .unset, .unset, .unset] [(.int (65536 : Int32)), (.int (28 : Int32)), (.ref b2), (.ref b2)])) t → Steps p.tables e below (s₁.setTop (entryFrame m #[(.int p1), (.int p2), (.int p3), (.int p4)] maxLocals)) t := by
    intro t hk
    refine K58 t ?_
    show Steps p.tables e below (T58.setTop (mkF m 183 #[.val (.int p1), .val (.int p2), .val (.int p3), .val (.int p4), .unset, .unset, .unset, .unset, .unset] [(.ref b2)])) _
    refine XS.dup X58.here hx rfl (hb hby at_183) rfl rfl ?_
    show Steps p.tables e below (T58.setTop (mkF m 184 #[.val (.int p1), .val (.int p2), .val (.int p3), .val (.int p4), .unset, .unset, .unset, .unset, .unset] [(.ref b2), (.ref b2)])) _
    refine XS.bipush X58.here hx rfl (hb hby at_184) ?_
    show Steps p.tables e below (T58.setTop (mkF m 186 #[.val (.int p1), .val (.int p2), .val (.int p3), .val (.int p4), .unset, .unset, .unset, .unset, .unset] [(.int (28 : Int32)), (.ref b2), (.ref b2)])) _
    refine X58.ldcInt hx hown (mvT hZ (hw _ (List.mem_of_getElem? (i := 6) rfl))) (g := (mkF m 186 #[.val (.int p1), .val (.int p2), .val (.int p3), .val (.int p4), .unset, .unset, .unset, .unset, .unset] [(.int (28 : Int32)), (.ref b2), (.ref b2)])) rfl (hb hby at_186) _ ?_
    show Steps p.tables e below (T58.setTop (mkF m 188 #[.val (.int p1), .val (.int p2), .val (.int p3), .val (.int p4), .unset, .unset, .unset, .unset, .unset] [(.int (65536 : Int32)), (.int (28 : Int32)), (.ref b2), (.ref b2)])) _
    exact hk
  obtain ⟨T60, h60, X60, e60, W60, V60', st60⟩ := own_stI X58 hx hZ e58 V58 (j := (28 : Int32)) 28 rfl ⟨by decide, by decide⟩ (by decide) (g := (mkF m 188 #[.val (.int p1), .val (.int p2), .val (.int p3), .val (.int p4), .unset, .unset, .unset, .unset, .unset] [(.int (65536 : Int32)), (.int (28 : Int32)), (.ref b2), (.ref b2)])) rfl rfl (hb hby at_188)
  have V60 : Arv Z h60 b2 c2 .int (30 : Int32) [(.int (58 : Int32)), (.int (65 : Int32)), (.int (90 : Int32)), (.int (95 : Int32)), (.int (97 : Int32)), (.int (122 : Int32)), (.int (192 : Int32)), (.int (214 : Int32)), (.int (216 : Int32)), (.int (246 : Int32)), (.int (248 : Int32)), (.int (767 : Int32)), (.int (880 : Int32)), (.int (893 : Int32)), (.int (895 : Int32)), (.int (8191 : Int32)), (.int (8204 : Int32)), (.int (8205 : Int32)), (.int (8304 : Int32)), (.int (8591 : Int32)), (.int (11264 : Int32)), (.int (12271 : Int32)), (.int (12289 : Int32)), (.int (55295 : Int32)), (.int (63744 : Int32)), (.int (64975 : Int32)), (.int (65008 : Int32)), (.int (65533 : Int32)), (.int (65536 : Int32)), (.int (0 : Int32))] (.int (0 : Int32)) := V60'
  have N60 := Fr.snoc X60 N58 gb2
  have sz60 : n0 ≤ h60.size := Nat.le_trans sz58 (Keep.of_wr W60).1
  have K60 : ∀ t, Steps p.tables e below (T60.setTop (mkF m 189 #[.val (.int p1), .val (.int p2), .val (.int p3), .val (.int p4), .unset, .unset, .unset, .unset, .unset] [(.ref b2)])) t → Steps p.tables e below (s₁.setTop (entryFrame m #[(.int p1), (.int p2), (.int p3), (.int p4)] maxLocals)) t := fun t hk => K59 t (st60 _ hk)
  have K61 : ∀ t, Steps p.tables e below (T60.setTop (mkF m 194 #[.val (.int p1), .val (.int p2), .val (.int p3), .val (.int p4), .unset, .unset, .unset, .unset, .unset] [(.int (983039 : Int32)), (.int (29 : Int32)), (.ref b2), (.ref b2)])) t → Steps p.tables e below (s₁.setTop (entryFrame m #[(.int p1), (.int p2), (.int p3), (.int p4)] maxLocals)) t := by
    intro t hk
    refine K60 t ?_
    show Steps p.tables e below (T60.setTop (mkF m 189 #[.val (.int p1), .val (.int p2), .val (.int p3), .val (.int p4), .unset, .unset, .unset, .unset, .unset] [(.ref b2)])) _
    refine XS.dup X60.here hx rfl (hb hby at_189) rfl rfl ?_
    show Steps p.tables e below (T60.setTop (mkF m 190 #[.val (.int p1), .val (.int p2), .val (.int p3), .val (.int p4), .unset, .unset, .unset, .unset, .unset] [(.ref b2), (.ref b2)])) _
    refine XS.bipush X60.here hx rfl (hb hby at_190) ?_
    show Steps p.tables e below (T60.setTop (mkF m 192 #[.val (.int p1), .val (.int p2), .val (.int p3), .val (.int p4), .unset, .unset, .unset, .unset, .unset] [(.int (29 : Int32)), (.ref b2), (.ref b2)])) _
    refine X60.ldcInt hx hown (mvT hZ (hw _ (List.mem_of_getElem? (i := 7) rfl))) (g := (mkF m 192 #[.val (.int p1), .val (.int p2), .val (.int p3), .val (.int p4), .unset, .unset, .unset, .unset, .unset] [(.int (29 : Int32)), (.ref b2), (.ref b2)])) rfl (hb hby at_192) _ ?_
    show Steps p.tables e below (T60.setTop (mkF m 194 #[.val (.int p1), .val (.int p2), .val (.int p3), .val (.int p4), .unset, .unset, .unset, .unset, .unset] [(.int (983039 : Int32)), (.int (29 : Int32)), (.ref b2), (.ref b2)])) _
    exact hk
  obtain ⟨T62, h62, X62, e62, W62, V62', st62⟩ := own_stI X60 hx hZ e60 V60 (j := (29 : Int32)) 29 rfl ⟨by decide, by decide⟩ (by decide) (g := (mkF m 194 #[.val (.int p1), .val (.int p2), .val (.int p3), .val (.int p4), .unset, .unset, .unset, .unset, .unset] [(.int (983039 : Int32)), (.int (29 : Int32)), (.ref b2), (.ref b2)])) rfl rfl (hb hby at_194)
  have V62 : Arv Z h62 b2 c2 .int (30 : Int32) [(.int (58 : Int32)), (.int (65 : Int32)), (.int (90 : Int32)), (.int (95 : Int32)), (.int (97 : Int32)), (.int (122 : Int32)), (.int (192 : Int32)), (.int (214 : Int32)), (.int (216 : Int32)), (.int (246 : Int32)), (.int (248 : Int32)), (.int (767 : Int32)), (.int (880 : Int32)), (.int (893 : Int32)), (.int (895 : Int32)), (.int (8191 : Int32)), (.int (8204 : Int32)), (.int (8205 : Int32)), (.int (8304 : Int32)), (.int (8591 : Int32)), (.int (11264 : Int32)), (.int (12271 : Int32)), (.int (12289 : Int32)), (.int (55295 : Int32)), (.int (63744 : Int32)), (.int (64975 : Int32)), (.int (65008 : Int32)), (.int (65533 : Int32)), (.int (65536 : Int32)), (.int (983039 : Int32))] (.int (0 : Int32)) := V62'
  have N62 := Fr.snoc X62 N60 gb2
  have sz62 : n0 ≤ h62.size := Nat.le_trans sz60 (Keep.of_wr W62).1
  have K62 : ∀ t, Steps p.tables e below (T62.setTop (mkF m 195 #[.val (.int p1), .val (.int p2), .val (.int p3), .val (.int p4), .unset, .unset, .unset, .unset, .unset] [(.ref b2)])) t → Steps p.tables e below (s₁.setTop (entryFrame m #[(.int p1), (.int p2), (.int p3), (.int p4)] maxLocals)) t := fun t hk => K61 t (st62 _ hk)
  have K63 : ∀ t, Steps p.tables e below (T62.setTop (mkF m 203 #[.val (.int p1), .val (.int p2), .val (.int p3), .val (.int p4), .val (.ref b2), .unset, .unset, .unset, .unset] [(.ref b2), (.int (p3 &&& (2147483647 : Int32)))])) t → Steps p.tables e below (s₁.setTop (entryFrame m #[(.int p1), (.int p2), (.int p3), (.int p4)] maxLocals)) t := by
    intro t hk
    refine K62 t ?_
    show Steps p.tables e below (T62.setTop (mkF m 195 #[.val (.int p1), .val (.int p2), .val (.int p3), .val (.int p4), .unset, .unset, .unset, .unset, .unset] [(.ref b2)])) _
    refine XS.astore X62.here hx rfl (hb hby at_195) rfl rfl (l' := #[.val (.int p1), .val (.int p2), .val (.int p3), .val (.int p4), .val (.ref b2), .unset, .unset, .unset, .unset]) rfl ?_
    show Steps p.tables e below (T62.setTop (mkF m 197 #[.val (.int p1), .val (.int p2), .val (.int p3), .val (.int p4), .val (.ref b2), .unset, .unset, .unset, .unset] [])) _
    refine XS.iloadN X62.here hx rfl (hb hby at_197) rfl ?_
    show Steps p.tables e below (T62.setTop (mkF m 198 #[.val (.int p1), .val (.int p2), .val (.int p3), .val (.int p4), .val (.ref b2), .unset, .unset, .unset, .unset] [(.int p3)])) _
    refine X62.ldcInt hx hown (mvT hZ (hw _ (List.mem_of_getElem? (i := 8) rfl))) (g := (mkF m 198 #[.val (.int p1), .val (.int p2), .val (.int p3), .val (.int p4), .val (.ref b2), .unset, .unset, .unset, .unset] [(.int p3)])) rfl (hb hby at_198) _ ?_
    show Steps p.tables e below (T62.setTop (mkF m 200 #[.val (.int p1), .val (.int p2), .val (.int p3), .val (.int p4), .val (.ref b2), .unset, .unset, .unset, .unset] [(.int (2147483647 : Int32)), (.int p3)])) _
    refine XS.iand X62.here hx rfl (hb hby at_200) rfl ?_
    show Steps p.tables e below (T62.setTop (mkF m 201 #[.val (.int p1), .val (.int p2), .val (.int p3), .val (.int p4), .val (.ref b2), .unset, .unset, .unset, .unset] [(.int (p3 &&& (2147483647 : Int32)))])) _
    refine XS.aload X62.here hx rfl (hb hby at_201) rfl rfl ?_
    show Steps p.tables e below (T62.setTop (mkF m 203 #[.val (.int p1), .val (.int p2), .val (.int p3), .val (.int p4), .val (.ref b2), .unset, .unset, .unset, .unset] [(.ref b2), (.int (p3 &&& (2147483647 : Int32)))])) _
    exact hk
  obtain ⟨cl64, Ar64, -, S64, M64, -, -⟩ := id V62
  have K64 : ∀ t, Steps p.tables e below (T62.setTop (mkF m 204 #[.val (.int p1), .val (.int p2), .val (.int p3), .val (.int p4), .val (.ref b2), .unset, .unset, .unset, .unset] [(.int (30 : Int32)), (.int (p3 &&& (2147483647 : Int32)))])) t → Steps p.tables e below (s₁.setTop (entryFrame m #[(.int p1), (.int p2), (.int p3), (.int p4)] maxLocals)) t := by
    intro t hk
    refine K63 t ?_
    refine X62.arraylength hx (by rw [e62]; exact Ar64.1) (State.isArrayOf_alike hZ.alike Ar64.2.1) (g := (mkF m 203 #[.val (.int p1), .val (.int p2), .val (.int p3), .val (.int p4), .val (.ref b2), .unset, .unset, .unset, .unset] [(.ref b2), (.int (p3 &&& (2147483647 : Int32)))])) rfl rfl (hb hby at_203) _ ?_
    rw [len_of S64 M64]
    exact hk
  have K65 : ∀ t, Steps p.tables e below (T62.setTop (mkF m 221 #[.val (.int p1), .val (.int p2), .val (.int p3), .val (.int p4), .val (.ref b2), .val (.int ((p3 &&& (2147483647 : Int32)) % (30 : Int32))), .val (.int (((p4 &&& (2147483647 : Int32)) % (3 : Int32)) - (1 : Int32))), .unset, .unset] [(.int ((p3 &&& (2147483647 : Int32)) % (30 : Int32))), (.ref b2)])) t → Steps p.tables e below (s₁.setTop (entryFrame m #[(.int p1), (.int p2), (.int p3), (.int p4)] maxLocals)) t := by
    intro t hk
    refine K64 t ?_
    show Steps p.tables e below (T62.setTop (mkF m 204 #[.val (.int p1), .val (.int p2), .val (.int p3), .val (.int p4), .val (.ref b2), .unset, .unset, .unset, .unset] [(.int (30 : Int32)), (.int (p3 &&& (2147483647 : Int32)))])) _
    refine XS.irem X62.here hx rfl (hb hby at_204) rfl (by decide) ?_
    rw [Jvm.irem_eq_mod (p3 &&& (2147483647 : Int32)) (30 : Int32)]
    show Steps p.tables e below (T62.setTop (mkF m 205 #[.val (.int p1), .val (.int p2), .val (.int p3), .val (.int p4), .val (.ref b2), .unset, .unset, .unset, .unset] [(.int ((p3 &&& (2147483647 : Int32)) % (30 : Int32)))])) _
    refine XS.istore X62.here hx rfl (hb hby at_205) rfl (l' := #[.val (.int p1), .val (.int p2), .val (.int p3), .val (.int p4), .val (.ref b2), .val (.int ((p3 &&& (2147483647 : Int32)) % (30 : Int32))), .unset, .unset, .unset]) rfl ?_
    show Steps p.tables e below (T62.setTop (mkF m 207 #[.val (.int p1), .val (.int p2), .val (.int p3), .val (.int p4), .val (.ref b2), .val (.int ((p3 &&& (2147483647 : Int32)) % (30 : Int32))), .unset, .unset, .unset] [])) _
    refine XS.iloadN X62.here hx rfl (hb hby at_207) rfl ?_
    show Steps p.tables e below (T62.setTop (mkF m 208 #[.val (.int p1), .val (.int p2), .val (.int p3), .val (.int p4), .val (.ref b2), .val (.int ((p3 &&& (2147483647 : Int32)) % (30 : Int32))), .unset, .unset, .unset] [(.int p4)])) _
    refine X62.ldcInt hx hown (mvT hZ (hw _ (List.mem_of_getElem? (i := 8) rfl))) (g := (mkF m 208 #[.val (.int p1), .val (.int p2), .val (.int p3), .val (.int p4), .val (.ref b2), .val (.int ((p3 &&& (2147483647 : Int32)) % (30 : Int32))), .unset, .unset, .unset] [(.int p4)])) rfl (hb hby at_208) _ ?_
    show Steps p.tables e below (T62.setTop (mkF m 210 #[.val (.int p1), .val (.int p2), .val (.int p3), .val (.int p4), .val (.ref b2), .val (.int ((p3 &&& (2147483647 : Int32)) % (30 : Int32))), .unset, .unset, .unset] [(.int (2147483647 : Int32)), (.int p4)])) _
    refine XS.iand X62.here hx rfl (hb hby at_210) rfl ?_
    show Steps p.tables e below (T62.setTop (mkF m 211 #[.val (.int p1), .val (.int p2), .val (.int p3), .val (.int p4), .val (.ref b2), .val (.int ((p3 &&& (2147483647 : Int32)) % (30 : Int32))), .unset, .unset, .unset] [(.int (p4 &&& (2147483647 : Int32)))])) _
    refine XS.iconst X62.here hx rfl (hb hby at_211) ?_
    show Steps p.tables e below (T62.setTop (mkF m 212 #[.val (.int p1), .val (.int p2), .val (.int p3), .val (.int p4), .val (.ref b2), .val (.int ((p3 &&& (2147483647 : Int32)) % (30 : Int32))), .unset, .unset, .unset] [(.int (3 : Int32)), (.int (p4 &&& (2147483647 : Int32)))])) _
    refine XS.irem X62.here hx rfl (hb hby at_212) rfl (by decide) ?_
    rw [Jvm.irem_eq_mod (p4 &&& (2147483647 : Int32)) (3 : Int32)]
    show Steps p.tables e below (T62.setTop (mkF m 213 #[.val (.int p1), .val (.int p2), .val (.int p3), .val (.int p4), .val (.ref b2), .val (.int ((p3 &&& (2147483647 : Int32)) % (30 : Int32))), .unset, .unset, .unset] [(.int ((p4 &&& (2147483647 : Int32)) % (3 : Int32)))])) _
    refine XS.iconst X62.here hx rfl (hb hby at_213) ?_
    show Steps p.tables e below (T62.setTop (mkF m 214 #[.val (.int p1), .val (.int p2), .val (.int p3), .val (.int p4), .val (.ref b2), .val (.int ((p3 &&& (2147483647 : Int32)) % (30 : Int32))), .unset, .unset, .unset] [(.int (1 : Int32)), (.int ((p4 &&& (2147483647 : Int32)) % (3 : Int32)))])) _
    refine XS.isub X62.here hx rfl (hb hby at_214) rfl ?_
    show Steps p.tables e below (T62.setTop (mkF m 215 #[.val (.int p1), .val (.int p2), .val (.int p3), .val (.int p4), .val (.ref b2), .val (.int ((p3 &&& (2147483647 : Int32)) % (30 : Int32))), .unset, .unset, .unset] [(.int (((p4 &&& (2147483647 : Int32)) % (3 : Int32)) - (1 : Int32)))])) _
    refine XS.istore X62.here hx rfl (hb hby at_215) rfl (l' := #[.val (.int p1), .val (.int p2), .val (.int p3), .val (.int p4), .val (.ref b2), .val (.int ((p3 &&& (2147483647 : Int32)) % (30 : Int32))), .val (.int (((p4 &&& (2147483647 : Int32)) % (3 : Int32)) - (1 : Int32))), .unset, .unset]) rfl ?_
    show Steps p.tables e below (T62.setTop (mkF m 217 #[.val (.int p1), .val (.int p2), .val (.int p3), .val (.int p4), .val (.ref b2), .val (.int ((p3 &&& (2147483647 : Int32)) % (30 : Int32))), .val (.int (((p4 &&& (2147483647 : Int32)) % (3 : Int32)) - (1 : Int32))), .unset, .unset] [])) _
    refine XS.aload X62.here hx rfl (hb hby at_217) rfl rfl ?_
    show Steps p.tables e below (T62.setTop (mkF m 219 #[.val (.int p1), .val (.int p2), .val (.int p3), .val (.int p4), .val (.ref b2), .val (.int ((p3 &&& (2147483647 : Int32)) % (30 : Int32))), .val (.int (((p4 &&& (2147483647 : Int32)) % (3 : Int32)) - (1 : Int32))), .unset, .unset] [(.ref b2)])) _
    refine XS.iload X62.here hx rfl (hb hby at_219) rfl ?_
    show Steps p.tables e below (T62.setTop (mkF m 221 #[.val (.int p1), .val (.int p2), .val (.int p3), .val (.int p4), .val (.ref b2), .val (.int ((p3 &&& (2147483647 : Int32)) % (30 : Int32))), .val (.int (((p4 &&& (2147483647 : Int32)) % (3 : Int32)) - (1 : Int32))), .unset, .unset] [(.int ((p3 &&& (2147483647 : Int32)) % (30 : Int32))), (.ref b2)])) _
    exact hk
  obtain ⟨w, hv_w, st66⟩ := own_ldI X62 hx hZ e62 V62 (j := ((p3 &&& (2147483647 : Int32)) % (30 : Int32))) (own_idx p3) (g := (mkF m 221 #[.val (.int p1), .val (.int p2), .val (.int p3), .val (.int p4), .val (.ref b2), .val (.int ((p3 &&& (2147483647 : Int32)) % (30 : Int32))), .val (.int (((p4 &&& (2147483647 : Int32)) % (3 : Int32)) - (1 : Int32))), .unset, .unset] [(.int ((p3 &&& (2147483647 : Int32)) % (30 : Int32))), (.ref b2)])) rfl rfl (hb hby at_221)
  have K66 : ∀ t, Steps p.tables e below (T62.setTop (mkF m 222 #[.val (.int p1), .val (.int p2), .val (.int p3), .val (.int p4), .val (.ref b2), .val (.int ((p3 &&& (2147483647 : Int32)) % (30 : Int32))), .val (.int (((p4 &&& (2147483647 : Int32)) % (3 : Int32)) - (1 : Int32))), .unset, .unset] [(.int w)])) t → Steps p.tables e below (s₁.setTop (entryFrame m #[(.int p1), (.int p2), (.int p3), (.int p4)] maxLocals)) t := fun t hk => K65 t (st66 _ hk)
  have K67 : ∀ t, Steps p.tables e below (T62.setTop (mkF m 236 #[.val (.int p1), .val (.int p2), .val (.int p3), .val (.int p4), .val (.ref b2), .val (.int ((p3 &&& (2147483647 : Int32)) % (30 : Int32))), .val (.int (((p4 &&& (2147483647 : Int32)) % (3 : Int32)) - (1 : Int32))), .val (.int (w + (((p4 &&& (2147483647 : Int32)) % (3 : Int32)) - (1 : Int32)))), .val (.int ((p2 &&& (2147483647 : Int32)) % (983056 : Int32)))] [])) t → Steps p.tables e below (s₁.setTop (entryFrame m #[(.int p1), (.int p2), (.int p3), (.int p4)] maxLocals)) t := by
    intro t hk
    refine K66 t ?_
    show Steps p.tables e below (T62.setTop (mkF m 222 #[.val (.int p1), .val (.int p2), .val (.int p3), .val (.int p4), .val (.ref b2), .val (.int ((p3 &&& (2147483647 : Int32)) % (30 : Int32))), .val (.int (((p4 &&& (2147483647 : Int32)) % (3 : Int32)) - (1 : Int32))), .unset, .unset] [(.int w)])) _
    refine XS.iload X62.here hx rfl (hb hby at_222) rfl ?_
    show Steps p.tables e below (T62.setTop (mkF m 224 #[.val (.int p1), .val (.int p2), .val (.int p3), .val (.int p4), .val (.ref b2), .val (.int ((p3 &&& (2147483647 : Int32)) % (30 : Int32))), .val (.int (((p4 &&& (2147483647 : Int32)) % (3 : Int32)) - (1 : Int32))), .unset, .unset] [(.int (((p4 &&& (2147483647 : Int32)) % (3 : Int32)) - (1 : Int32))), (.int w)])) _
    refine XS.iadd X62.here hx rfl (hb hby at_224) rfl ?_
    show Steps p.tables e below (T62.setTop (mkF m 225 #[.val (.int p1), .val (.int p2), .val (.int p3), .val (.int p4), .val (.ref b2), .val (.int ((p3 &&& (2147483647 : Int32)) % (30 : Int32))), .val (.int (((p4 &&& (2147483647 : Int32)) % (3 : Int32)) - (1 : Int32))), .unset, .unset] [(.int (w + (((p4 &&& (2147483647 : Int32)) % (3 : Int32)) - (1 : Int32))))])) _
    refine XS.istore X62.here hx rfl (hb hby at_225) rfl (l' := #[.val (.int p1), .val (.int p2), .val (.int p3), .val (.int p4), .val (.ref b2), .val (.int ((p3 &&& (2147483647 : Int32)) % (30 : Int32))), .val (.int (((p4 &&& (2147483647 : Int32)) % (3 : Int32)) - (1 : Int32))), .val (.int (w + (((p4 &&& (2147483647 : Int32)) % (3 : Int32)) - (1 : Int32)))), .unset]) rfl ?_
    show Steps p.tables e below (T62.setTop (mkF m 227 #[.val (.int p1), .val (.int p2), .val (.int p3), .val (.int p4), .val (.ref b2), .val (.int ((p3 &&& (2147483647 : Int32)) % (30 : Int32))), .val (.int (((p4 &&& (2147483647 : Int32)) % (3 : Int32)) - (1 : Int32))), .val (.int (w + (((p4 &&& (2147483647 : Int32)) % (3 : Int32)) - (1 : Int32)))), .unset] [])) _
    refine XS.iloadN X62.here hx rfl (hb hby at_227) rfl ?_
    show Steps p.tables e below (T62.setTop (mkF m 228 #[.val (.int p1), .val (.int p2), .val (.int p3), .val (.int p4), .val (.ref b2), .val (.int ((p3 &&& (2147483647 : Int32)) % (30 : Int32))), .val (.int (((p4 &&& (2147483647 : Int32)) % (3 : Int32)) - (1 : Int32))), .val (.int (w + (((p4 &&& (2147483647 : Int32)) % (3 : Int32)) - (1 : Int32)))), .unset] [(.int p2)])) _
    refine X62.ldcInt hx hown (mvT hZ (hw _ (List.mem_of_getElem? (i := 8) rfl))) (g := (mkF m 228 #[.val (.int p1), .val (.int p2), .val (.int p3), .val (.int p4), .val (.ref b2), .val (.int ((p3 &&& (2147483647 : Int32)) % (30 : Int32))), .val (.int (((p4 &&& (2147483647 : Int32)) % (3 : Int32)) - (1 : Int32))), .val (.int (w + (((p4 &&& (2147483647 : Int32)) % (3 : Int32)) - (1 : Int32)))), .unset] [(.int p2)])) rfl (hb hby at_228) _ ?_
    show Steps p.tables e below (T62.setTop (mkF m 230 #[.val (.int p1), .val (.int p2), .val (.int p3), .val (.int p4), .val (.ref b2), .val (.int ((p3 &&& (2147483647 : Int32)) % (30 : Int32))), .val (.int (((p4 &&& (2147483647 : Int32)) % (3 : Int32)) - (1 : Int32))), .val (.int (w + (((p4 &&& (2147483647 : Int32)) % (3 : Int32)) - (1 : Int32)))), .unset] [(.int (2147483647 : Int32)), (.int p2)])) _
    refine XS.iand X62.here hx rfl (hb hby at_230) rfl ?_
    show Steps p.tables e below (T62.setTop (mkF m 231 #[.val (.int p1), .val (.int p2), .val (.int p3), .val (.int p4), .val (.ref b2), .val (.int ((p3 &&& (2147483647 : Int32)) % (30 : Int32))), .val (.int (((p4 &&& (2147483647 : Int32)) % (3 : Int32)) - (1 : Int32))), .val (.int (w + (((p4 &&& (2147483647 : Int32)) % (3 : Int32)) - (1 : Int32)))), .unset] [(.int (p2 &&& (2147483647 : Int32)))])) _
    refine X62.ldcInt hx hown (mvT hZ (hw _ (List.mem_of_getElem? (i := 9) rfl))) (g := (mkF m 231 #[.val (.int p1), .val (.int p2), .val (.int p3), .val (.int p4), .val (.ref b2), .val (.int ((p3 &&& (2147483647 : Int32)) % (30 : Int32))), .val (.int (((p4 &&& (2147483647 : Int32)) % (3 : Int32)) - (1 : Int32))), .val (.int (w + (((p4 &&& (2147483647 : Int32)) % (3 : Int32)) - (1 : Int32)))), .unset] [(.int (p2 &&& (2147483647 : Int32)))])) rfl (hb hby at_231) _ ?_
    show Steps p.tables e below (T62.setTop (mkF m 233 #[.val (.int p1), .val (.int p2), .val (.int p3), .val (.int p4), .val (.ref b2), .val (.int ((p3 &&& (2147483647 : Int32)) % (30 : Int32))), .val (.int (((p4 &&& (2147483647 : Int32)) % (3 : Int32)) - (1 : Int32))), .val (.int (w + (((p4 &&& (2147483647 : Int32)) % (3 : Int32)) - (1 : Int32)))), .unset] [(.int (983056 : Int32)), (.int (p2 &&& (2147483647 : Int32)))])) _
    refine XS.irem X62.here hx rfl (hb hby at_233) rfl (by decide) ?_
    rw [Jvm.irem_eq_mod (p2 &&& (2147483647 : Int32)) (983056 : Int32)]
    show Steps p.tables e below (T62.setTop (mkF m 234 #[.val (.int p1), .val (.int p2), .val (.int p3), .val (.int p4), .val (.ref b2), .val (.int ((p3 &&& (2147483647 : Int32)) % (30 : Int32))), .val (.int (((p4 &&& (2147483647 : Int32)) % (3 : Int32)) - (1 : Int32))), .val (.int (w + (((p4 &&& (2147483647 : Int32)) % (3 : Int32)) - (1 : Int32)))), .unset] [(.int ((p2 &&& (2147483647 : Int32)) % (983056 : Int32)))])) _
    refine XS.istore X62.here hx rfl (hb hby at_234) rfl (l' := #[.val (.int p1), .val (.int p2), .val (.int p3), .val (.int p4), .val (.ref b2), .val (.int ((p3 &&& (2147483647 : Int32)) % (30 : Int32))), .val (.int (((p4 &&& (2147483647 : Int32)) % (3 : Int32)) - (1 : Int32))), .val (.int (w + (((p4 &&& (2147483647 : Int32)) % (3 : Int32)) - (1 : Int32)))), .val (.int ((p2 &&& (2147483647 : Int32)) % (983056 : Int32)))]) rfl ?_
    show Steps p.tables e below (T62.setTop (mkF m 236 #[.val (.int p1), .val (.int p2), .val (.int p3), .val (.int p4), .val (.ref b2), .val (.int ((p3 &&& (2147483647 : Int32)) % (30 : Int32))), .val (.int (((p4 &&& (2147483647 : Int32)) % (3 : Int32)) - (1 : Int32))), .val (.int (w + (((p4 &&& (2147483647 : Int32)) % (3 : Int32)) - (1 : Int32)))), .val (.int ((p2 &&& (2147483647 : Int32)) % (983056 : Int32)))] [])) _
    exact hk
  exact own_tail X62 hx hby hml hown hZ hw Bd.returns Bd.notSynchronized p1 p2 p3 p4 _ _ _ _ _ e62 sz62 N62 (by decide) (by decide) K67
set_option maxRecDepth 65536 in
set_option maxHeartbeats 40000000 in
theorem comes_1 {Post : Tables → Env → Array Value → State → Outcome → State → Prop} (hpost : ∀ tb e args s v u, (limb_1_1.after args s (.returned v) u = true ∧ limb_1_2.after args s (.returned v) u = true ∧ True) → FrameEnd s (.returned v) u (Jvm.fieldLocs frame_1_writes args s ++ Jvm.arrayLocs frame_1_arrays args s ++ Jvm.staticLocs frame_1_statics s) 16 128 → Post tb e args s (.returned v) u) :
    ArmFor flags0 classFile x code maxLocals ret World_1 tables_1 room_1 Calls_1 rest_1 Pre_1 Post := by
  intro l hfl _ _ p e ha hc hk s m args below hf hA hF happ hP
  obtain ⟨hcalls, hrest, hpre⟩ := hP
  obtain ⟨-, -, -, hnamed, -, -, -, hat⟩ := (Spec.applies_iff hf).mp happ
  obtain ⟨hg, hn⟩ := and_e (Cond.before_iff.mp (show (Jvm.Cond.and given_1 narrow_1).before args s = true from hpre))
  obtain ⟨gc, gr⟩ := and_e hg
  obtain ⟨ga0, gr⟩ := and_e gr
  obtain ⟨ga1, gr⟩ := and_e gr
  obtain ⟨ga2, gr⟩ := and_e gr
  obtain ⟨w0, w1, w2, w3, rfl⟩ : ∃ w0 w1 w2 w3 : Value, args = #[w0, w1, w2, w3] := by
    have hs : args.size = 4 := by simpa [Cond.value, given_1] using gc
    obtain ⟨L⟩ := args
    match L, hs with
    | [w0, w1, w2, w3], _ => exact ⟨w0, w1, w2, w3, rfl⟩
  have hw := fun d (hd : d ∈ tables_1) => atoms_spec (ws := Jvm.Cond.code x code maxLocals ret :: tables_1) hat d (List.mem_cons_of_mem _ hd)
  have hfit : Fit s := fun {y c} hc i hi => by
    obtain ⟨ha, rfl⟩ := Array.getElem?_eq_some_iff.mp hc
    have q := List.all_eq_true.mp ((Array.all_eq_true_iff_forall_mem.mp hF) _ (Array.getElem_mem ha)) i (List.mem_range.mpr hi)
    simpa [Array.getElem?_eq_getElem hi] using q
  obtain ⟨i0, ei0⟩ := is_v ga0
  obtain rfl : w0 = (.int i0) := Option.some.inj ei0
  obtain ⟨i1, ei1⟩ := is_v ga1
  obtain rfl : w1 = (.int i1) := Option.some.inj ei1
  obtain ⟨i2, ei2⟩ := is_v ga2
  obtain rfl : w2 = (.int i2) := Option.some.inj ei2
  obtain ⟨i3, ei3⟩ := is_v gr
  obtain rfl : w3 = (.int i3) := Option.some.inj ei3
  obtain ⟨n, o, h1, h2, h3, _, L, rfl, ⟨rfl, N⟩, hq⟩ := rm0 l s _ hw tables_1 i0 i1 i2 i3  s.heap s.heap.size (Nat.le_refl _)  p e ha hc hk s m _ below hf ((Spec.applies_iff_loose hf).mp happ).1 ⟨rfl, State.Warmed39.refl s, rfl⟩ trivial
  refine ⟨n, _, h1, h2, h3, hpost _ _ _ _ _ _ ⟨Cond.after_iff.mpr rfl, Cond.after_iff.mpr (eq_i res_at (Term.int_eval (1)) rfl), trivial⟩ ⟨hq.1, hq.2.1, (hq.2.2.sift fun y hy => Or.inr (N y hy)).mono (by decide) (by decide)⟩⟩
theorem main_1_1 : Claimed_1_1 := comes_1 fun _ _ _ _ _ _ h hF => ⟨h.1, hF⟩
theorem main_1_2 : Claimed_1_2 := comes_1 fun _ _ _ _ _ _ h hF => ⟨h.2.1, hF⟩
end Jvm.Pilot.@@N@@
namespace Jvm.Pilot.@@N@@
open Jvm Jvm.ClassFile Sem Op Lib Jvm.Free Jvm.Stand Jvm.Pilot.@@N@@.Jvm.D
/-! MADE BY PROGRAM (witnessworld.py) out of the Statement's table words and the real class files: 9 classes; the members and pool entries that the words name. The judged class is class 1, her method 1. -/
namespace start1
open Jvm.ClassFile
def u (s : String) : CpInfo := .utf8 (stringToUtf16 s)
/-- a pool by its gaps: so many unusable entries, then the entry; so many at the end -/
def gap : Nat → List CpInfo → List CpInfo
  | 0, r => r
  | n + 1, r => .unusable :: gap n r
def poolList (es : List (Nat × CpInfo)) (last : Nat) : List CpInfo := es.foldr (fun e r => gap e.1 (e.2 :: r)) (gap last [])
def pool (es : List (Nat × CpInfo)) (last : Nat) : Array CpInfo := ⟨poolList es last⟩
def fileOf (pool : Array CpInfo) (this : Nat) (attrs : Array Attribute := #[]) (ms : Array MethodInfo := #[]) (fl : Nat := 33) (sup : Nat := 0) (ifs : Array Nat := #[]) (fds : Array FieldInfo := #[]) : ClassFile where
  minorVersion := 0
  majorVersion := 65
  constantPool := pool
  accessFlags := fl
  thisClass := this
  superClass := sup
  interfaces := ifs
  fields := fds
  methods := ms
  attributes := attrs
def plain (name : String) (sup : Option ClassId) : Class where
  name := name
  kind := .ordinary
  loader := none
  accessFlags := 33
  super := sup
  interfaces := #[]
  cf := none
  fields := #[]
  methods := #[]
  instanceTypes := #[]
  staticTypes := #[]
  resolved := #[]
  callSites := []
  init := .initialized
  statics := none
  mirror := none

def pool0 : Array CpInfo := pool [(5, u "<init>"), (0, u "()V"), (1, .class_ 10), (1, u "java/lang/Object")] 113

def k0m0 : Method := { name := "<init>", desc := "()V", sig := { parameters := [], returnType := none }, accessFlags := 1, code := none }
/-- java/lang/Object -/
def k0 : Class := { plain "java/lang/Object" none with
  accessFlags := 33
  interfaces := #[]
  cf := some (fileOf pool0 8 #[] #[{ accessFlags := 1, nameIndex := 5, descriptorIndex := 6, attributes := #[] }] 33 0 #[] #[])
  fields := #[]
  methods := #[k0m0]
  instanceTypes := #[]
  staticTypes := #[]
  resolved := Array.replicate 124 none
  statics := none }

def pool1 : Array CpInfo := pool [(2, .class_ 4), (1, u "java/lang/Object"), (0, u "<init>"), (0, u "()V"), (0, .integer 55295), (0, .integer 63744), (0, .integer 64975), (0, .integer 65008), (0, .integer 65533), (0, .integer 65536), (0, .integer 983039), (0, .integer 2147483647), (0, .integer 983056), (0, .methodref 17 18), (0, .class_ 19), (0, .nameAndType 20 21), (0, u "com/example/querent/querent/xdm/XmlChars"), (0, u "isNameStartChar"), (0, u "(I)Z"), (0, .methodref 23 24), (0, .class_ 25), (0, .nameAndType 26 21), (0, u "com/example/querent/querent/xdm/XmlCharsIsNameStartCharPinLaw"), (0, u "ref"), (0, .integer 55296), (0, .integer 63743), (0, .integer 64976), (0, .integer 65007), (0, .integer 65534), (0, .integer 65535), (2, u "law"), (0, u "(IIII)Z")] 5

def k1m0 : Method := { name := "<init>", desc := "()V", sig := { parameters := [], returnType := none }, accessFlags := 2, code := none }
def k1c1 : Code := { maxStack := 4, maxLocals := 9, code := code, exceptionTable := #[], attributes := #[] }
def k1m1 : Method := { name := "law", desc := "(IIII)Z", sig := { parameters := [.int, .int, .int, .int], returnType := some .boolean }, accessFlags := 9, code := some k1c1 }
def k1c2 : Code := { maxStack := 2, maxLocals := 1, code := method_3_code, exceptionTable := #[], attributes := #[] }
def k1m2 : Method := { name := "ref", desc := "(I)Z", sig := { parameters := [.int], returnType := some .boolean }, accessFlags := 10, code := some k1c2 }
/-- com/example/querent/querent/xdm/XmlCharsIsNameStartCharPinLaw -/
def k1 : Class := { plain "com/example/querent/querent/xdm/XmlCharsIsNameStartCharPinLaw" (some 0) with
  accessFlags := 49
  interfaces := #[]
  cf := some (fileOf pool1 23 #[] #[{ accessFlags := 2, nameIndex := 5, descriptorIndex := 6, attributes := #[] }, { accessFlags := 9, nameIndex := 35, descriptorIndex := 36, attributes := #[] }, { accessFlags := 10, nameIndex := 26, descriptorIndex := 21, attributes := #[] }] 49 2 #[] #[])
  fields := #[]
  methods := #[k1m0, k1m1, k1m2]
  instanceTypes := #[]
  staticTypes := #[]
  resolved := Array.replicate 42 none
  statics := none }

def pool2 : Array CpInfo := pool [(2, .class_ 4), (1, u "java/lang/Object"), (0, u "<init>"), (0, u "()V"), (0, .integer 55295), (1, .integer 65533), (0, .integer 65536), (17, .class_ 30), (1, u "com/example/querent/querent/xdm/XmlChars"), (1, u "(I)Z"), (9, .integer 63744), (0, .integer 64975), (0, .integer 65008), (0, .integer 983039), (10, u "isNameStartChar")] 18

def k2m0 : Method := { name := "<init>", desc := "()V", sig := { parameters := [], returnType := none }, accessFlags := 2, code := none }
def k2c1 : Code := { maxStack := 2, maxLocals := 1, code := prog_235_method_5_code, exceptionTable := #[], attributes := #[] }
def k2m1 : Method := { name := "isNameStartChar", desc := "(I)Z", sig := { parameters := [.int], returnType := some .boolean }, accessFlags := 9, code := some k2c1 }
/-- com/example/querent/querent/xdm/XmlChars -/
def k2 : Class := { plain "com/example/querent/querent/xdm/XmlChars" (some 0) with
  accessFlags := 49
  interfaces := #[]
  cf := some (fileOf pool2 28 #[] #[{ accessFlags := 2, nameIndex := 5, descriptorIndex := 6, attributes := #[] }, { accessFlags := 9, nameIndex := 56, descriptorIndex := 32, attributes := #[] }] 49 2 #[] #[])
  fields := #[]
  methods := #[k2m0, k2m1]
  instanceTypes := #[]
  staticTypes := #[]
  resolved := Array.replicate 75 none
  statics := none }

def pool3 : Array CpInfo := pool [(1, u "java/lang/Cloneable"), (0, .class_ 1), (0, u "java/lang/Object"), (0, .class_ 3)] 3

/-- java/lang/Cloneable -/
def k3 : Class := { plain "java/lang/Cloneable" (some 0) with
  accessFlags := 1537
  interfaces := #[]
  cf := some (fileOf pool3 2 #[] #[] 1537 4 #[] #[])
  fields := #[]
  methods := #[]
  instanceTypes := #[]
  staticTypes := #[]
  resolved := Array.replicate 8 none
  statics := none }

def pool4 : Array CpInfo := pool [(1, u "java/io/Serializable"), (0, .class_ 1), (0, u "java/lang/Object"), (0, .class_ 3)] 3

/-- java/io/Serializable -/
def k4 : Class := { plain "java/io/Serializable" (some 0) with
  accessFlags := 1537
  interfaces := #[]
  cf := some (fileOf pool4 2 #[] #[] 1537 4 #[] #[])
  fields := #[]
  methods := #[]
  instanceTypes := #[]
  staticTypes := #[]
  resolved := Array.replicate 8 none
  statics := none }

/-- the primitive byte -/
def k5 : Class := { plain "byte" none with kind := .primitive 'B', accessFlags := 0x411 }
/-- [B -/
def k6 : Class := { plain "[B" (some 0) with kind := .array 5 .byte, interfaces := #[3, 4], accessFlags := 1041 }

/-- the primitive int -/
def k7 : Class := { plain "int" none with kind := .primitive 'I', accessFlags := 0x411 }
/-- [I -/
def k8 : Class := { plain "[I" (some 0) with kind := .array 7 .int, interfaces := #[3, 4], accessFlags := 1041 }

def heap : Heap := #[]
def classes : Array Class := #[k0, k1, k2, k3, k4, k5, k6, k7, k8]
def interned : List (Array UInt16 × Addr) := []
def slotsUsed : Nat := 0
def theMethod : MethodId := ⟨1, 1⟩
def args0 : Array Value := #[.int 5, .int 1, .int 2, .int 3]
def aboutOver (below : List Frame) : State where
  vm := { classes := classes, interned := interned.toArray }
  heap := heap
  slotsUsed := slotsUsed
  threads := #[{ frames := .invoking theMethod args0 :: below }]
def below0 : List Frame := [.native { method := ⟨0, 0⟩, args := #[] }]
def about1 : State := aboutOver below0
def p0 : Program := .bare "" "" ""
def e0 : Env := launch0.env 0 0 0
theorem w_frames : about1.frames = Frame.invoking theMethod args0 :: below0 := rfl
set_option maxRecDepth 65536 in
theorem w_args : argsFit about1.vm theMethod args0 = true := by decide +kernel
set_option maxRecDepth 65536 in
theorem w_heap : heapFits about1 = true := by decide +kernel
set_option maxRecDepth 65536 in
theorem w_runnable : about1.curStatus? = some .runnable := by decide +kernel
set_option maxRecDepth 65536 in
theorem w_alone : about1.alone = true := by decide +kernel
set_option maxRecDepth 65536 in
theorem w_named : about1.methodNamed? x = some theMethod := by decide +kernel
set_option maxRecDepth 65536 in
theorem w_hears : about1.hears theMethod below0 = true := by decide +kernel
set_option maxRecDepth 65536 in
theorem w_ripe : about1.ripe theMethod args0 below0 = true := by decide +kernel
theorem w_running : about1.status = .running := rfl
set_option maxRecDepth 65536 in
theorem w_room : about1.hasRoom e0.platform room_1 = true :=
  launch0.hasRoom_least _ room_1 (by decide +kernel) (by decide +kernel) (by decide +kernel) (by decide +kernel) (by decide +kernel) (by decide +kernel)
theorem allAtoms_all (ts : List Jvm.Cond) (a : Array Jvm.Value) (st : Jvm.State) : (allAtoms ts).before a st = ts.all (fun c => c.before a st) := by
  induction ts with
  | nil => rfl
  | cons c t ih =>
    show (Jvm.Cond.and c (allAtoms t)).before a st = _
    rw [Jvm.Cond.before_and, ih, List.all_cons]
def words1 : List Jvm.Cond := Jvm.Cond.code x code maxLocals ret :: tables_1
/-- a 'code' word, met by the world's own term for the bytes: nothing is compared byte by byte -/
theorem code_word {y : MethodName} {bytes : ByteArray} {mx : Nat} {rt : Option FieldType} {a : Array Value} {s : State} {m : MethodId} {meth : Method} {c : Code} (h1 : s.methodNamed? y = some m) (h2 : s.vm.method? m = some meth) (h3 : meth.code = some c) (h4 : c.code = bytes)
    (h5 : (c.maxLocals == mx && c.exceptionTable.isEmpty && decide (c.maxStack ≤ mostOperands) && decide (meth.sig.returnType = rt) && !meth.locks && decide (parseMethodDescriptor y.desc = some meth.sig)) = true) : (Jvm.Cond.code y bytes mx rt).before a s = true := by
  simp only [Bool.and_eq_true, beq_iff_eq, Bool.not_eq_true', decide_eq_true_eq] at h5
  obtain ⟨⟨⟨⟨⟨g1, g2⟩, g3⟩, g4⟩, g5⟩, g6⟩ := h5
  simp [Cond.before, Cond.holds, Cond.value, h1, h2, h3, h4, g1, g2, g3, g4, g5, g6]
def isCode : Jvm.Cond → Bool
  | .code _ _ _ _ => true
  | _ => false
theorem all_split {L : List Jvm.Cond} {P : Jvm.Cond → Bool} (h1 : L.all (fun c => isCode c || P c) = true) (h2 : ∀ c ∈ L.filter isCode, P c = true) : L.all P = true := by
  refine List.all_eq_true.mpr fun c hc => ?_
  have h := List.all_eq_true.mp h1 c hc
  rcases Bool.eq_false_or_eq_true (isCode c) with hi | hi
  · exact h2 c (List.mem_filter.mpr ⟨hc, hi⟩)
  · simpa [hi] using h
set_option maxRecDepth 65536 in
theorem w_c0 : (Jvm.Cond.code x code maxLocals ret).before args0 about1 = true := code_word (m := ⟨1, 1⟩) (meth := k1m1) (c := k1c1) (by decide +kernel) rfl rfl rfl (by decide +kernel)
set_option maxRecDepth 65536 in
theorem w_c1 : (Jvm.Cond.code ({ cls := "com/example/querent/querent/xdm/XmlChars", name := "isNameStartChar", desc := "(I)Z" } : Jvm.MethodName) prog_235_method_5_code (1 : Nat) (Option.some Jvm.ClassFile.FieldType.boolean)).before args0 about1 = true := code_word (m := ⟨2, 1⟩) (meth := k2m1) (c := k2c1) (by decide +kernel) rfl rfl rfl (by decide +kernel)
set_option maxRecDepth 65536 in
theorem w_c2 : (Jvm.Cond.code ({ cls := "com/example/querent/querent/xdm/XmlCharsIsNameStartCharPinLaw", name := "ref", desc := "(I)Z" } : Jvm.MethodName) method_3_code (1 : Nat) (Option.some Jvm.ClassFile.FieldType.boolean)).before args0 about1 = true := code_word (m := ⟨1, 2⟩) (meth := k1m2) (c := k1c2) (by decide +kernel) rfl rfl rfl (by decide +kernel)
def codes1 : List Jvm.Cond := [Jvm.Cond.code x code maxLocals ret, Jvm.Cond.code ({ cls := "com/example/querent/querent/xdm/XmlChars", name := "isNameStartChar", desc := "(I)Z" } : Jvm.MethodName) prog_235_method_5_code (1 : Nat) (Option.some Jvm.ClassFile.FieldType.boolean), Jvm.Cond.code ({ cls := "com/example/querent/querent/xdm/XmlCharsIsNameStartCharPinLaw", name := "ref", desc := "(I)Z" } : Jvm.MethodName) method_3_code (1 : Nat) (Option.some Jvm.ClassFile.FieldType.boolean)]
set_option maxRecDepth 65536 in
theorem codes_eq : words1.filter isCode = codes1 := rfl
theorem w_codes : ∀ c ∈ words1.filter isCode, c.before args0 about1 = true := by
  rw [codes_eq]
  intro c hc
  simp only [codes1, List.mem_cons, List.not_mem_nil, or_false] at hc
  rcases hc with rfl | rfl | rfl
  · exact w_c0
  · exact w_c1
  · exact w_c2
set_option maxRecDepth 65536 in
theorem w_t1 : (words1.take 24).all (fun c => isCode c || c.before args0 about1) = true := by decide +kernel
set_option maxRecDepth 65536 in
theorem w_t2 : (words1.drop 24).all (fun c => isCode c || c.before args0 about1) = true := by decide +kernel
theorem w_tables : (allAtoms (Jvm.Cond.code x code maxLocals ret :: tables_1)).before args0 about1 = true := by
  rw [allAtoms_all]
  show words1.all (fun c => c.before args0 about1) = true
  refine all_split ?_ w_codes
  rw [← List.take_append_drop 24 words1, List.all_append, w_t1, w_t2]
  rfl
set_option maxRecDepth 65536 in
theorem w_case : (Jvm.Cond.and given_1 narrow_1).before args0 about1 = true := by decide +kernel
theorem w_applies : (headSpec (Jvm.Cond.code x code maxLocals ret :: tables_1) room_1).applies x e0.platform about1 = true :=
  (Spec.applies_iff w_frames).mpr ⟨w_running, w_runnable, w_alone, w_named, w_hears, w_ripe, w_room, w_tables⟩
theorem atStart : AtStart classFile x code maxLocals ret World_1 tables_1 room_1 Calls_1 rest_1 Pre_1 launch0 p0 e0 about1 theMethod args0 below0 :=
  ⟨lists_1, trivial, launch0.admits_env _ _ _, launch0.least_env, fairChoices_fair.cas, fairChoices_fair.clock, w_frames, w_args, w_heap, w_applies, trivial, trivial, w_case⟩
end start1
theorem witness_1 : WitnessClaimed_1 := ⟨start1.p0, start1.e0, start1.about1, start1.theMethod, start1.args0, start1.below0, start1.atStart⟩
end Jvm.Pilot.@@N@@
