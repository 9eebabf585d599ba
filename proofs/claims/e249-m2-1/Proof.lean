import JvmDerived
import JvmDerived.Pilot.@@N@@Statement
import JvmDerived.Pilot.@@N@@Code
set_option linter.unusedVariables false
set_option linter.unusedSimpArgs false
namespace Jvm.RoadKit
open Sem ClassFile Op Lib Jvm.Stand Jvm.Free Jvm.LawKit
section New
variable {p : Program} {l : Launch} {e : Env} {R : Room} {s : State} {m : MethodId} {args : Array Value} {below : List Frame} {meth : Method} {c : Code} {T : State} {locs : List Loc} {cells slots : Nat}
theorem retI (X : Stand p l e R s m args below meth c T locs cells slots) (hx : p.tables.exec = Jvm.exec) {pc : Nat} {Ls : Array Slot} {z : Int32} {rest : List Value} (hret : meth.sig.returnType = some .int) (hd : decode c.code pc = .ok (.ireturn, 1)) {fs : List Frame}
    (hl : ∀ (f : JFrame) (acts : List Action), f.method = m → f.locked = none → f.entered = [] → (doReturn e (T.setTop f) acts (some (.int z))).1 = T.setFrames fs) : Steps p.tables e below (T.setTop (mkF m pc Ls (.int z :: rest))) (T.setFrames fs) := by
  have hm' : T.vm.method? m = some meth := X.method'
  have hn : narrow .int (.int z) = .int z := rfl
  show Steps p.tables e below (T.setTop { method := m, pc := pc, locals := Ls, stack := _ :: rest, locked := none }) _
  jvm_step X.here [X.here.top, hx, hd, hm', hret, hn]
  first | (intro acts; rw [hl _ acts rfl rfl rfl]) | rw [hl _ _ rfl rfl rfl]
  exact Steps.refl _
end New
end Jvm.RoadKit
namespace Jvm.Pilot.@@N@@
open Jvm Jvm.ClassFile Sem Op Lib Jvm.Free Jvm.Stand Jvm.LawKit Jvm.RoadKit Bundle Jvm.Pilot.@@N@@.Jvm.D
theorem own_stI {p : Program} {l : Launch} {e : Env} {R : Room} {s : State} {m : MethodId} {args : Array Value} {below : List Frame} {meth : Method} {c : Code} {T : State} {locs : List Loc} {cells slots : Nat} {Z : State} {h : Heap} {a : Addr} {k : ClassId} {z : Int32} {vs : List Value} {dv : Value}
    (X : Stand p l e R s m args below meth c T locs cells slots) (hx : p.tables.exec = Jvm.exec) (hZ : Z.Warmed39 s.vm) (eT : T.heap = h) (V : Arv Z h a k .int z vs dv) {j : Int32} (i : Nat) (hj : j.toNatClampNeg = i) (hb : ¬ j < 0 ∧ j < z) (hi : i < vs.length) {x : Int32} {g : JFrame} (hg : g.method = m) {rest : List Value} (hs : g.stack = .int x :: .int j :: .ref a :: rest) (hd : decode c.code g.pc = .ok (.iastore, 1)) :
    ∃ T' h', Stand p l e R s m args below meth c T' (locs ++ [⟨a, j.toNatClampNeg⟩]) cells slots ∧ T'.heap = h' ∧ Wr h h' a j.toNatClampNeg (.int x) ∧ Arv Z h' a k .int z (vs.set i (.int x)) dv ∧ ∀ target, Steps p.tables e below (T'.setTop { g with pc := g.pc + 1, stack := rest }) target → Steps p.tables e below (T.setTop g) target := by
  obtain ⟨cl, Ar, q, S, M, H, G⟩ := V
  obtain ⟨T', h', X', e', W, st⟩ := Jvm.RoadKit.stI X hx hZ eT Ar (j := j) (inb_of S hb) hg hs hd
  exact ⟨T', h', X', e', W, Arv.set Ar q S M H G rfl W i hj hi, st⟩
theorem own_ldI {p : Program} {l : Launch} {e : Env} {R : Room} {s : State} {m : MethodId} {args : Array Value} {below : List Frame} {meth : Method} {c : Code} {T : State} {locs : List Loc} {cells slots : Nat} {Z : State} {h : Heap} {a : Addr} {k : ClassId} {z : Int32} {vs : List Value} {dv : Value}
    (X : Stand p l e R s m args below meth c T locs cells slots) (hx : p.tables.exec = Jvm.exec) (hZ : Z.Warmed39 s.vm) (eT : T.heap = h) (V : Arv Z h a k .int z vs dv) {j : Int32} (hb : ¬ j < 0 ∧ j < z) {g : JFrame} (hg : g.method = m) {rest : List Value} (hs : g.stack = .int j :: .ref a :: rest) (hd : decode c.code g.pc = .ok (.iaload, 1)) :
    ∃ w, vs.getD j.toNatClampNeg dv = .int w ∧ ∀ target, Steps p.tables e below (T.setTop { g with pc := g.pc + 1, stack := .int w :: rest }) target → Steps p.tables e below (T.setTop g) target := by
  obtain ⟨cl, Ar, q, S, M, H, G⟩ := V
  have hin := inb_of S hb
  have hlt : j.toNatClampNeg < cl.slots.size := Nat.lt_of_not_le fun q => hin (Or.inr q)
  obtain ⟨w, hw⟩ := fit_I (G _ hlt) (by simp)
  exact ⟨w, hw, X.iaload hx (j := j) (v := .int w) (by rw [eT]; exact Ar.1) (State.isArrayOf_alike hZ.alike Ar.2.1) Ar.2.2 hin (by rw [H _ hlt, hw]) hg hs hd⟩
theorem d1_0 : decode prog_235_method_2_code 0 = .ok (.iload_n 0, 1) := by decide +kernel
theorem d1_1 : decode prog_235_method_2_code 1 = .ok (.bipush 9, 2) := by decide +kernel
theorem d1_3 : decode prog_235_method_2_code 3 = .ok (.if_icmp .eq 51, 3) := by decide +kernel
theorem d1_6 : decode prog_235_method_2_code 6 = .ok (.iload_n 0, 1) := by decide +kernel
theorem d1_7 : decode prog_235_method_2_code 7 = .ok (.bipush 10, 2) := by decide +kernel
theorem d1_9 : decode prog_235_method_2_code 9 = .ok (.if_icmp .eq 45, 3) := by decide +kernel
theorem d1_12 : decode prog_235_method_2_code 12 = .ok (.iload_n 0, 1) := by decide +kernel
theorem d1_13 : decode prog_235_method_2_code 13 = .ok (.bipush 13, 2) := by decide +kernel
theorem d1_15 : decode prog_235_method_2_code 15 = .ok (.if_icmp .eq 39, 3) := by decide +kernel
theorem d1_18 : decode prog_235_method_2_code 18 = .ok (.iload_n 0, 1) := by decide +kernel
theorem d1_19 : decode prog_235_method_2_code 19 = .ok (.bipush 32, 2) := by decide +kernel
theorem d1_21 : decode prog_235_method_2_code 21 = .ok (.if_icmp .lt 9, 3) := by decide +kernel
theorem d1_24 : decode prog_235_method_2_code 24 = .ok (.iload_n 0, 1) := by decide +kernel
theorem d1_25 : decode prog_235_method_2_code 25 = .ok (.ldc 7, 2) := by decide +kernel
theorem d1_27 : decode prog_235_method_2_code 27 = .ok (.if_icmp .le 27, 3) := by decide +kernel
theorem d1_30 : decode prog_235_method_2_code 30 = .ok (.iload_n 0, 1) := by decide +kernel
theorem d1_31 : decode prog_235_method_2_code 31 = .ok (.ldc 8, 2) := by decide +kernel
theorem d1_33 : decode prog_235_method_2_code 33 = .ok (.if_icmp .lt 9, 3) := by decide +kernel
theorem d1_36 : decode prog_235_method_2_code 36 = .ok (.iload_n 0, 1) := by decide +kernel
theorem d1_37 : decode prog_235_method_2_code 37 = .ok (.ldc 9, 2) := by decide +kernel
theorem d1_39 : decode prog_235_method_2_code 39 = .ok (.if_icmp .le 15, 3) := by decide +kernel
theorem d1_42 : decode prog_235_method_2_code 42 = .ok (.iload_n 0, 1) := by decide +kernel
theorem d1_43 : decode prog_235_method_2_code 43 = .ok (.ldc 10, 2) := by decide +kernel
theorem d1_45 : decode prog_235_method_2_code 45 = .ok (.if_icmp .lt 13, 3) := by decide +kernel
theorem d1_48 : decode prog_235_method_2_code 48 = .ok (.iload_n 0, 1) := by decide +kernel
theorem d1_49 : decode prog_235_method_2_code 49 = .ok (.ldc 11, 2) := by decide +kernel
theorem d1_51 : decode prog_235_method_2_code 51 = .ok (.if_icmp .gt 7, 3) := by decide +kernel
theorem d1_54 : decode prog_235_method_2_code 54 = .ok (.iconst 1, 1) := by decide +kernel
theorem d1_55 : decode prog_235_method_2_code 55 = .ok (.goto 4, 3) := by decide +kernel
theorem d1_58 : decode prog_235_method_2_code 58 = .ok (.iconst 0, 1) := by decide +kernel
theorem d1_59 : decode prog_235_method_2_code 59 = .ok (.ireturn, 1) := by decide +kernel
def own_f1_58 (p1 : Int32) : Int32 := (0 : Int32)
set_option maxRecDepth 65536 in
set_option maxHeartbeats 4000000 in
theorem own_b1_58 {p : Program} {l : Launch} {e : Env} {R : Room} {s : State} {m : MethodId} {args : Array Value} {below : List Frame} {meth : Method} {c : Code} {T : State} {locs : List Loc} {cells slots : Nat} {Z : State} {a0 : Array Value} (X : Stand p l e R s m args below meth c T locs cells slots) (hx : p.tables.exec = Jvm.exec) (hby : c.code = prog_235_method_2_code) (hown : s.vm.findClass "com/example/querent/querent/xdm/XmlChars" = some m.cls) (hZ : Z.Warmed39 s.vm) (hw : ∀ d ∈ tables_1, d.before a0 Z = true) (hret : meth.sig.returnType = some .boolean) (p1 : Int32) (v : Int32) (hv : own_f1_58 p1 = v) {fs : List Frame} (hr : ∀ (f : JFrame) (acts : List Action), f.method = m → f.locked = none → f.entered = [] → (doReturn e (T.setTop f) acts (some (.int v))).1 = T.setFrames fs) :
    Steps p.tables e below (T.setTop (mkF m 58 #[.val (.int p1)] [])) (T.setFrames fs) := by
  unfold own_f1_58 at hv
  show Steps p.tables e below (T.setTop (mkF m 58 #[.val (.int p1)] [])) _
  refine XS.iconst X.here hx rfl (hb hby d1_58) ?_
  show Steps p.tables e below (T.setTop (mkF m 59 #[.val (.int p1)] [(.int (0 : Int32))])) _
  subst hv
  exact retN X hx (t := .boolean) hret (by simp) (hb hby d1_59) hr
def own_f1_54 (p1 : Int32) : Int32 := (1 : Int32)
set_option maxRecDepth 65536 in
set_option maxHeartbeats 4000000 in
theorem own_b1_54 {p : Program} {l : Launch} {e : Env} {R : Room} {s : State} {m : MethodId} {args : Array Value} {below : List Frame} {meth : Method} {c : Code} {T : State} {locs : List Loc} {cells slots : Nat} {Z : State} {a0 : Array Value} (X : Stand p l e R s m args below meth c T locs cells slots) (hx : p.tables.exec = Jvm.exec) (hby : c.code = prog_235_method_2_code) (hown : s.vm.findClass "com/example/querent/querent/xdm/XmlChars" = some m.cls) (hZ : Z.Warmed39 s.vm) (hw : ∀ d ∈ tables_1, d.before a0 Z = true) (hret : meth.sig.returnType = some .boolean) (p1 : Int32) (v : Int32) (hv : own_f1_54 p1 = v) {fs : List Frame} (hr : ∀ (f : JFrame) (acts : List Action), f.method = m → f.locked = none → f.entered = [] → (doReturn e (T.setTop f) acts (some (.int v))).1 = T.setFrames fs) :
    Steps p.tables e below (T.setTop (mkF m 54 #[.val (.int p1)] [])) (T.setFrames fs) := by
  unfold own_f1_54 at hv
  show Steps p.tables e below (T.setTop (mkF m 54 #[.val (.int p1)] [])) _
  refine XS.iconst X.here hx rfl (hb hby d1_54) ?_
  show Steps p.tables e below (T.setTop (mkF m 55 #[.val (.int p1)] [(.int (1 : Int32))])) _
  refine XS.goto X.here hx rfl (pc0 := 55) (pc' := 59) rfl (hb hby d1_55) (by decide) (by decide) ?_
  show Steps p.tables e below (T.setTop (mkF m 59 #[.val (.int p1)] [(.int (1 : Int32))])) _
  subst hv
  exact retN X hx (t := .boolean) hret (by simp) (hb hby d1_59) hr
def own_f1_42 (p1 : Int32) : Int32 := (if p1 < (65536 : Int32) then own_f1_58 p1 else (if (1114111 : Int32) < p1 then own_f1_58 p1 else own_f1_54 p1))
set_option maxRecDepth 65536 in
set_option maxHeartbeats 4000000 in
theorem own_b1_42 {p : Program} {l : Launch} {e : Env} {R : Room} {s : State} {m : MethodId} {args : Array Value} {below : List Frame} {meth : Method} {c : Code} {T : State} {locs : List Loc} {cells slots : Nat} {Z : State} {a0 : Array Value} (X : Stand p l e R s m args below meth c T locs cells slots) (hx : p.tables.exec = Jvm.exec) (hby : c.code = prog_235_method_2_code) (hown : s.vm.findClass "com/example/querent/querent/xdm/XmlChars" = some m.cls) (hZ : Z.Warmed39 s.vm) (hw : ∀ d ∈ tables_1, d.before a0 Z = true) (hret : meth.sig.returnType = some .boolean) (p1 : Int32) (v : Int32) (hv : own_f1_42 p1 = v) {fs : List Frame} (hr : ∀ (f : JFrame) (acts : List Action), f.method = m → f.locked = none → f.entered = [] → (doReturn e (T.setTop f) acts (some (.int v))).1 = T.setFrames fs) :
    Steps p.tables e below (T.setTop (mkF m 42 #[.val (.int p1)] [])) (T.setFrames fs) := by
  unfold own_f1_42 at hv
  show Steps p.tables e below (T.setTop (mkF m 42 #[.val (.int p1)] [])) _
  refine XS.iloadN X.here hx rfl (hb hby d1_42) rfl ?_
  show Steps p.tables e below (T.setTop (mkF m 43 #[.val (.int p1)] [(.int p1)])) _
  refine X.ldcInt hx hown (mvT hZ (hw _ (List.mem_of_getElem? (i := 18) rfl))) (g := (mkF m 43 #[.val (.int p1)] [(.int p1)])) rfl (hb hby d1_43) _ ?_
  show Steps p.tables e below (T.setTop (mkF m 45 #[.val (.int p1)] [(.int (65536 : Int32)), (.int p1)])) _
  by_cases hc45 : p1 < (65536 : Int32)
  · rw [if_pos hc45] at hv
    refine XS.icmpYes X.here hx rfl (pc0 := 45) (pc' := 58) rfl (hb hby d1_45) rfl (tlt hc45).1 (by decide) (by decide) ?_
    show Steps p.tables e below (T.setTop (mkF m 58 #[.val (.int p1)] [])) _
    exact own_b1_58 X hx hby hown hZ hw hret p1 v hv hr
  · rw [if_neg hc45] at hv
    refine XS.icmpNo X.here hx rfl (hb hby d1_45) rfl (flt hc45).1 ?_
    show Steps p.tables e below (T.setTop (mkF m 48 #[.val (.int p1)] [])) _
    refine XS.iloadN X.here hx rfl (hb hby d1_48) rfl ?_
    show Steps p.tables e below (T.setTop (mkF m 49 #[.val (.int p1)] [(.int p1)])) _
    refine X.ldcInt hx hown (mvT hZ (hw _ (List.mem_of_getElem? (i := 25) rfl))) (g := (mkF m 49 #[.val (.int p1)] [(.int p1)])) rfl (hb hby d1_49) _ ?_
    show Steps p.tables e below (T.setTop (mkF m 51 #[.val (.int p1)] [(.int (1114111 : Int32)), (.int p1)])) _
    by_cases hc51 : (1114111 : Int32) < p1
    · rw [if_pos hc51] at hv
      refine XS.icmpYes X.here hx rfl (pc0 := 51) (pc' := 58) rfl (hb hby d1_51) rfl (tlt hc51).2.2.1 (by decide) (by decide) ?_
      show Steps p.tables e below (T.setTop (mkF m 58 #[.val (.int p1)] [])) _
      exact own_b1_58 X hx hby hown hZ hw hret p1 v hv hr
    · rw [if_neg hc51] at hv
      refine XS.icmpNo X.here hx rfl (hb hby d1_51) rfl (flt hc51).2.2.1 ?_
      show Steps p.tables e below (T.setTop (mkF m 54 #[.val (.int p1)] [])) _
      exact own_b1_54 X hx hby hown hZ hw hret p1 v hv hr
def own_f1_30 (p1 : Int32) : Int32 := (if p1 < (57344 : Int32) then own_f1_42 p1 else (if (65533 : Int32) < p1 then own_f1_42 p1 else own_f1_54 p1))
set_option maxRecDepth 65536 in
set_option maxHeartbeats 4000000 in
theorem own_b1_30 {p : Program} {l : Launch} {e : Env} {R : Room} {s : State} {m : MethodId} {args : Array Value} {below : List Frame} {meth : Method} {c : Code} {T : State} {locs : List Loc} {cells slots : Nat} {Z : State} {a0 : Array Value} (X : Stand p l e R s m args below meth c T locs cells slots) (hx : p.tables.exec = Jvm.exec) (hby : c.code = prog_235_method_2_code) (hown : s.vm.findClass "com/example/querent/querent/xdm/XmlChars" = some m.cls) (hZ : Z.Warmed39 s.vm) (hw : ∀ d ∈ tables_1, d.before a0 Z = true) (hret : meth.sig.returnType = some .boolean) (p1 : Int32) (v : Int32) (hv : own_f1_30 p1 = v) {fs : List Frame} (hr : ∀ (f : JFrame) (acts : List Action), f.method = m → f.locked = none → f.entered = [] → (doReturn e (T.setTop f) acts (some (.int v))).1 = T.setFrames fs) :
    Steps p.tables e below (T.setTop (mkF m 30 #[.val (.int p1)] [])) (T.setFrames fs) := by
  unfold own_f1_30 at hv
  show Steps p.tables e below (T.setTop (mkF m 30 #[.val (.int p1)] [])) _
  refine XS.iloadN X.here hx rfl (hb hby d1_30) rfl ?_
  show Steps p.tables e below (T.setTop (mkF m 31 #[.val (.int p1)] [(.int p1)])) _
  refine X.ldcInt hx hown (mvT hZ (hw _ (List.mem_of_getElem? (i := 17) rfl))) (g := (mkF m 31 #[.val (.int p1)] [(.int p1)])) rfl (hb hby d1_31) _ ?_
  show Steps p.tables e below (T.setTop (mkF m 33 #[.val (.int p1)] [(.int (57344 : Int32)), (.int p1)])) _
  by_cases hc33 : p1 < (57344 : Int32)
  · rw [if_pos hc33] at hv
    refine XS.icmpYes X.here hx rfl (pc0 := 33) (pc' := 42) rfl (hb hby d1_33) rfl (tlt hc33).1 (by decide) (by decide) ?_
    show Steps p.tables e below (T.setTop (mkF m 42 #[.val (.int p1)] [])) _
    exact own_b1_42 X hx hby hown hZ hw hret p1 v hv hr
  · rw [if_neg hc33] at hv
    refine XS.icmpNo X.here hx rfl (hb hby d1_33) rfl (flt hc33).1 ?_
    show Steps p.tables e below (T.setTop (mkF m 36 #[.val (.int p1)] [])) _
    refine XS.iloadN X.here hx rfl (hb hby d1_36) rfl ?_
    show Steps p.tables e below (T.setTop (mkF m 37 #[.val (.int p1)] [(.int p1)])) _
    refine X.ldcInt hx hown (mvT hZ (hw _ (List.mem_of_getElem? (i := 24) rfl))) (g := (mkF m 37 #[.val (.int p1)] [(.int p1)])) rfl (hb hby d1_37) _ ?_
    show Steps p.tables e below (T.setTop (mkF m 39 #[.val (.int p1)] [(.int (65533 : Int32)), (.int p1)])) _
    by_cases hc39 : (65533 : Int32) < p1
    · rw [if_pos hc39] at hv
      refine XS.icmpNo X.here hx rfl (hb hby d1_39) rfl (tlt hc39).2.2.2 ?_
      show Steps p.tables e below (T.setTop (mkF m 42 #[.val (.int p1)] [])) _
      exact own_b1_42 X hx hby hown hZ hw hret p1 v hv hr
    · rw [if_neg hc39] at hv
      refine XS.icmpYes X.here hx rfl (pc0 := 39) (pc' := 54) rfl (hb hby d1_39) rfl (flt hc39).2.2.2 (by decide) (by decide) ?_
      show Steps p.tables e below (T.setTop (mkF m 54 #[.val (.int p1)] [])) _
      exact own_b1_54 X hx hby hown hZ hw hret p1 v hv hr
def own_f1_0 (p1 : Int32) : Int32 := (if p1 = (9 : Int32) then own_f1_54 p1 else (if p1 = (10 : Int32) then own_f1_54 p1 else (if p1 = (13 : Int32) then own_f1_54 p1 else (if p1 < (32 : Int32) then own_f1_30 p1 else (if (55295 : Int32) < p1 then own_f1_30 p1 else own_f1_54 p1)))))
set_option maxRecDepth 65536 in
set_option maxHeartbeats 4000000 in
theorem own_b1_0 {p : Program} {l : Launch} {e : Env} {R : Room} {s : State} {m : MethodId} {args : Array Value} {below : List Frame} {meth : Method} {c : Code} {T : State} {locs : List Loc} {cells slots : Nat} {Z : State} {a0 : Array Value} (X : Stand p l e R s m args below meth c T locs cells slots) (hx : p.tables.exec = Jvm.exec) (hby : c.code = prog_235_method_2_code) (hown : s.vm.findClass "com/example/querent/querent/xdm/XmlChars" = some m.cls) (hZ : Z.Warmed39 s.vm) (hw : ∀ d ∈ tables_1, d.before a0 Z = true) (hret : meth.sig.returnType = some .boolean) (p1 : Int32) (v : Int32) (hv : own_f1_0 p1 = v) {fs : List Frame} (hr : ∀ (f : JFrame) (acts : List Action), f.method = m → f.locked = none → f.entered = [] → (doReturn e (T.setTop f) acts (some (.int v))).1 = T.setFrames fs) :
    Steps p.tables e below (T.setTop (mkF m 0 #[.val (.int p1)] [])) (T.setFrames fs) := by
  unfold own_f1_0 at hv
  show Steps p.tables e below (T.setTop (mkF m 0 #[.val (.int p1)] [])) _
  refine XS.iloadN X.here hx rfl (hb hby d1_0) rfl ?_
  show Steps p.tables e below (T.setTop (mkF m 1 #[.val (.int p1)] [(.int p1)])) _
  refine XS.bipush X.here hx rfl (hb hby d1_1) ?_
  show Steps p.tables e below (T.setTop (mkF m 3 #[.val (.int p1)] [(.int (9 : Int32)), (.int p1)])) _
  by_cases hc3 : p1 = (9 : Int32)
  · rw [if_pos hc3] at hv
    refine XS.icmpYes X.here hx rfl (pc0 := 3) (pc' := 54) rfl (hb hby d1_3) rfl (teq hc3).1 (by decide) (by decide) ?_
    show Steps p.tables e below (T.setTop (mkF m 54 #[.val (.int p1)] [])) _
    exact own_b1_54 X hx hby hown hZ hw hret p1 v hv hr
  · rw [if_neg hc3] at hv
    refine XS.icmpNo X.here hx rfl (hb hby d1_3) rfl (feq hc3).1 ?_
    show Steps p.tables e below (T.setTop (mkF m 6 #[.val (.int p1)] [])) _
    refine XS.iloadN X.here hx rfl (hb hby d1_6) rfl ?_
    show Steps p.tables e below (T.setTop (mkF m 7 #[.val (.int p1)] [(.int p1)])) _
    refine XS.bipush X.here hx rfl (hb hby d1_7) ?_
    show Steps p.tables e below (T.setTop (mkF m 9 #[.val (.int p1)] [(.int (10 : Int32)), (.int p1)])) _
    by_cases hc9 : p1 = (10 : Int32)
    · rw [if_pos hc9] at hv
      refine XS.icmpYes X.here hx rfl (pc0 := 9) (pc' := 54) rfl (hb hby d1_9) rfl (teq hc9).1 (by decide) (by decide) ?_
      show Steps p.tables e below (T.setTop (mkF m 54 #[.val (.int p1)] [])) _
      exact own_b1_54 X hx hby hown hZ hw hret p1 v hv hr
    · rw [if_neg hc9] at hv
      refine XS.icmpNo X.here hx rfl (hb hby d1_9) rfl (feq hc9).1 ?_
      show Steps p.tables e below (T.setTop (mkF m 12 #[.val (.int p1)] [])) _
      refine XS.iloadN X.here hx rfl (hb hby d1_12) rfl ?_
      show Steps p.tables e below (T.setTop (mkF m 13 #[.val (.int p1)] [(.int p1)])) _
      refine XS.bipush X.here hx rfl (hb hby d1_13) ?_
      show Steps p.tables e below (T.setTop (mkF m 15 #[.val (.int p1)] [(.int (13 : Int32)), (.int p1)])) _
      by_cases hc15 : p1 = (13 : Int32)
      · rw [if_pos hc15] at hv
        refine XS.icmpYes X.here hx rfl (pc0 := 15) (pc' := 54) rfl (hb hby d1_15) rfl (teq hc15).1 (by decide) (by decide) ?_
        show Steps p.tables e below (T.setTop (mkF m 54 #[.val (.int p1)] [])) _
        exact own_b1_54 X hx hby hown hZ hw hret p1 v hv hr
      · rw [if_neg hc15] at hv
        refine XS.icmpNo X.here hx rfl (hb hby d1_15) rfl (feq hc15).1 ?_
        show Steps p.tables e below (T.setTop (mkF m 18 #[.val (.int p1)] [])) _
        refine XS.iloadN X.here hx rfl (hb hby d1_18) rfl ?_
        show Steps p.tables e below (T.setTop (mkF m 19 #[.val (.int p1)] [(.int p1)])) _
        refine XS.bipush X.here hx rfl (hb hby d1_19) ?_
        show Steps p.tables e below (T.setTop (mkF m 21 #[.val (.int p1)] [(.int (32 : Int32)), (.int p1)])) _
        by_cases hc21 : p1 < (32 : Int32)
        · rw [if_pos hc21] at hv
          refine XS.icmpYes X.here hx rfl (pc0 := 21) (pc' := 30) rfl (hb hby d1_21) rfl (tlt hc21).1 (by decide) (by decide) ?_
          show Steps p.tables e below (T.setTop (mkF m 30 #[.val (.int p1)] [])) _
          exact own_b1_30 X hx hby hown hZ hw hret p1 v hv hr
        · rw [if_neg hc21] at hv
          refine XS.icmpNo X.here hx rfl (hb hby d1_21) rfl (flt hc21).1 ?_
          show Steps p.tables e below (T.setTop (mkF m 24 #[.val (.int p1)] [])) _
          refine XS.iloadN X.here hx rfl (hb hby d1_24) rfl ?_
          show Steps p.tables e below (T.setTop (mkF m 25 #[.val (.int p1)] [(.int p1)])) _
          refine X.ldcInt hx hown (mvT hZ (hw _ (List.mem_of_getElem? (i := 23) rfl))) (g := (mkF m 25 #[.val (.int p1)] [(.int p1)])) rfl (hb hby d1_25) _ ?_
          show Steps p.tables e below (T.setTop (mkF m 27 #[.val (.int p1)] [(.int (55295 : Int32)), (.int p1)])) _
          by_cases hc27 : (55295 : Int32) < p1
          · rw [if_pos hc27] at hv
            refine XS.icmpNo X.here hx rfl (hb hby d1_27) rfl (tlt hc27).2.2.2 ?_
            show Steps p.tables e below (T.setTop (mkF m 30 #[.val (.int p1)] [])) _
            exact own_b1_30 X hx hby hown hZ hw hret p1 v hv hr
          · rw [if_neg hc27] at hv
            refine XS.icmpYes X.here hx rfl (pc0 := 27) (pc' := 54) rfl (hb hby d1_27) rfl (flt hc27).2.2.2 (by decide) (by decide) ?_
            show Steps p.tables e below (T.setTop (mkF m 54 #[.val (.int p1)] [])) _
            exact own_b1_54 X hx hby hown hZ hw hret p1 v hv hr
theorem ef_1 (m : MethodId) (x0 : Int32) : entryFrame m #[(.int x0)] 1 = mkF m 0 #[.val (.int x0)] [] := by first | (simp [entryFrame, mkF, argsToLocals, Value.category, maxLocals]; done) | rfl
theorem pn_1 : plainName "com/example/querent/querent/xdm/XmlChars" = true := by first | (simp [plainName, overriddenIn]; done) | decide +kernel
def Q_rm1 (Z : State) (p1 : Int32)  (h0 : Heap) (n0 : Nat) (v : Option Value) (h : Heap) (L : List Loc) : Prop := v = some (.int (own_f1_0 p1)) ∧ Fr n0 L ∧ h = h0
set_option maxRecDepth 65536 in
set_option maxHeartbeats 40000000 in
theorem rm1 (l : Launch) (Z : State) (a0 : Array Value) (hw : ∀ d ∈ tables_1, d.before a0 Z = true) (ws : List Jvm.Cond) (p1 : Int32)  (h0 : Heap) (n0 : Nat) (Z0 : n0 ≤ h0.size)  :
    MetFree l (⟨"com/example/querent/querent/xdm/XmlChars", "isChar", "(I)Z"⟩ : MethodName) (head1 (Jvm.Cond.code (⟨"com/example/querent/querent/xdm/XmlChars", "isChar", "(I)Z"⟩ : MethodName) prog_235_method_2_code 1 (some .boolean) :: ws) ({ frames := 0, cells := 0, slots := 0, locals := 0 } : Room)) (fun a U => a = #[(.int p1)] ∧ Z.Warmed39 U.vm ∧ U.heap = h0) (fun _ _ _ _ _ => True) (fun _ U o U' => ∃ v L, o = .returned v ∧ Q_rm1 Z p1  h0 n0 v U'.heap L ∧ FrameEnd U o U' L ({ frames := 0, cells := 0, slots := 0, locals := 0 } : Room).cells ({ frames := 0, cells := 0, slots := 0, locals := 0 } : Room).slots) := by
  refine MetFree.of_bodySF (plainFor_of_name pn_1) hisR ?_
  intro p e s m args below meth c s₁ Bd hml0 hP hK
  obtain ⟨rfl, hZ, hh⟩ := hP
  have hx := Bd.exec
  have hby := Bd.bytes
  have hml : c.maxLocals = 1 := hml0
  have hown : s.vm.findClass "com/example/querent/querent/xdm/XmlChars" = some m.cls := findClass_of_methodNamed Bd.named
  have hnm := (name_of_methodNamed Bd.named Bd.method).1
  have X0 : Stand p l e ({ frames := 0, cells := 0, slots := 0, locals := 0 } : Room) s m #[(.int p1)] below meth c s₁ [] 0 0 := Stand.of_body Bd
  have e0 : s₁.heap = h0 := by rw [← hh, Bd.state]; rfl
  have N0 := Fr.nil n0
  have pre0 : ∀ t, Steps p.tables e below (s₁.setTop (mkF m 0 #[.val (.int p1)] [])) t → Steps p.tables e below (s₁.setTop (entryFrame m #[(.int p1)] 1)) t := fun t k => castTop (ef_1 m p1) k
  obtain ⟨fs, hr, hrun, hended, hW, hsame⟩ := X0.leave (v := some (.int (own_f1_0 p1))) (fun h => by rw [Bd.returns] at h; cases h) Bd.notSynchronized
  refine ⟨_, _, pre0 _ ?_, hrun, hended, _, _, rfl, ?_, ⟨_, rfl⟩, hW, hsame.mono (by decide) (by decide)⟩
  · exact own_b1_0 X0 hx hby hown hZ hw Bd.returns p1 _ rfl hr
  · exact ⟨rfl, N0, e0⟩
theorem own_f1_58_spec (x : Int32) : own_f1_58 x = if False then (1 : Int32) else (0 : Int32) := by
  have b1 := Int32.le_toInt x
  have b2 := Int32.toInt_lt x
  unfold own_f1_58
  simp only [Int32.lt_iff_toInt_lt, ← Int32.toInt_inj, Int32.reduceToInt, if_true, if_false]
  repeat' split
  all_goals first | (exfalso; omega) | rfl
theorem own_f1_54_spec (x : Int32) : own_f1_54 x = if True then (1 : Int32) else (0 : Int32) := by
  have b1 := Int32.le_toInt x
  have b2 := Int32.toInt_lt x
  unfold own_f1_54
  simp only [Int32.lt_iff_toInt_lt, ← Int32.toInt_inj, Int32.reduceToInt, if_true, if_false]
  repeat' split
  all_goals first | (exfalso; omega) | rfl
theorem own_f1_42_spec (x : Int32) : own_f1_42 x = if (65536 ≤ x.toInt ∧ x.toInt ≤ 1114111) then (1 : Int32) else (0 : Int32) := by
  have b1 := Int32.le_toInt x
  have b2 := Int32.toInt_lt x
  unfold own_f1_42
  simp only [own_f1_58_spec, own_f1_54_spec, Int32.lt_iff_toInt_lt, ← Int32.toInt_inj, Int32.reduceToInt, if_true, if_false]
  repeat' split
  all_goals first | (exfalso; omega) | rfl
theorem own_f1_30_spec (x : Int32) : own_f1_30 x = if (57344 ≤ x.toInt ∧ x.toInt ≤ 65533) ∨ (65536 ≤ x.toInt ∧ x.toInt ≤ 1114111) then (1 : Int32) else (0 : Int32) := by
  have b1 := Int32.le_toInt x
  have b2 := Int32.toInt_lt x
  unfold own_f1_30
  simp only [own_f1_42_spec, own_f1_54_spec, Int32.lt_iff_toInt_lt, ← Int32.toInt_inj, Int32.reduceToInt, if_true, if_false]
  repeat' split
  all_goals first | (exfalso; omega) | rfl
theorem own_f1_0_spec (x : Int32) : own_f1_0 x = if (9 ≤ x.toInt ∧ x.toInt ≤ 10) ∨ x.toInt = 13 ∨ (32 ≤ x.toInt ∧ x.toInt ≤ 55295) ∨ (57344 ≤ x.toInt ∧ x.toInt ≤ 65533) ∨ (65536 ≤ x.toInt ∧ x.toInt ≤ 1114111) then (1 : Int32) else (0 : Int32) := by
  have b1 := Int32.le_toInt x
  have b2 := Int32.toInt_lt x
  unfold own_f1_0
  simp only [own_f1_54_spec, own_f1_30_spec, Int32.lt_iff_toInt_lt, ← Int32.toInt_inj, Int32.reduceToInt, if_true, if_false]
  repeat' split
  all_goals first | (exfalso; omega) | rfl
theorem d2_0 : decode method_2_code 0 = .ok (.iload_n 0, 1) := by decide +kernel
theorem d2_1 : decode method_2_code 1 = .ok (.ifCond .lt 9, 3) := by decide +kernel
theorem d2_4 : decode method_2_code 4 = .ok (.iload_n 0, 1) := by decide +kernel
theorem d2_5 : decode method_2_code 5 = .ok (.ldc 7, 2) := by decide +kernel
theorem d2_7 : decode method_2_code 7 = .ok (.if_icmp .le 5, 3) := by decide +kernel
theorem d2_10 : decode method_2_code 10 = .ok (.iconst 0, 1) := by decide +kernel
theorem d2_11 : decode method_2_code 11 = .ok (.ireturn, 1) := by decide +kernel
theorem d2_12 : decode method_2_code 12 = .ok (.iload_n 0, 1) := by decide +kernel
theorem d2_13 : decode method_2_code 13 = .ok (.bipush 32, 2) := by decide +kernel
theorem d2_15 : decode method_2_code 15 = .ok (.if_icmp .ge 27, 3) := by decide +kernel
theorem d2_18 : decode method_2_code 18 = .ok (.iload_n 0, 1) := by decide +kernel
theorem d2_19 : decode method_2_code 19 = .ok (.bipush 9, 2) := by decide +kernel
theorem d2_21 : decode method_2_code 21 = .ok (.if_icmp .eq 15, 3) := by decide +kernel
theorem d2_24 : decode method_2_code 24 = .ok (.iload_n 0, 1) := by decide +kernel
theorem d2_25 : decode method_2_code 25 = .ok (.bipush 10, 2) := by decide +kernel
theorem d2_27 : decode method_2_code 27 = .ok (.if_icmp .eq 9, 3) := by decide +kernel
theorem d2_30 : decode method_2_code 30 = .ok (.iload_n 0, 1) := by decide +kernel
theorem d2_31 : decode method_2_code 31 = .ok (.bipush 13, 2) := by decide +kernel
theorem d2_33 : decode method_2_code 33 = .ok (.if_icmp .ne 7, 3) := by decide +kernel
theorem d2_36 : decode method_2_code 36 = .ok (.iconst 1, 1) := by decide +kernel
theorem d2_37 : decode method_2_code 37 = .ok (.goto 4, 3) := by decide +kernel
theorem d2_40 : decode method_2_code 40 = .ok (.iconst 0, 1) := by decide +kernel
theorem d2_41 : decode method_2_code 41 = .ok (.ireturn, 1) := by decide +kernel
theorem d2_42 : decode method_2_code 42 = .ok (.iload_n 0, 1) := by decide +kernel
theorem d2_43 : decode method_2_code 43 = .ok (.ldc 8, 2) := by decide +kernel
theorem d2_45 : decode method_2_code 45 = .ok (.if_icmp .lt 11, 3) := by decide +kernel
theorem d2_48 : decode method_2_code 48 = .ok (.iload_n 0, 1) := by decide +kernel
theorem d2_49 : decode method_2_code 49 = .ok (.ldc 9, 2) := by decide +kernel
theorem d2_51 : decode method_2_code 51 = .ok (.if_icmp .gt 5, 3) := by decide +kernel
theorem d2_54 : decode method_2_code 54 = .ok (.iconst 0, 1) := by decide +kernel
theorem d2_55 : decode method_2_code 55 = .ok (.ireturn, 1) := by decide +kernel
theorem d2_56 : decode method_2_code 56 = .ok (.iload_n 0, 1) := by decide +kernel
theorem d2_57 : decode method_2_code 57 = .ok (.ldc 10, 2) := by decide +kernel
theorem d2_59 : decode method_2_code 59 = .ok (.if_icmp .eq 9, 3) := by decide +kernel
theorem d2_62 : decode method_2_code 62 = .ok (.iload_n 0, 1) := by decide +kernel
theorem d2_63 : decode method_2_code 63 = .ok (.ldc 11, 2) := by decide +kernel
theorem d2_65 : decode method_2_code 65 = .ok (.if_icmp .ne 5, 3) := by decide +kernel
theorem d2_68 : decode method_2_code 68 = .ok (.iconst 0, 1) := by decide +kernel
theorem d2_69 : decode method_2_code 69 = .ok (.ireturn, 1) := by decide +kernel
theorem d2_70 : decode method_2_code 70 = .ok (.iconst 1, 1) := by decide +kernel
theorem d2_71 : decode method_2_code 71 = .ok (.ireturn, 1) := by decide +kernel
def own_f2_68 (p1 : Int32) : Int32 := (0 : Int32)
set_option maxRecDepth 65536 in
set_option maxHeartbeats 4000000 in
theorem own_b2_68 {p : Program} {l : Launch} {e : Env} {R : Room} {s : State} {m : MethodId} {args : Array Value} {below : List Frame} {meth : Method} {c : Code} {T : State} {locs : List Loc} {cells slots : Nat} {Z : State} {a0 : Array Value} (X : Stand p l e R s m args below meth c T locs cells slots) (hx : p.tables.exec = Jvm.exec) (hby : c.code = method_2_code) (hown : s.vm.findClass "com/example/querent/querent/xdm/XmlCharsIsCharPinLaw" = some m.cls) (hZ : Z.Warmed39 s.vm) (hw : ∀ d ∈ tables_1, d.before a0 Z = true) (hret : meth.sig.returnType = some .boolean) (p1 : Int32) (v : Int32) (hv : own_f2_68 p1 = v) {fs : List Frame} (hr : ∀ (f : JFrame) (acts : List Action), f.method = m → f.locked = none → f.entered = [] → (doReturn e (T.setTop f) acts (some (.int v))).1 = T.setFrames fs) :
    Steps p.tables e below (T.setTop (mkF m 68 #[.val (.int p1)] [])) (T.setFrames fs) := by
  unfold own_f2_68 at hv
  show Steps p.tables e below (T.setTop (mkF m 68 #[.val (.int p1)] [])) _
  refine XS.iconst X.here hx rfl (hb hby d2_68) ?_
  show Steps p.tables e below (T.setTop (mkF m 69 #[.val (.int p1)] [(.int (0 : Int32))])) _
  subst hv
  exact retN X hx (t := .boolean) hret (by simp) (hb hby d2_69) hr
def own_f2_56 (p1 : Int32) : Int32 := (if p1 = (65534 : Int32) then own_f2_68 p1 else (if p1 = (65535 : Int32) then own_f2_68 p1 else (1 : Int32)))
set_option maxRecDepth 65536 in
set_option maxHeartbeats 4000000 in
theorem own_b2_56 {p : Program} {l : Launch} {e : Env} {R : Room} {s : State} {m : MethodId} {args : Array Value} {below : List Frame} {meth : Method} {c : Code} {T : State} {locs : List Loc} {cells slots : Nat} {Z : State} {a0 : Array Value} (X : Stand p l e R s m args below meth c T locs cells slots) (hx : p.tables.exec = Jvm.exec) (hby : c.code = method_2_code) (hown : s.vm.findClass "com/example/querent/querent/xdm/XmlCharsIsCharPinLaw" = some m.cls) (hZ : Z.Warmed39 s.vm) (hw : ∀ d ∈ tables_1, d.before a0 Z = true) (hret : meth.sig.returnType = some .boolean) (p1 : Int32) (v : Int32) (hv : own_f2_56 p1 = v) {fs : List Frame} (hr : ∀ (f : JFrame) (acts : List Action), f.method = m → f.locked = none → f.entered = [] → (doReturn e (T.setTop f) acts (some (.int v))).1 = T.setFrames fs) :
    Steps p.tables e below (T.setTop (mkF m 56 #[.val (.int p1)] [])) (T.setFrames fs) := by
  unfold own_f2_56 at hv
  show Steps p.tables e below (T.setTop (mkF m 56 #[.val (.int p1)] [])) _
  refine XS.iloadN X.here hx rfl (hb hby d2_56) rfl ?_
  show Steps p.tables e below (T.setTop (mkF m 57 #[.val (.int p1)] [(.int p1)])) _
  refine X.ldcInt hx hown (mvT hZ (hw _ (List.mem_of_getElem? (i := 6) rfl))) (g := (mkF m 57 #[.val (.int p1)] [(.int p1)])) rfl (hb hby d2_57) _ ?_
  show Steps p.tables e below (T.setTop (mkF m 59 #[.val (.int p1)] [(.int (65534 : Int32)), (.int p1)])) _
  by_cases hc59 : p1 = (65534 : Int32)
  · rw [if_pos hc59] at hv
    refine XS.icmpYes X.here hx rfl (pc0 := 59) (pc' := 68) rfl (hb hby d2_59) rfl (teq hc59).1 (by decide) (by decide) ?_
    show Steps p.tables e below (T.setTop (mkF m 68 #[.val (.int p1)] [])) _
    exact own_b2_68 X hx hby hown hZ hw hret p1 v hv hr
  · rw [if_neg hc59] at hv
    refine XS.icmpNo X.here hx rfl (hb hby d2_59) rfl (feq hc59).1 ?_
    show Steps p.tables e below (T.setTop (mkF m 62 #[.val (.int p1)] [])) _
    refine XS.iloadN X.here hx rfl (hb hby d2_62) rfl ?_
    show Steps p.tables e below (T.setTop (mkF m 63 #[.val (.int p1)] [(.int p1)])) _
    refine X.ldcInt hx hown (mvT hZ (hw _ (List.mem_of_getElem? (i := 7) rfl))) (g := (mkF m 63 #[.val (.int p1)] [(.int p1)])) rfl (hb hby d2_63) _ ?_
    show Steps p.tables e below (T.setTop (mkF m 65 #[.val (.int p1)] [(.int (65535 : Int32)), (.int p1)])) _
    by_cases hc65 : p1 = (65535 : Int32)
    · rw [if_pos hc65] at hv
      refine XS.icmpNo X.here hx rfl (hb hby d2_65) rfl (teq hc65).2 ?_
      show Steps p.tables e below (T.setTop (mkF m 68 #[.val (.int p1)] [])) _
      exact own_b2_68 X hx hby hown hZ hw hret p1 v hv hr
    · rw [if_neg hc65] at hv
      refine XS.icmpYes X.here hx rfl (pc0 := 65) (pc' := 70) rfl (hb hby d2_65) rfl (feq hc65).2 (by decide) (by decide) ?_
      show Steps p.tables e below (T.setTop (mkF m 70 #[.val (.int p1)] [])) _
      refine XS.iconst X.here hx rfl (hb hby d2_70) ?_
      show Steps p.tables e below (T.setTop (mkF m 71 #[.val (.int p1)] [(.int (1 : Int32))])) _
      subst hv
      exact retN X hx (t := .boolean) hret (by simp) (hb hby d2_71) hr
def own_f2_36 (p1 : Int32) : Int32 := (1 : Int32)
set_option maxRecDepth 65536 in
set_option maxHeartbeats 4000000 in
theorem own_b2_36 {p : Program} {l : Launch} {e : Env} {R : Room} {s : State} {m : MethodId} {args : Array Value} {below : List Frame} {meth : Method} {c : Code} {T : State} {locs : List Loc} {cells slots : Nat} {Z : State} {a0 : Array Value} (X : Stand p l e R s m args below meth c T locs cells slots) (hx : p.tables.exec = Jvm.exec) (hby : c.code = method_2_code) (hown : s.vm.findClass "com/example/querent/querent/xdm/XmlCharsIsCharPinLaw" = some m.cls) (hZ : Z.Warmed39 s.vm) (hw : ∀ d ∈ tables_1, d.before a0 Z = true) (hret : meth.sig.returnType = some .boolean) (p1 : Int32) (v : Int32) (hv : own_f2_36 p1 = v) {fs : List Frame} (hr : ∀ (f : JFrame) (acts : List Action), f.method = m → f.locked = none → f.entered = [] → (doReturn e (T.setTop f) acts (some (.int v))).1 = T.setFrames fs) :
    Steps p.tables e below (T.setTop (mkF m 36 #[.val (.int p1)] [])) (T.setFrames fs) := by
  unfold own_f2_36 at hv
  show Steps p.tables e below (T.setTop (mkF m 36 #[.val (.int p1)] [])) _
  refine XS.iconst X.here hx rfl (hb hby d2_36) ?_
  show Steps p.tables e below (T.setTop (mkF m 37 #[.val (.int p1)] [(.int (1 : Int32))])) _
  refine XS.goto X.here hx rfl (pc0 := 37) (pc' := 41) rfl (hb hby d2_37) (by decide) (by decide) ?_
  show Steps p.tables e below (T.setTop (mkF m 41 #[.val (.int p1)] [(.int (1 : Int32))])) _
  subst hv
  exact retN X hx (t := .boolean) hret (by simp) (hb hby d2_41) hr
def own_f2_10 (p1 : Int32) : Int32 := (0 : Int32)
set_option maxRecDepth 65536 in
set_option maxHeartbeats 4000000 in
theorem own_b2_10 {p : Program} {l : Launch} {e : Env} {R : Room} {s : State} {m : MethodId} {args : Array Value} {below : List Frame} {meth : Method} {c : Code} {T : State} {locs : List Loc} {cells slots : Nat} {Z : State} {a0 : Array Value} (X : Stand p l e R s m args below meth c T locs cells slots) (hx : p.tables.exec = Jvm.exec) (hby : c.code = method_2_code) (hown : s.vm.findClass "com/example/querent/querent/xdm/XmlCharsIsCharPinLaw" = some m.cls) (hZ : Z.Warmed39 s.vm) (hw : ∀ d ∈ tables_1, d.before a0 Z = true) (hret : meth.sig.returnType = some .boolean) (p1 : Int32) (v : Int32) (hv : own_f2_10 p1 = v) {fs : List Frame} (hr : ∀ (f : JFrame) (acts : List Action), f.method = m → f.locked = none → f.entered = [] → (doReturn e (T.setTop f) acts (some (.int v))).1 = T.setFrames fs) :
    Steps p.tables e below (T.setTop (mkF m 10 #[.val (.int p1)] [])) (T.setFrames fs) := by
  unfold own_f2_10 at hv
  show Steps p.tables e below (T.setTop (mkF m 10 #[.val (.int p1)] [])) _
  refine XS.iconst X.here hx rfl (hb hby d2_10) ?_
  show Steps p.tables e below (T.setTop (mkF m 11 #[.val (.int p1)] [(.int (0 : Int32))])) _
  subst hv
  exact retN X hx (t := .boolean) hret (by simp) (hb hby d2_11) hr
def own_f2_0 (p1 : Int32) : Int32 := (if p1 < (0 : Int32) then own_f2_10 p1 else (if (1114111 : Int32) < p1 then own_f2_10 p1 else (if p1 < (32 : Int32) then (if p1 = (9 : Int32) then own_f2_36 p1 else (if p1 = (10 : Int32) then own_f2_36 p1 else (if p1 = (13 : Int32) then own_f2_36 p1 else (0 : Int32)))) else (if p1 < (55296 : Int32) then own_f2_56 p1 else (if (57343 : Int32) < p1 then own_f2_56 p1 else (0 : Int32))))))
set_option maxRecDepth 65536 in
set_option maxHeartbeats 4000000 in
theorem own_b2_0 {p : Program} {l : Launch} {e : Env} {R : Room} {s : State} {m : MethodId} {args : Array Value} {below : List Frame} {meth : Method} {c : Code} {T : State} {locs : List Loc} {cells slots : Nat} {Z : State} {a0 : Array Value} (X : Stand p l e R s m args below meth c T locs cells slots) (hx : p.tables.exec = Jvm.exec) (hby : c.code = method_2_code) (hown : s.vm.findClass "com/example/querent/querent/xdm/XmlCharsIsCharPinLaw" = some m.cls) (hZ : Z.Warmed39 s.vm) (hw : ∀ d ∈ tables_1, d.before a0 Z = true) (hret : meth.sig.returnType = some .boolean) (p1 : Int32) (v : Int32) (hv : own_f2_0 p1 = v) {fs : List Frame} (hr : ∀ (f : JFrame) (acts : List Action), f.method = m → f.locked = none → f.entered = [] → (doReturn e (T.setTop f) acts (some (.int v))).1 = T.setFrames fs) :
    Steps p.tables e below (T.setTop (mkF m 0 #[.val (.int p1)] [])) (T.setFrames fs) := by
  unfold own_f2_0 at hv
  show Steps p.tables e below (T.setTop (mkF m 0 #[.val (.int p1)] [])) _
  refine XS.iloadN X.here hx rfl (hb hby d2_0) rfl ?_
  show Steps p.tables e below (T.setTop (mkF m 1 #[.val (.int p1)] [(.int p1)])) _
  by_cases hc1 : p1 < (0 : Int32)
  · rw [if_pos hc1] at hv
    refine XS.ifYes X.here hx rfl (pc0 := 1) (pc' := 10) rfl (hb hby d2_1) rfl ((if0 _ _).trans (tlt hc1).1) (by decide) (by decide) ?_
    show Steps p.tables e below (T.setTop (mkF m 10 #[.val (.int p1)] [])) _
    exact own_b2_10 X hx hby hown hZ hw hret p1 v hv hr
  · rw [if_neg hc1] at hv
    refine XS.ifNo X.here hx rfl (hb hby d2_1) rfl ((if0 _ _).trans (flt hc1).1) ?_
    show Steps p.tables e below (T.setTop (mkF m 4 #[.val (.int p1)] [])) _
    refine XS.iloadN X.here hx rfl (hb hby d2_4) rfl ?_
    show Steps p.tables e below (T.setTop (mkF m 5 #[.val (.int p1)] [(.int p1)])) _
    refine X.ldcInt hx hown (mvT hZ (hw _ (List.mem_of_getElem? (i := 9) rfl))) (g := (mkF m 5 #[.val (.int p1)] [(.int p1)])) rfl (hb hby d2_5) _ ?_
    show Steps p.tables e below (T.setTop (mkF m 7 #[.val (.int p1)] [(.int (1114111 : Int32)), (.int p1)])) _
    by_cases hc7 : (1114111 : Int32) < p1
    · rw [if_pos hc7] at hv
      refine XS.icmpNo X.here hx rfl (hb hby d2_7) rfl (tlt hc7).2.2.2 ?_
      show Steps p.tables e below (T.setTop (mkF m 10 #[.val (.int p1)] [])) _
      exact own_b2_10 X hx hby hown hZ hw hret p1 v hv hr
    · rw [if_neg hc7] at hv
      refine XS.icmpYes X.here hx rfl (pc0 := 7) (pc' := 12) rfl (hb hby d2_7) rfl (flt hc7).2.2.2 (by decide) (by decide) ?_
      show Steps p.tables e below (T.setTop (mkF m 12 #[.val (.int p1)] [])) _
      refine XS.iloadN X.here hx rfl (hb hby d2_12) rfl ?_
      show Steps p.tables e below (T.setTop (mkF m 13 #[.val (.int p1)] [(.int p1)])) _
      refine XS.bipush X.here hx rfl (hb hby d2_13) ?_
      show Steps p.tables e below (T.setTop (mkF m 15 #[.val (.int p1)] [(.int (32 : Int32)), (.int p1)])) _
      by_cases hc15 : p1 < (32 : Int32)
      · rw [if_pos hc15] at hv
        refine XS.icmpNo X.here hx rfl (hb hby d2_15) rfl (tlt hc15).2.1 ?_
        show Steps p.tables e below (T.setTop (mkF m 18 #[.val (.int p1)] [])) _
        refine XS.iloadN X.here hx rfl (hb hby d2_18) rfl ?_
        show Steps p.tables e below (T.setTop (mkF m 19 #[.val (.int p1)] [(.int p1)])) _
        refine XS.bipush X.here hx rfl (hb hby d2_19) ?_
        show Steps p.tables e below (T.setTop (mkF m 21 #[.val (.int p1)] [(.int (9 : Int32)), (.int p1)])) _
        by_cases hc21 : p1 = (9 : Int32)
        · rw [if_pos hc21] at hv
          refine XS.icmpYes X.here hx rfl (pc0 := 21) (pc' := 36) rfl (hb hby d2_21) rfl (teq hc21).1 (by decide) (by decide) ?_
          show Steps p.tables e below (T.setTop (mkF m 36 #[.val (.int p1)] [])) _
          exact own_b2_36 X hx hby hown hZ hw hret p1 v hv hr
        · rw [if_neg hc21] at hv
          refine XS.icmpNo X.here hx rfl (hb hby d2_21) rfl (feq hc21).1 ?_
          show Steps p.tables e below (T.setTop (mkF m 24 #[.val (.int p1)] [])) _
          refine XS.iloadN X.here hx rfl (hb hby d2_24) rfl ?_
          show Steps p.tables e below (T.setTop (mkF m 25 #[.val (.int p1)] [(.int p1)])) _
          refine XS.bipush X.here hx rfl (hb hby d2_25) ?_
          show Steps p.tables e below (T.setTop (mkF m 27 #[.val (.int p1)] [(.int (10 : Int32)), (.int p1)])) _
          by_cases hc27 : p1 = (10 : Int32)
          · rw [if_pos hc27] at hv
            refine XS.icmpYes X.here hx rfl (pc0 := 27) (pc' := 36) rfl (hb hby d2_27) rfl (teq hc27).1 (by decide) (by decide) ?_
            show Steps p.tables e below (T.setTop (mkF m 36 #[.val (.int p1)] [])) _
            exact own_b2_36 X hx hby hown hZ hw hret p1 v hv hr
          · rw [if_neg hc27] at hv
            refine XS.icmpNo X.here hx rfl (hb hby d2_27) rfl (feq hc27).1 ?_
            show Steps p.tables e below (T.setTop (mkF m 30 #[.val (.int p1)] [])) _
            refine XS.iloadN X.here hx rfl (hb hby d2_30) rfl ?_
            show Steps p.tables e below (T.setTop (mkF m 31 #[.val (.int p1)] [(.int p1)])) _
            refine XS.bipush X.here hx rfl (hb hby d2_31) ?_
            show Steps p.tables e below (T.setTop (mkF m 33 #[.val (.int p1)] [(.int (13 : Int32)), (.int p1)])) _
            by_cases hc33 : p1 = (13 : Int32)
            · rw [if_pos hc33] at hv
              refine XS.icmpNo X.here hx rfl (hb hby d2_33) rfl (teq hc33).2 ?_
              show Steps p.tables e below (T.setTop (mkF m 36 #[.val (.int p1)] [])) _
              exact own_b2_36 X hx hby hown hZ hw hret p1 v hv hr
            · rw [if_neg hc33] at hv
              refine XS.icmpYes X.here hx rfl (pc0 := 33) (pc' := 40) rfl (hb hby d2_33) rfl (feq hc33).2 (by decide) (by decide) ?_
              show Steps p.tables e below (T.setTop (mkF m 40 #[.val (.int p1)] [])) _
              refine XS.iconst X.here hx rfl (hb hby d2_40) ?_
              show Steps p.tables e below (T.setTop (mkF m 41 #[.val (.int p1)] [(.int (0 : Int32))])) _
              subst hv
              exact retN X hx (t := .boolean) hret (by simp) (hb hby d2_41) hr
      · rw [if_neg hc15] at hv
        refine XS.icmpYes X.here hx rfl (pc0 := 15) (pc' := 42) rfl (hb hby d2_15) rfl (flt hc15).2.1 (by decide) (by decide) ?_
        show Steps p.tables e below (T.setTop (mkF m 42 #[.val (.int p1)] [])) _
        refine XS.iloadN X.here hx rfl (hb hby d2_42) rfl ?_
        show Steps p.tables e below (T.setTop (mkF m 43 #[.val (.int p1)] [(.int p1)])) _
        refine X.ldcInt hx hown (mvT hZ (hw _ (List.mem_of_getElem? (i := 2) rfl))) (g := (mkF m 43 #[.val (.int p1)] [(.int p1)])) rfl (hb hby d2_43) _ ?_
        show Steps p.tables e below (T.setTop (mkF m 45 #[.val (.int p1)] [(.int (55296 : Int32)), (.int p1)])) _
        by_cases hc45 : p1 < (55296 : Int32)
        · rw [if_pos hc45] at hv
          refine XS.icmpYes X.here hx rfl (pc0 := 45) (pc' := 56) rfl (hb hby d2_45) rfl (tlt hc45).1 (by decide) (by decide) ?_
          show Steps p.tables e below (T.setTop (mkF m 56 #[.val (.int p1)] [])) _
          exact own_b2_56 X hx hby hown hZ hw hret p1 v hv hr
        · rw [if_neg hc45] at hv
          refine XS.icmpNo X.here hx rfl (hb hby d2_45) rfl (flt hc45).1 ?_
          show Steps p.tables e below (T.setTop (mkF m 48 #[.val (.int p1)] [])) _
          refine XS.iloadN X.here hx rfl (hb hby d2_48) rfl ?_
          show Steps p.tables e below (T.setTop (mkF m 49 #[.val (.int p1)] [(.int p1)])) _
          refine X.ldcInt hx hown (mvT hZ (hw _ (List.mem_of_getElem? (i := 3) rfl))) (g := (mkF m 49 #[.val (.int p1)] [(.int p1)])) rfl (hb hby d2_49) _ ?_
          show Steps p.tables e below (T.setTop (mkF m 51 #[.val (.int p1)] [(.int (57343 : Int32)), (.int p1)])) _
          by_cases hc51 : (57343 : Int32) < p1
          · rw [if_pos hc51] at hv
            refine XS.icmpYes X.here hx rfl (pc0 := 51) (pc' := 56) rfl (hb hby d2_51) rfl (tlt hc51).2.2.1 (by decide) (by decide) ?_
            show Steps p.tables e below (T.setTop (mkF m 56 #[.val (.int p1)] [])) _
            exact own_b2_56 X hx hby hown hZ hw hret p1 v hv hr
          · rw [if_neg hc51] at hv
            refine XS.icmpNo X.here hx rfl (hb hby d2_51) rfl (flt hc51).2.2.1 ?_
            show Steps p.tables e below (T.setTop (mkF m 54 #[.val (.int p1)] [])) _
            refine XS.iconst X.here hx rfl (hb hby d2_54) ?_
            show Steps p.tables e below (T.setTop (mkF m 55 #[.val (.int p1)] [(.int (0 : Int32))])) _
            subst hv
            exact retN X hx (t := .boolean) hret (by simp) (hb hby d2_55) hr
theorem ef_2 (m : MethodId) (x0 : Int32) : entryFrame m #[(.int x0)] 1 = mkF m 0 #[.val (.int x0)] [] := by first | (simp [entryFrame, mkF, argsToLocals, Value.category, maxLocals]; done) | rfl
theorem pn_2 : plainName "com/example/querent/querent/xdm/XmlCharsIsCharPinLaw" = true := by first | (simp [plainName, overriddenIn]; done) | decide +kernel
def Q_rm2 (Z : State) (p1 : Int32)  (h0 : Heap) (n0 : Nat) (v : Option Value) (h : Heap) (L : List Loc) : Prop := v = some (.int (own_f2_0 p1)) ∧ Fr n0 L ∧ h = h0
set_option maxRecDepth 65536 in
set_option maxHeartbeats 40000000 in
theorem rm2 (l : Launch) (Z : State) (a0 : Array Value) (hw : ∀ d ∈ tables_1, d.before a0 Z = true) (ws : List Jvm.Cond) (p1 : Int32)  (h0 : Heap) (n0 : Nat) (Z0 : n0 ≤ h0.size)  :
    MetFree l (⟨"com/example/querent/querent/xdm/XmlCharsIsCharPinLaw", "reference", "(I)Z"⟩ : MethodName) (head1 (Jvm.Cond.code (⟨"com/example/querent/querent/xdm/XmlCharsIsCharPinLaw", "reference", "(I)Z"⟩ : MethodName) method_2_code 1 (some .boolean) :: ws) ({ frames := 0, cells := 0, slots := 0, locals := 0 } : Room)) (fun a U => a = #[(.int p1)] ∧ Z.Warmed39 U.vm ∧ U.heap = h0) (fun _ _ _ _ _ => True) (fun _ U o U' => ∃ v L, o = .returned v ∧ Q_rm2 Z p1  h0 n0 v U'.heap L ∧ FrameEnd U o U' L ({ frames := 0, cells := 0, slots := 0, locals := 0 } : Room).cells ({ frames := 0, cells := 0, slots := 0, locals := 0 } : Room).slots) := by
  refine MetFree.of_bodySF (plainFor_of_name pn_2) hisR ?_
  intro p e s m args below meth c s₁ Bd hml0 hP hK
  obtain ⟨rfl, hZ, hh⟩ := hP
  have hx := Bd.exec
  have hby := Bd.bytes
  have hml : c.maxLocals = 1 := hml0
  have hown : s.vm.findClass "com/example/querent/querent/xdm/XmlCharsIsCharPinLaw" = some m.cls := findClass_of_methodNamed Bd.named
  have hnm := (name_of_methodNamed Bd.named Bd.method).1
  have X0 : Stand p l e ({ frames := 0, cells := 0, slots := 0, locals := 0 } : Room) s m #[(.int p1)] below meth c s₁ [] 0 0 := Stand.of_body Bd
  have e0 : s₁.heap = h0 := by rw [← hh, Bd.state]; rfl
  have N0 := Fr.nil n0
  have pre0 : ∀ t, Steps p.tables e below (s₁.setTop (mkF m 0 #[.val (.int p1)] [])) t → Steps p.tables e below (s₁.setTop (entryFrame m #[(.int p1)] 1)) t := fun t k => castTop (ef_2 m p1) k
  obtain ⟨fs, hr, hrun, hended, hW, hsame⟩ := X0.leave (v := some (.int (own_f2_0 p1))) (fun h => by rw [Bd.returns] at h; cases h) Bd.notSynchronized
  refine ⟨_, _, pre0 _ ?_, hrun, hended, _, _, rfl, ?_, ⟨_, rfl⟩, hW, hsame.mono (by decide) (by decide)⟩
  · exact own_b2_0 X0 hx hby hown hZ hw Bd.returns p1 _ rfl hr
  · exact ⟨rfl, N0, e0⟩
theorem own_f2_68_spec (x : Int32) : own_f2_68 x = if False then (1 : Int32) else (0 : Int32) := by
  have b1 := Int32.le_toInt x
  have b2 := Int32.toInt_lt x
  unfold own_f2_68
  simp only [Int32.lt_iff_toInt_lt, ← Int32.toInt_inj, Int32.reduceToInt, if_true, if_false]
  repeat' split
  all_goals first | (exfalso; omega) | rfl
theorem own_f2_56_spec (x : Int32) : own_f2_56 x = if x.toInt ≤ 65533 ∨ 65536 ≤ x.toInt then (1 : Int32) else (0 : Int32) := by
  have b1 := Int32.le_toInt x
  have b2 := Int32.toInt_lt x
  unfold own_f2_56
  simp only [own_f2_68_spec, Int32.lt_iff_toInt_lt, ← Int32.toInt_inj, Int32.reduceToInt, if_true, if_false]
  repeat' split
  all_goals first | (exfalso; omega) | rfl
theorem own_f2_36_spec (x : Int32) : own_f2_36 x = if True then (1 : Int32) else (0 : Int32) := by
  have b1 := Int32.le_toInt x
  have b2 := Int32.toInt_lt x
  unfold own_f2_36
  simp only [Int32.lt_iff_toInt_lt, ← Int32.toInt_inj, Int32.reduceToInt, if_true, if_false]
  repeat' split
  all_goals first | (exfalso; omega) | rfl
theorem own_f2_10_spec (x : Int32) : own_f2_10 x = if False then (1 : Int32) else (0 : Int32) := by
  have b1 := Int32.le_toInt x
  have b2 := Int32.toInt_lt x
  unfold own_f2_10
  simp only [Int32.lt_iff_toInt_lt, ← Int32.toInt_inj, Int32.reduceToInt, if_true, if_false]
  repeat' split
  all_goals first | (exfalso; omega) | rfl
theorem own_f2_0_spec (x : Int32) : own_f2_0 x = if (9 ≤ x.toInt ∧ x.toInt ≤ 10) ∨ x.toInt = 13 ∨ (32 ≤ x.toInt ∧ x.toInt ≤ 55295) ∨ (57344 ≤ x.toInt ∧ x.toInt ≤ 65533) ∨ (65536 ≤ x.toInt ∧ x.toInt ≤ 1114111) then (1 : Int32) else (0 : Int32) := by
  have b1 := Int32.le_toInt x
  have b2 := Int32.toInt_lt x
  unfold own_f2_0
  simp only [own_f2_10_spec, own_f2_36_spec, own_f2_56_spec, Int32.lt_iff_toInt_lt, ← Int32.toInt_inj, Int32.reduceToInt, if_true, if_false]
  repeat' split
  all_goals first | (exfalso; omega) | rfl
theorem own_same (x : Int32) : own_f1_0 x = own_f2_0 x := by rw [own_f1_0_spec, own_f2_0_spec]
theorem own_idx (x : Int32) : ¬ ((x &&& (2147483647 : Int32)) % (17 : Int32)) < 0 ∧ ((x &&& (2147483647 : Int32)) % (17 : Int32)) < (17 : Int32) := by
  have q := c_and x (2147483647 : Int32) (by decide)
  have r := (c_irem (x &&& (2147483647 : Int32)) (17 : Int32) 17 (by decide)).1 q.1
  rw [Int32.lt_iff_toInt_lt, Int32.lt_iff_toInt_lt, r]
  show ¬ _ < (0 : Int) ∧ _ < (17 : Int)
  omega
set_option maxRecDepth 65536 in
set_option maxHeartbeats 40000000 in
theorem own_tail {p : Program} {l : Launch} {e : Env} {s : State} {m : MethodId} {args : Array Value} {below : List Frame} {meth : Method} {c : Code} {T : State} {locs : List Loc} {cells slots : Nat} {Z : State} {a0 : Array Value} {h0 : Heap} {n0 : Nat} {S0 : State} (X : Stand p l e room_1 s m args below meth c T locs cells slots) (hx : p.tables.exec = Jvm.exec) (hby : c.code = code) (hml : c.maxLocals = 10) (hown : s.vm.findClass "com/example/querent/querent/xdm/XmlCharsIsCharPinLaw" = some m.cls) (hZ : Z.Warmed39 s.vm) (hw : ∀ d ∈ tables_1, d.before a0 Z = true) (hret : meth.sig.returnType = ret) (hlk : meth.locks = false) (p1 : Int32) (p2 : Int32) (p3 : Int32) (p4 : Int32) (ar : Addr) (bb : Int32) (sm : Int32) (e0 : T.heap = h0) (Z0 : n0 ≤ h0.size) (N0 : Fr n0 locs) (hcb : cells ≤ 16) (hsb : slots ≤ 128) (K0 : ∀ t, Steps p.tables e below (T.setTop (mkF m 128 #[.val (.int p1), .val (.int p2), .val (.int p3), .val (.int p4), .val (.ref ar), .val (.int bb), .val (.int sm), .unset, .unset, .unset] [])) t → Steps p.tables e below S0 t) :
    ∃ s₂ o, Steps p.tables e below S0 s₂ ∧ s₂.status = .running ∧ Ended s₂ below o ∧ (∃ v L, o = .returned v ∧ (v = some (.int (1 : Int32)) ∧ Fr n0 L) ∧ FrameEnd s o s₂ L 16 128) := by
  have K1 : ∀ t, Steps p.tables e below (T.setTop (mkF m 129 #[.val (.int p1), .val (.int p2), .val (.int p3), .val (.int p4), .val (.ref ar), .val (.int bb), .val (.int sm), .unset, .unset, .unset] [(.int p1)])) t → Steps p.tables e below S0 t := by
    intro t hk
    refine K0 t ?_
    show Steps p.tables e below (T.setTop (mkF m 128 #[.val (.int p1), .val (.int p2), .val (.int p3), .val (.int p4), .val (.ref ar), .val (.int bb), .val (.int sm), .unset, .unset, .unset] [])) _
    refine XS.iloadN X.here hx rfl (hb hby at_128) rfl ?_
    show Steps p.tables e below (T.setTop (mkF m 129 #[.val (.int p1), .val (.int p2), .val (.int p3), .val (.int p4), .val (.ref ar), .val (.int bb), .val (.int sm), .unset, .unset, .unset] [(.int p1)])) _
    exact hk
  obtain ⟨_, _, ⟨T2, L2, k2, n2⟩, -, X2, ⟨Lc2, hQ2, l2, y2, z2⟩, st2⟩ := Jvm.LawKit.callS X hx (y := (⟨"com/example/querent/querent/xdm/XmlChars", "isChar", "(I)Z"⟩ : MethodName)) hown (mvT hZ (hw _ (List.mem_of_getElem? (i := 13) rfl))) (mvT hZ (hw _ (List.mem_of_getElem? (i := 14) rfl))) (mvT hZ (hw _ (List.mem_of_getElem? (i := 15) rfl))) (mvT hZ (hw _ (List.mem_of_getElem? (i := 16) rfl))) (by decide) (backOf (W := 0) (rm1 l Z a0 hw [] p1  h0 n0 Z0 ) hZ (hw _ (List.mem_of_getElem? (i := 16) rfl)) (hw _ (List.mem_of_getElem? (i := 15) rfl)) (by decide) (by decide)) (g := (mkF m 129 #[.val (.int p1), .val (.int p2), .val (.int p3), .val (.int p4), .val (.ref ar), .val (.int bb), .val (.int sm), .unset, .unset, .unset] [(.int p1)])) rfl (by rw [hml]; rfl) (argsL := [(.int p1)]) (rest := []) (lenOf (by decide +kernel : parseMethodDescriptor "(I)Z" = some ⟨[.int], (some .boolean)⟩) rfl) rfl (by show 2 * 0 + _ ≤ _; exact Nat.le_of_eq rfl) (hb hby at_129) (fun _ _ => ⟨rfl, e0, (by show cells + 0 ≤ 16; omega), (by show slots + 0 ≤ 128; omega)⟩)
  dsimp only [Pt.U, Pt.locs, Pt.cells, Pt.slots] at X2 l2 y2 z2 st2 hQ2
  replace y2 := y2.symm; replace z2 := z2.symm; subst l2 y2 z2
  obtain ⟨rfl, Nq2, e2⟩ := hQ2
  have N2 := Fr.app N0 Nq2
  have K2 : ∀ t, Steps p.tables e below (T2.setTop (mkF m 132 #[.val (.int p1), .val (.int p2), .val (.int p3), .val (.int p4), .val (.ref ar), .val (.int bb), .val (.int sm), .unset, .unset, .unset] [(.int (own_f1_0 p1))])) t → Steps p.tables e below S0 t := fun t hk => K1 t (st2 _ hk)
  have K3 : ∀ t, Steps p.tables e below (T2.setTop (mkF m 133 #[.val (.int p1), .val (.int p2), .val (.int p3), .val (.int p4), .val (.ref ar), .val (.int bb), .val (.int sm), .unset, .unset, .unset] [(.int p1), (.int (own_f1_0 p1))])) t → Steps p.tables e below S0 t := by
    intro t hk
    refine K2 t ?_
    show Steps p.tables e below (T2.setTop (mkF m 132 #[.val (.int p1), .val (.int p2), .val (.int p3), .val (.int p4), .val (.ref ar), .val (.int bb), .val (.int sm), .unset, .unset, .unset] [(.int (own_f1_0 p1))])) _
    refine XS.iloadN X2.here hx rfl (hb hby at_132) rfl ?_
    show Steps p.tables e below (T2.setTop (mkF m 133 #[.val (.int p1), .val (.int p2), .val (.int p3), .val (.int p4), .val (.ref ar), .val (.int bb), .val (.int sm), .unset, .unset, .unset] [(.int p1), (.int (own_f1_0 p1))])) _
    exact hk
  obtain ⟨_, _, ⟨T4, L4, k4, n4⟩, -, X4, ⟨Lc4, hQ4, l4, y4, z4⟩, st4⟩ := Jvm.LawKit.callS X2 hx (y := (⟨"com/example/querent/querent/xdm/XmlCharsIsCharPinLaw", "reference", "(I)Z"⟩ : MethodName)) hown (mvT hZ (hw _ (List.mem_of_getElem? (i := 19) rfl))) (mvT hZ (hw _ (List.mem_of_getElem? (i := 20) rfl))) (mvT hZ (hw _ (List.mem_of_getElem? (i := 21) rfl))) (mvT hZ (hw _ (List.mem_of_getElem? (i := 22) rfl))) (by decide) (backOf (W := 1) (rm2 l Z a0 hw [] p1  h0 n0 Z0 ) hZ (hw _ (List.mem_of_getElem? (i := 22) rfl)) (hw _ (List.mem_of_getElem? (i := 21) rfl)) (by decide) (by decide)) (g := (mkF m 133 #[.val (.int p1), .val (.int p2), .val (.int p3), .val (.int p4), .val (.ref ar), .val (.int bb), .val (.int sm), .unset, .unset, .unset] [(.int p1), (.int (own_f1_0 p1))])) rfl (by rw [hml]; rfl) (argsL := [(.int p1)]) (rest := [(.int (own_f1_0 p1))]) (lenOf (by decide +kernel : parseMethodDescriptor "(I)Z" = some ⟨[.int], (some .boolean)⟩) rfl) rfl (by show 2 * 0 + _ ≤ _; exact Nat.le_of_eq rfl) (hb hby at_133) (fun _ _ => ⟨rfl, e2, (by show cells + 0 + 0 ≤ 16; omega), (by show slots + 0 + 0 ≤ 128; omega)⟩)
  dsimp only [Pt.U, Pt.locs, Pt.cells, Pt.slots] at X4 l4 y4 z4 st4 hQ4
  replace y4 := y4.symm; replace z4 := z4.symm; subst l4 y4 z4
  obtain ⟨rfl, Nq4, e4⟩ := hQ4
  have N4 := Fr.app N2 Nq4
  have K4 : ∀ t, Steps p.tables e below (T4.setTop (mkF m 136 #[.val (.int p1), .val (.int p2), .val (.int p3), .val (.int p4), .val (.ref ar), .val (.int bb), .val (.int sm), .unset, .unset, .unset] [(.int (own_f2_0 p1)), (.int (own_f1_0 p1))])) t → Steps p.tables e below S0 t := fun t hk => K3 t (st4 _ hk)
  have hc136 : (own_f1_0 p1) = (own_f2_0 p1) := own_same p1
  have K5 : ∀ t, Steps p.tables e below (T4.setTop (mkF m 139 #[.val (.int p1), .val (.int p2), .val (.int p3), .val (.int p4), .val (.ref ar), .val (.int bb), .val (.int sm), .unset, .unset, .unset] [])) t → Steps p.tables e below S0 t := by
    intro t hk
    refine K4 t ?_
    show Steps p.tables e below (T4.setTop (mkF m 136 #[.val (.int p1), .val (.int p2), .val (.int p3), .val (.int p4), .val (.ref ar), .val (.int bb), .val (.int sm), .unset, .unset, .unset] [(.int (own_f2_0 p1)), (.int (own_f1_0 p1))])) _
    refine XS.icmpNo X4.here hx rfl (hb hby at_136) rfl (teq hc136).2 ?_
    exact hk
  have K6 : ∀ t, Steps p.tables e below (T4.setTop (mkF m 146 #[.val (.int p1), .val (.int p2), .val (.int p3), .val (.int p4), .val (.ref ar), .val (.int bb), .val (.int sm), .val (.int (1 : Int32)), .unset, .unset] [])) t → Steps p.tables e below S0 t := by
    intro t hk
    refine K5 t ?_
    show Steps p.tables e below (T4.setTop (mkF m 139 #[.val (.int p1), .val (.int p2), .val (.int p3), .val (.int p4), .val (.ref ar), .val (.int bb), .val (.int sm), .unset, .unset, .unset] [])) _
    refine XS.iconst X4.here hx rfl (hb hby at_139) ?_
    show Steps p.tables e below (T4.setTop (mkF m 140 #[.val (.int p1), .val (.int p2), .val (.int p3), .val (.int p4), .val (.ref ar), .val (.int bb), .val (.int sm), .unset, .unset, .unset] [(.int (1 : Int32))])) _
    refine XS.goto X4.here hx rfl (pc0 := 140) (pc' := 144) rfl (hb hby at_140) (by decide) (by decide) ?_
    show Steps p.tables e below (T4.setTop (mkF m 144 #[.val (.int p1), .val (.int p2), .val (.int p3), .val (.int p4), .val (.ref ar), .val (.int bb), .val (.int sm), .unset, .unset, .unset] [(.int (1 : Int32))])) _
    refine XS.istore X4.here hx rfl (hb hby at_144) rfl (l' := #[.val (.int p1), .val (.int p2), .val (.int p3), .val (.int p4), .val (.ref ar), .val (.int bb), .val (.int sm), .val (.int (1 : Int32)), .unset, .unset]) rfl ?_
    show Steps p.tables e below (T4.setTop (mkF m 146 #[.val (.int p1), .val (.int p2), .val (.int p3), .val (.int p4), .val (.ref ar), .val (.int bb), .val (.int sm), .val (.int (1 : Int32)), .unset, .unset] [])) _
    exact hk
  have K7 : ∀ t, Steps p.tables e below (T4.setTop (mkF m 148 #[.val (.int p1), .val (.int p2), .val (.int p3), .val (.int p4), .val (.ref ar), .val (.int bb), .val (.int sm), .val (.int (1 : Int32)), .unset, .unset] [(.int bb)])) t → Steps p.tables e below S0 t := by
    intro t hk
    refine K6 t ?_
    show Steps p.tables e below (T4.setTop (mkF m 146 #[.val (.int p1), .val (.int p2), .val (.int p3), .val (.int p4), .val (.ref ar), .val (.int bb), .val (.int sm), .val (.int (1 : Int32)), .unset, .unset] [])) _
    refine XS.iload X4.here hx rfl (hb hby at_146) rfl ?_
    show Steps p.tables e below (T4.setTop (mkF m 148 #[.val (.int p1), .val (.int p2), .val (.int p3), .val (.int p4), .val (.ref ar), .val (.int bb), .val (.int sm), .val (.int (1 : Int32)), .unset, .unset] [(.int bb)])) _
    exact hk
  obtain ⟨_, _, ⟨T8, L8, k8, n8⟩, -, X8, ⟨Lc8, hQ8, l8, y8, z8⟩, st8⟩ := Jvm.LawKit.callS X4 hx (y := (⟨"com/example/querent/querent/xdm/XmlChars", "isChar", "(I)Z"⟩ : MethodName)) hown (mvT hZ (hw _ (List.mem_of_getElem? (i := 13) rfl))) (mvT hZ (hw _ (List.mem_of_getElem? (i := 14) rfl))) (mvT hZ (hw _ (List.mem_of_getElem? (i := 15) rfl))) (mvT hZ (hw _ (List.mem_of_getElem? (i := 16) rfl))) (by decide) (backOf (W := 0) (rm1 l Z a0 hw [] bb  h0 n0 Z0 ) hZ (hw _ (List.mem_of_getElem? (i := 16) rfl)) (hw _ (List.mem_of_getElem? (i := 15) rfl)) (by decide) (by decide)) (g := (mkF m 148 #[.val (.int p1), .val (.int p2), .val (.int p3), .val (.int p4), .val (.ref ar), .val (.int bb), .val (.int sm), .val (.int (1 : Int32)), .unset, .unset] [(.int bb)])) rfl (by rw [hml]; rfl) (argsL := [(.int bb)]) (rest := []) (lenOf (by decide +kernel : parseMethodDescriptor "(I)Z" = some ⟨[.int], (some .boolean)⟩) rfl) rfl (by show 2 * 0 + _ ≤ _; exact Nat.le_of_eq rfl) (hb hby at_148) (fun _ _ => ⟨rfl, e4, (by show cells + 0 + 0 + 0 ≤ 16; omega), (by show slots + 0 + 0 + 0 ≤ 128; omega)⟩)
  dsimp only [Pt.U, Pt.locs, Pt.cells, Pt.slots] at X8 l8 y8 z8 st8 hQ8
  replace y8 := y8.symm; replace z8 := z8.symm; subst l8 y8 z8
  obtain ⟨rfl, Nq8, e8⟩ := hQ8
  have N8 := Fr.app N4 Nq8
  have K8 : ∀ t, Steps p.tables e below (T8.setTop (mkF m 151 #[.val (.int p1), .val (.int p2), .val (.int p3), .val (.int p4), .val (.ref ar), .val (.int bb), .val (.int sm), .val (.int (1 : Int32)), .unset, .unset] [(.int (own_f1_0 bb))])) t → Steps p.tables e below S0 t := fun t hk => K7 t (st8 _ hk)
  have K9 : ∀ t, Steps p.tables e below (T8.setTop (mkF m 153 #[.val (.int p1), .val (.int p2), .val (.int p3), .val (.int p4), .val (.ref ar), .val (.int bb), .val (.int sm), .val (.int (1 : Int32)), .unset, .unset] [(.int bb), (.int (own_f1_0 bb))])) t → Steps p.tables e below S0 t := by
    intro t hk
    refine K8 t ?_
    show Steps p.tables e below (T8.setTop (mkF m 151 #[.val (.int p1), .val (.int p2), .val (.int p3), .val (.int p4), .val (.ref ar), .val (.int bb), .val (.int sm), .val (.int (1 : Int32)), .unset, .unset] [(.int (own_f1_0 bb))])) _
    refine XS.iload X8.here hx rfl (hb hby at_151) rfl ?_
    show Steps p.tables e below (T8.setTop (mkF m 153 #[.val (.int p1), .val (.int p2), .val (.int p3), .val (.int p4), .val (.ref ar), .val (.int bb), .val (.int sm), .val (.int (1 : Int32)), .unset, .unset] [(.int bb), (.int (own_f1_0 bb))])) _
    exact hk
  obtain ⟨_, _, ⟨T10, L10, k10, n10⟩, -, X10, ⟨Lc10, hQ10, l10, y10, z10⟩, st10⟩ := Jvm.LawKit.callS X8 hx (y := (⟨"com/example/querent/querent/xdm/XmlCharsIsCharPinLaw", "reference", "(I)Z"⟩ : MethodName)) hown (mvT hZ (hw _ (List.mem_of_getElem? (i := 19) rfl))) (mvT hZ (hw _ (List.mem_of_getElem? (i := 20) rfl))) (mvT hZ (hw _ (List.mem_of_getElem? (i := 21) rfl))) (mvT hZ (hw _ (List.mem_of_getElem? (i := 22) rfl))) (by decide) (backOf (W := 1) (rm2 l Z a0 hw [] bb  h0 n0 Z0 ) hZ (hw _ (List.mem_of_getElem? (i := 22) rfl)) (hw _ (List.mem_of_getElem? (i := 21) rfl)) (by decide) (by decide)) (g := (mkF m 153 #[.val (.int p1), .val (.int p2), .val (.int p3), .val (.int p4), .val (.ref ar), .val (.int bb), .val (.int sm), .val (.int (1 : Int32)), .unset, .unset] [(.int bb), (.int (own_f1_0 bb))])) rfl (by rw [hml]; rfl) (argsL := [(.int bb)]) (rest := [(.int (own_f1_0 bb))]) (lenOf (by decide +kernel : parseMethodDescriptor "(I)Z" = some ⟨[.int], (some .boolean)⟩) rfl) rfl (by show 2 * 0 + _ ≤ _; exact Nat.le_of_eq rfl) (hb hby at_153) (fun _ _ => ⟨rfl, e8, (by show cells + 0 + 0 + 0 + 0 ≤ 16; omega), (by show slots + 0 + 0 + 0 + 0 ≤ 128; omega)⟩)
  dsimp only [Pt.U, Pt.locs, Pt.cells, Pt.slots] at X10 l10 y10 z10 st10 hQ10
  replace y10 := y10.symm; replace z10 := z10.symm; subst l10 y10 z10
  obtain ⟨rfl, Nq10, e10⟩ := hQ10
  have N10 := Fr.app N8 Nq10
  have K10 : ∀ t, Steps p.tables e below (T10.setTop (mkF m 156 #[.val (.int p1), .val (.int p2), .val (.int p3), .val (.int p4), .val (.ref ar), .val (.int bb), .val (.int sm), .val (.int (1 : Int32)), .unset, .unset] [(.int (own_f2_0 bb)), (.int (own_f1_0 bb))])) t → Steps p.tables e below S0 t := fun t hk => K9 t (st10 _ hk)
  have hc156 : (own_f1_0 bb) = (own_f2_0 bb) := own_same bb
  have K11 : ∀ t, Steps p.tables e below (T10.setTop (mkF m 159 #[.val (.int p1), .val (.int p2), .val (.int p3), .val (.int p4), .val (.ref ar), .val (.int bb), .val (.int sm), .val (.int (1 : Int32)), .unset, .unset] [])) t → Steps p.tables e below S0 t := by
    intro t hk
    refine K10 t ?_
    show Steps p.tables e below (T10.setTop (mkF m 156 #[.val (.int p1), .val (.int p2), .val (.int p3), .val (.int p4), .val (.ref ar), .val (.int bb), .val (.int sm), .val (.int (1 : Int32)), .unset, .unset] [(.int (own_f2_0 bb)), (.int (own_f1_0 bb))])) _
    refine XS.icmpNo X10.here hx rfl (hb hby at_156) rfl (teq hc156).2 ?_
    exact hk
  have K12 : ∀ t, Steps p.tables e below (T10.setTop (mkF m 166 #[.val (.int p1), .val (.int p2), .val (.int p3), .val (.int p4), .val (.ref ar), .val (.int bb), .val (.int sm), .val (.int (1 : Int32)), .val (.int (1 : Int32)), .unset] [])) t → Steps p.tables e below S0 t := by
    intro t hk
    refine K11 t ?_
    show Steps p.tables e below (T10.setTop (mkF m 159 #[.val (.int p1), .val (.int p2), .val (.int p3), .val (.int p4), .val (.ref ar), .val (.int bb), .val (.int sm), .val (.int (1 : Int32)), .unset, .unset] [])) _
    refine XS.iconst X10.here hx rfl (hb hby at_159) ?_
    show Steps p.tables e below (T10.setTop (mkF m 160 #[.val (.int p1), .val (.int p2), .val (.int p3), .val (.int p4), .val (.ref ar), .val (.int bb), .val (.int sm), .val (.int (1 : Int32)), .unset, .unset] [(.int (1 : Int32))])) _
    refine XS.goto X10.here hx rfl (pc0 := 160) (pc' := 164) rfl (hb hby at_160) (by decide) (by decide) ?_
    show Steps p.tables e below (T10.setTop (mkF m 164 #[.val (.int p1), .val (.int p2), .val (.int p3), .val (.int p4), .val (.ref ar), .val (.int bb), .val (.int sm), .val (.int (1 : Int32)), .unset, .unset] [(.int (1 : Int32))])) _
    refine XS.istore X10.here hx rfl (hb hby at_164) rfl (l' := #[.val (.int p1), .val (.int p2), .val (.int p3), .val (.int p4), .val (.ref ar), .val (.int bb), .val (.int sm), .val (.int (1 : Int32)), .val (.int (1 : Int32)), .unset]) rfl ?_
    show Steps p.tables e below (T10.setTop (mkF m 166 #[.val (.int p1), .val (.int p2), .val (.int p3), .val (.int p4), .val (.ref ar), .val (.int bb), .val (.int sm), .val (.int (1 : Int32)), .val (.int (1 : Int32)), .unset] [])) _
    exact hk
  have K13 : ∀ t, Steps p.tables e below (T10.setTop (mkF m 168 #[.val (.int p1), .val (.int p2), .val (.int p3), .val (.int p4), .val (.ref ar), .val (.int bb), .val (.int sm), .val (.int (1 : Int32)), .val (.int (1 : Int32)), .unset] [(.int sm)])) t → Steps p.tables e below S0 t := by
    intro t hk
    refine K12 t ?_
    show Steps p.tables e below (T10.setTop (mkF m 166 #[.val (.int p1), .val (.int p2), .val (.int p3), .val (.int p4), .val (.ref ar), .val (.int bb), .val (.int sm), .val (.int (1 : Int32)), .val (.int (1 : Int32)), .unset] [])) _
    refine XS.iload X10.here hx rfl (hb hby at_166) rfl ?_
    show Steps p.tables e below (T10.setTop (mkF m 168 #[.val (.int p1), .val (.int p2), .val (.int p3), .val (.int p4), .val (.ref ar), .val (.int bb), .val (.int sm), .val (.int (1 : Int32)), .val (.int (1 : Int32)), .unset] [(.int sm)])) _
    exact hk
  obtain ⟨_, _, ⟨T14, L14, k14, n14⟩, -, X14, ⟨Lc14, hQ14, l14, y14, z14⟩, st14⟩ := Jvm.LawKit.callS X10 hx (y := (⟨"com/example/querent/querent/xdm/XmlChars", "isChar", "(I)Z"⟩ : MethodName)) hown (mvT hZ (hw _ (List.mem_of_getElem? (i := 13) rfl))) (mvT hZ (hw _ (List.mem_of_getElem? (i := 14) rfl))) (mvT hZ (hw _ (List.mem_of_getElem? (i := 15) rfl))) (mvT hZ (hw _ (List.mem_of_getElem? (i := 16) rfl))) (by decide) (backOf (W := 0) (rm1 l Z a0 hw [] sm  h0 n0 Z0 ) hZ (hw _ (List.mem_of_getElem? (i := 16) rfl)) (hw _ (List.mem_of_getElem? (i := 15) rfl)) (by decide) (by decide)) (g := (mkF m 168 #[.val (.int p1), .val (.int p2), .val (.int p3), .val (.int p4), .val (.ref ar), .val (.int bb), .val (.int sm), .val (.int (1 : Int32)), .val (.int (1 : Int32)), .unset] [(.int sm)])) rfl (by rw [hml]; rfl) (argsL := [(.int sm)]) (rest := []) (lenOf (by decide +kernel : parseMethodDescriptor "(I)Z" = some ⟨[.int], (some .boolean)⟩) rfl) rfl (by show 2 * 0 + _ ≤ _; exact Nat.le_of_eq rfl) (hb hby at_168) (fun _ _ => ⟨rfl, e10, (by show cells + 0 + 0 + 0 + 0 + 0 ≤ 16; omega), (by show slots + 0 + 0 + 0 + 0 + 0 ≤ 128; omega)⟩)
  dsimp only [Pt.U, Pt.locs, Pt.cells, Pt.slots] at X14 l14 y14 z14 st14 hQ14
  replace y14 := y14.symm; replace z14 := z14.symm; subst l14 y14 z14
  obtain ⟨rfl, Nq14, e14⟩ := hQ14
  have N14 := Fr.app N10 Nq14
  have K14 : ∀ t, Steps p.tables e below (T14.setTop (mkF m 171 #[.val (.int p1), .val (.int p2), .val (.int p3), .val (.int p4), .val (.ref ar), .val (.int bb), .val (.int sm), .val (.int (1 : Int32)), .val (.int (1 : Int32)), .unset] [(.int (own_f1_0 sm))])) t → Steps p.tables e below S0 t := fun t hk => K13 t (st14 _ hk)
  have K15 : ∀ t, Steps p.tables e below (T14.setTop (mkF m 173 #[.val (.int p1), .val (.int p2), .val (.int p3), .val (.int p4), .val (.ref ar), .val (.int bb), .val (.int sm), .val (.int (1 : Int32)), .val (.int (1 : Int32)), .unset] [(.int sm), (.int (own_f1_0 sm))])) t → Steps p.tables e below S0 t := by
    intro t hk
    refine K14 t ?_
    show Steps p.tables e below (T14.setTop (mkF m 171 #[.val (.int p1), .val (.int p2), .val (.int p3), .val (.int p4), .val (.ref ar), .val (.int bb), .val (.int sm), .val (.int (1 : Int32)), .val (.int (1 : Int32)), .unset] [(.int (own_f1_0 sm))])) _
    refine XS.iload X14.here hx rfl (hb hby at_171) rfl ?_
    show Steps p.tables e below (T14.setTop (mkF m 173 #[.val (.int p1), .val (.int p2), .val (.int p3), .val (.int p4), .val (.ref ar), .val (.int bb), .val (.int sm), .val (.int (1 : Int32)), .val (.int (1 : Int32)), .unset] [(.int sm), (.int (own_f1_0 sm))])) _
    exact hk
  obtain ⟨_, _, ⟨T16, L16, k16, n16⟩, -, X16, ⟨Lc16, hQ16, l16, y16, z16⟩, st16⟩ := Jvm.LawKit.callS X14 hx (y := (⟨"com/example/querent/querent/xdm/XmlCharsIsCharPinLaw", "reference", "(I)Z"⟩ : MethodName)) hown (mvT hZ (hw _ (List.mem_of_getElem? (i := 19) rfl))) (mvT hZ (hw _ (List.mem_of_getElem? (i := 20) rfl))) (mvT hZ (hw _ (List.mem_of_getElem? (i := 21) rfl))) (mvT hZ (hw _ (List.mem_of_getElem? (i := 22) rfl))) (by decide) (backOf (W := 1) (rm2 l Z a0 hw [] sm  h0 n0 Z0 ) hZ (hw _ (List.mem_of_getElem? (i := 22) rfl)) (hw _ (List.mem_of_getElem? (i := 21) rfl)) (by decide) (by decide)) (g := (mkF m 173 #[.val (.int p1), .val (.int p2), .val (.int p3), .val (.int p4), .val (.ref ar), .val (.int bb), .val (.int sm), .val (.int (1 : Int32)), .val (.int (1 : Int32)), .unset] [(.int sm), (.int (own_f1_0 sm))])) rfl (by rw [hml]; rfl) (argsL := [(.int sm)]) (rest := [(.int (own_f1_0 sm))]) (lenOf (by decide +kernel : parseMethodDescriptor "(I)Z" = some ⟨[.int], (some .boolean)⟩) rfl) rfl (by show 2 * 0 + _ ≤ _; exact Nat.le_of_eq rfl) (hb hby at_173) (fun _ _ => ⟨rfl, e14, (by show cells + 0 + 0 + 0 + 0 + 0 + 0 ≤ 16; omega), (by show slots + 0 + 0 + 0 + 0 + 0 + 0 ≤ 128; omega)⟩)
  dsimp only [Pt.U, Pt.locs, Pt.cells, Pt.slots] at X16 l16 y16 z16 st16 hQ16
  replace y16 := y16.symm; replace z16 := z16.symm; subst l16 y16 z16
  obtain ⟨rfl, Nq16, e16⟩ := hQ16
  have N16 := Fr.app N14 Nq16
  have K16 : ∀ t, Steps p.tables e below (T16.setTop (mkF m 176 #[.val (.int p1), .val (.int p2), .val (.int p3), .val (.int p4), .val (.ref ar), .val (.int bb), .val (.int sm), .val (.int (1 : Int32)), .val (.int (1 : Int32)), .unset] [(.int (own_f2_0 sm)), (.int (own_f1_0 sm))])) t → Steps p.tables e below S0 t := fun t hk => K15 t (st16 _ hk)
  have hc176 : (own_f1_0 sm) = (own_f2_0 sm) := own_same sm
  have K17 : ∀ t, Steps p.tables e below (T16.setTop (mkF m 179 #[.val (.int p1), .val (.int p2), .val (.int p3), .val (.int p4), .val (.ref ar), .val (.int bb), .val (.int sm), .val (.int (1 : Int32)), .val (.int (1 : Int32)), .unset] [])) t → Steps p.tables e below S0 t := by
    intro t hk
    refine K16 t ?_
    show Steps p.tables e below (T16.setTop (mkF m 176 #[.val (.int p1), .val (.int p2), .val (.int p3), .val (.int p4), .val (.ref ar), .val (.int bb), .val (.int sm), .val (.int (1 : Int32)), .val (.int (1 : Int32)), .unset] [(.int (own_f2_0 sm)), (.int (own_f1_0 sm))])) _
    refine XS.icmpNo X16.here hx rfl (hb hby at_176) rfl (teq hc176).2 ?_
    exact hk
  have K18 : ∀ t, Steps p.tables e below (T16.setTop (mkF m 188 #[.val (.int p1), .val (.int p2), .val (.int p3), .val (.int p4), .val (.ref ar), .val (.int bb), .val (.int sm), .val (.int (1 : Int32)), .val (.int (1 : Int32)), .val (.int (1 : Int32))] [(.int (1 : Int32))])) t → Steps p.tables e below S0 t := by
    intro t hk
    refine K17 t ?_
    show Steps p.tables e below (T16.setTop (mkF m 179 #[.val (.int p1), .val (.int p2), .val (.int p3), .val (.int p4), .val (.ref ar), .val (.int bb), .val (.int sm), .val (.int (1 : Int32)), .val (.int (1 : Int32)), .unset] [])) _
    refine XS.iconst X16.here hx rfl (hb hby at_179) ?_
    show Steps p.tables e below (T16.setTop (mkF m 180 #[.val (.int p1), .val (.int p2), .val (.int p3), .val (.int p4), .val (.ref ar), .val (.int bb), .val (.int sm), .val (.int (1 : Int32)), .val (.int (1 : Int32)), .unset] [(.int (1 : Int32))])) _
    refine XS.goto X16.here hx rfl (pc0 := 180) (pc' := 184) rfl (hb hby at_180) (by decide) (by decide) ?_
    show Steps p.tables e below (T16.setTop (mkF m 184 #[.val (.int p1), .val (.int p2), .val (.int p3), .val (.int p4), .val (.ref ar), .val (.int bb), .val (.int sm), .val (.int (1 : Int32)), .val (.int (1 : Int32)), .unset] [(.int (1 : Int32))])) _
    refine XS.istore X16.here hx rfl (hb hby at_184) rfl (l' := #[.val (.int p1), .val (.int p2), .val (.int p3), .val (.int p4), .val (.ref ar), .val (.int bb), .val (.int sm), .val (.int (1 : Int32)), .val (.int (1 : Int32)), .val (.int (1 : Int32))]) rfl ?_
    show Steps p.tables e below (T16.setTop (mkF m 186 #[.val (.int p1), .val (.int p2), .val (.int p3), .val (.int p4), .val (.ref ar), .val (.int bb), .val (.int sm), .val (.int (1 : Int32)), .val (.int (1 : Int32)), .val (.int (1 : Int32))] [])) _
    refine XS.iload X16.here hx rfl (hb hby at_186) rfl ?_
    show Steps p.tables e below (T16.setTop (mkF m 188 #[.val (.int p1), .val (.int p2), .val (.int p3), .val (.int p4), .val (.ref ar), .val (.int bb), .val (.int sm), .val (.int (1 : Int32)), .val (.int (1 : Int32)), .val (.int (1 : Int32))] [(.int (1 : Int32))])) _
    exact hk
  have hc188 : ¬ ((1 : Int32) = (0 : Int32)) := by decide
  have K19 : ∀ t, Steps p.tables e below (T16.setTop (mkF m 191 #[.val (.int p1), .val (.int p2), .val (.int p3), .val (.int p4), .val (.ref ar), .val (.int bb), .val (.int sm), .val (.int (1 : Int32)), .val (.int (1 : Int32)), .val (.int (1 : Int32))] [])) t → Steps p.tables e below S0 t := by
    intro t hk
    refine K18 t ?_
    show Steps p.tables e below (T16.setTop (mkF m 188 #[.val (.int p1), .val (.int p2), .val (.int p3), .val (.int p4), .val (.ref ar), .val (.int bb), .val (.int sm), .val (.int (1 : Int32)), .val (.int (1 : Int32)), .val (.int (1 : Int32))] [(.int (1 : Int32))])) _
    refine XS.ifNo X16.here hx rfl (hb hby at_188) rfl ((if0 _ _).trans (feq hc188).1) ?_
    exact hk
  have K20 : ∀ t, Steps p.tables e below (T16.setTop (mkF m 193 #[.val (.int p1), .val (.int p2), .val (.int p3), .val (.int p4), .val (.ref ar), .val (.int bb), .val (.int sm), .val (.int (1 : Int32)), .val (.int (1 : Int32)), .val (.int (1 : Int32))] [(.int (1 : Int32))])) t → Steps p.tables e below S0 t := by
    intro t hk
    refine K19 t ?_
    show Steps p.tables e below (T16.setTop (mkF m 191 #[.val (.int p1), .val (.int p2), .val (.int p3), .val (.int p4), .val (.ref ar), .val (.int bb), .val (.int sm), .val (.int (1 : Int32)), .val (.int (1 : Int32)), .val (.int (1 : Int32))] [])) _
    refine XS.iload X16.here hx rfl (hb hby at_191) rfl ?_
    show Steps p.tables e below (T16.setTop (mkF m 193 #[.val (.int p1), .val (.int p2), .val (.int p3), .val (.int p4), .val (.ref ar), .val (.int bb), .val (.int sm), .val (.int (1 : Int32)), .val (.int (1 : Int32)), .val (.int (1 : Int32))] [(.int (1 : Int32))])) _
    exact hk
  have hc193 : ¬ ((1 : Int32) = (0 : Int32)) := by decide
  have K21 : ∀ t, Steps p.tables e below (T16.setTop (mkF m 196 #[.val (.int p1), .val (.int p2), .val (.int p3), .val (.int p4), .val (.ref ar), .val (.int bb), .val (.int sm), .val (.int (1 : Int32)), .val (.int (1 : Int32)), .val (.int (1 : Int32))] [])) t → Steps p.tables e below S0 t := by
    intro t hk
    refine K20 t ?_
    show Steps p.tables e below (T16.setTop (mkF m 193 #[.val (.int p1), .val (.int p2), .val (.int p3), .val (.int p4), .val (.ref ar), .val (.int bb), .val (.int sm), .val (.int (1 : Int32)), .val (.int (1 : Int32)), .val (.int (1 : Int32))] [(.int (1 : Int32))])) _
    refine XS.ifNo X16.here hx rfl (hb hby at_193) rfl ((if0 _ _).trans (feq hc193).1) ?_
    exact hk
  have K22 : ∀ t, Steps p.tables e below (T16.setTop (mkF m 198 #[.val (.int p1), .val (.int p2), .val (.int p3), .val (.int p4), .val (.ref ar), .val (.int bb), .val (.int sm), .val (.int (1 : Int32)), .val (.int (1 : Int32)), .val (.int (1 : Int32))] [(.int (1 : Int32))])) t → Steps p.tables e below S0 t := by
    intro t hk
    refine K21 t ?_
    show Steps p.tables e below (T16.setTop (mkF m 196 #[.val (.int p1), .val (.int p2), .val (.int p3), .val (.int p4), .val (.ref ar), .val (.int bb), .val (.int sm), .val (.int (1 : Int32)), .val (.int (1 : Int32)), .val (.int (1 : Int32))] [])) _
    refine XS.iload X16.here hx rfl (hb hby at_196) rfl ?_
    show Steps p.tables e below (T16.setTop (mkF m 198 #[.val (.int p1), .val (.int p2), .val (.int p3), .val (.int p4), .val (.ref ar), .val (.int bb), .val (.int sm), .val (.int (1 : Int32)), .val (.int (1 : Int32)), .val (.int (1 : Int32))] [(.int (1 : Int32))])) _
    exact hk
  have hc198 : ¬ ((1 : Int32) = (0 : Int32)) := by decide
  have K23 : ∀ t, Steps p.tables e below (T16.setTop (mkF m 201 #[.val (.int p1), .val (.int p2), .val (.int p3), .val (.int p4), .val (.ref ar), .val (.int bb), .val (.int sm), .val (.int (1 : Int32)), .val (.int (1 : Int32)), .val (.int (1 : Int32))] [])) t → Steps p.tables e below S0 t := by
    intro t hk
    refine K22 t ?_
    show Steps p.tables e below (T16.setTop (mkF m 198 #[.val (.int p1), .val (.int p2), .val (.int p3), .val (.int p4), .val (.ref ar), .val (.int bb), .val (.int sm), .val (.int (1 : Int32)), .val (.int (1 : Int32)), .val (.int (1 : Int32))] [(.int (1 : Int32))])) _
    refine XS.ifNo X16.here hx rfl (hb hby at_198) rfl ((if0 _ _).trans (feq hc198).1) ?_
    exact hk
  have K24 : ∀ t, Steps p.tables e below (T16.setTop (mkF m 206 #[.val (.int p1), .val (.int p2), .val (.int p3), .val (.int p4), .val (.ref ar), .val (.int bb), .val (.int sm), .val (.int (1 : Int32)), .val (.int (1 : Int32)), .val (.int (1 : Int32))] [(.int (1 : Int32))])) t → Steps p.tables e below S0 t := by
    intro t hk
    refine K23 t ?_
    show Steps p.tables e below (T16.setTop (mkF m 201 #[.val (.int p1), .val (.int p2), .val (.int p3), .val (.int p4), .val (.ref ar), .val (.int bb), .val (.int sm), .val (.int (1 : Int32)), .val (.int (1 : Int32)), .val (.int (1 : Int32))] [])) _
    refine XS.iconst X16.here hx rfl (hb hby at_201) ?_
    show Steps p.tables e below (T16.setTop (mkF m 202 #[.val (.int p1), .val (.int p2), .val (.int p3), .val (.int p4), .val (.ref ar), .val (.int bb), .val (.int sm), .val (.int (1 : Int32)), .val (.int (1 : Int32)), .val (.int (1 : Int32))] [(.int (1 : Int32))])) _
    refine XS.goto X16.here hx rfl (pc0 := 202) (pc' := 206) rfl (hb hby at_202) (by decide) (by decide) ?_
    show Steps p.tables e below (T16.setTop (mkF m 206 #[.val (.int p1), .val (.int p2), .val (.int p3), .val (.int p4), .val (.ref ar), .val (.int bb), .val (.int sm), .val (.int (1 : Int32)), .val (.int (1 : Int32)), .val (.int (1 : Int32))] [(.int (1 : Int32))])) _
    exact hk
  obtain ⟨fs, hr, hrun, hended, hW, hsame⟩ := X16.leave (v := some (.int (1 : Int32))) (fun h => by rw [(hret.trans (rfl : ret = some .boolean))] at h; cases h) hlk
  exact ⟨_, _, K24 _ (retN X16 hx (t := .boolean) (hret.trans (rfl : ret = some .boolean)) (by simp) (hb hby at_206) hr), hrun, hended, _, _, rfl, ⟨rfl, N16⟩, ⟨_, rfl⟩, hW, hsame.mono hcb hsb⟩
theorem ef_0 (m : MethodId) (x0 : Int32) (x1 : Int32) (x2 : Int32) (x3 : Int32) : entryFrame m #[(.int x0), (.int x1), (.int x2), (.int x3)] maxLocals = mkF m 0 #[.val (.int x0), .val (.int x1), .val (.int x2), .val (.int x3), .unset, .unset, .unset, .unset, .unset, .unset] [] := by first | (simp [entryFrame, mkF, argsToLocals, Value.category, maxLocals]; done) | rfl
theorem pn_0 : plainName "com/example/querent/querent/xdm/XmlCharsIsCharPinLaw" = true := by first | (simp [plainName, overriddenIn]; done) | decide +kernel
def Q_rm0 (Z : State) (p1 : Int32) (p2 : Int32) (p3 : Int32) (p4 : Int32)  (h0 : Heap) (n0 : Nat) (v : Option Value) (h : Heap) (L : List Loc) : Prop := v = some (.int (1 : Int32)) ∧ Fr n0 L
set_option maxRecDepth 65536 in
set_option maxHeartbeats 40000000 in
theorem rm0 (l : Launch) (Z : State) (a0 : Array Value) (hw : ∀ d ∈ tables_1, d.before a0 Z = true) (ws : List Jvm.Cond) (p1 : Int32) (p2 : Int32) (p3 : Int32) (p4 : Int32)  (h0 : Heap) (n0 : Nat) (Z0 : n0 ≤ h0.size)  :
    MetFree l x (head1 (Jvm.Cond.code x code maxLocals ret :: ws) room_1) (fun a U => a = #[(.int p1), (.int p2), (.int p3), (.int p4)] ∧ Z.Warmed39 U.vm ∧ U.heap = h0) (fun _ _ _ _ _ => True) (fun _ U o U' => ∃ v L, o = .returned v ∧ Q_rm0 Z p1 p2 p3 p4  h0 n0 v U'.heap L ∧ FrameEnd U o U' L 16 128) := by
  refine MetFree.of_bodySF (plainFor_of_name pn_0) hisR ?_
  intro p e s m args below meth c s₁ Bd hml0 hP hK
  obtain ⟨rfl, hZ, hh⟩ := hP
  have hx := Bd.exec
  have hby := Bd.bytes
  have hml : c.maxLocals = 10 := hml0
  have hown : s.vm.findClass "com/example/querent/querent/xdm/XmlCharsIsCharPinLaw" = some m.cls := findClass_of_methodNamed Bd.named
  have hnm := (name_of_methodNamed Bd.named Bd.method).1
  have X0 : Stand p l e room_1 s m #[(.int p1), (.int p2), (.int p3), (.int p4)] below meth c s₁ [] 0 0 := Stand.of_body Bd
  have e0 : s₁.heap = h0 := by rw [← hh, Bd.state]; rfl
  have N0 := Fr.nil n0
  have pre0 : ∀ t, Steps p.tables e below (s₁.setTop (mkF m 0 #[.val (.int p1), .val (.int p2), .val (.int p3), .val (.int p4), .unset, .unset, .unset, .unset, .unset, .unset] [])) t → Steps p.tables e below (s₁.setTop (entryFrame m #[(.int p1), (.int p2), (.int p3), (.int p4)] maxLocals)) t := fun t k => castTop (ef_0 m p1 p2 p3 p4) k
  have K1 : ∀ t, Steps p.tables e below (s₁.setTop (mkF m 2 #[.val (.int p1), .val (.int p2), .val (.int p3), .val (.int p4), .unset, .unset, .unset, .unset, .unset, .unset] [(.int (17 : Int32))])) t → Steps p.tables e below (s₁.setTop (entryFrame m #[(.int p1), (.int p2), (.int p3), (.int p4)] maxLocals)) t := by
    intro t hk
    refine pre0 t ?_
    show Steps p.tables e below (s₁.setTop (mkF m 0 #[.val (.int p1), .val (.int p2), .val (.int p3), .val (.int p4), .unset, .unset, .unset, .unset, .unset, .unset] [])) _
    refine XS.bipush X0.here hx rfl (hb hby at_0) ?_
    show Steps p.tables e below (s₁.setTop (mkF m 2 #[.val (.int p1), .val (.int p2), .val (.int p3), .val (.int p4), .unset, .unset, .unset, .unset, .unset, .unset] [(.int (17 : Int32))])) _
    exact hk
  obtain ⟨T2, h2, c2, X2, e2, E2, A2, st2⟩ := newP X0 hx hZ (hw _ (List.mem_of_getElem? (i := 0) rfl)) e0 (g := (mkF m 2 #[.val (.int p1), .val (.int p2), .val (.int p3), .val (.int p4), .unset, .unset, .unset, .unset, .unset, .unset] [(.int (17 : Int32))])) rfl (hb hby at_2) rfl (by decide) (cap := 17) (by decide) (by decide) (by decide) (by decide)
  obtain ⟨b2, g2⟩ : ∃ z, z = h0.size := ⟨_, rfl⟩
  rw [← g2] at A2 st2
  have V2 : Arv Z h2 b2 c2 .int (17 : Int32) [(.int (0 : Int32)), (.int (0 : Int32)), (.int (0 : Int32)), (.int (0 : Int32)), (.int (0 : Int32)), (.int (0 : Int32)), (.int (0 : Int32)), (.int (0 : Int32)), (.int (0 : Int32)), (.int (0 : Int32)), (.int (0 : Int32)), (.int (0 : Int32)), (.int (0 : Int32)), (.int (0 : Int32)), (.int (0 : Int32)), (.int (0 : Int32)), (.int (0 : Int32))] (.int (0 : Int32)) := (Arv.new A2 (by decide)).pad (pad_rep [] (.int (0 : Int32)) 17)
  have gb2 : n0 ≤ b2 := Nat.le_trans Z0 (Nat.le_of_eq g2.symm)
  have K2 : ∀ t, Steps p.tables e below (T2.setTop (mkF m 4 #[.val (.int p1), .val (.int p2), .val (.int p3), .val (.int p4), .unset, .unset, .unset, .unset, .unset, .unset] [(.ref b2)])) t → Steps p.tables e below (s₁.setTop (entryFrame m #[(.int p1), (.int p2), (.int p3), (.int p4)] maxLocals)) t := fun t hk => K1 t (st2 _ hk)
  have sz2 : n0 ≤ h2.size := Nat.le_trans Z0 E2.1
  have K3 : ∀ t, Steps p.tables e below (T2.setTop (mkF m 7 #[.val (.int p1), .val (.int p2), .val (.int p3), .val (.int p4), .unset, .unset, .unset, .unset, .unset, .unset] [(.int (0 : Int32)), (.int (0 : Int32)), (.ref b2), (.ref b2)])) t → Steps p.tables e below (s₁.setTop (entryFrame m #[(.int p1), (.int p2), (.int p3), (.int p4)] maxLocals)) t := by
    intro t hk
    refine K2 t ?_
    show Steps p.tables e below (T2.setTop (mkF m 4 #[.val (.int p1), .val (.int p2), .val (.int p3), .val (.int p4), .unset, .unset, .unset, .unset, .unset, .unset] [(.ref b2)])) _
    refine XS.dup X2.here hx rfl (hb hby at_4) rfl rfl ?_
    show Steps p.tables e below (T2.setTop (mkF m 5 #[.val (.int p1), .val (.int p2), .val (.int p3), .val (.int p4), .unset, .unset, .unset, .unset, .unset, .unset] [(.ref b2), (.ref b2)])) _
    refine XS.iconst X2.here hx rfl (hb hby at_5) ?_
    show Steps p.tables e below (T2.setTop (mkF m 6 #[.val (.int p1), .val (.int p2), .val (.int p3), .val (.int p4), .unset, .unset, .unset, .unset, .unset, .unset] [(.int (0 : Int32)), (.ref b2), (.ref b2)])) _
    refine XS.iconst X2.here hx rfl (hb hby at_6) ?_
    show Steps p.tables e below (T2.setTop (mkF m 7 #[.val (.int p1), .val (.int p2), .val (.int p3), .val (.int p4), .unset, .unset, .unset, .unset, .unset, .unset] [(.int (0 : Int32)), (.int (0 : Int32)), (.ref b2), (.ref b2)])) _
    exact hk
  obtain ⟨T4, h4, X4, e4, W4, V4', st4⟩ := own_stI X2 hx hZ e2 V2 (j := (0 : Int32)) 0 rfl ⟨by decide, by decide⟩ (by decide) (g := (mkF m 7 #[.val (.int p1), .val (.int p2), .val (.int p3), .val (.int p4), .unset, .unset, .unset, .unset, .unset, .unset] [(.int (0 : Int32)), (.int (0 : Int32)), (.ref b2), (.ref b2)])) rfl rfl (hb hby at_7)
  have V4 : Arv Z h4 b2 c2 .int (17 : Int32) [(.int (0 : Int32)), (.int (0 : Int32)), (.int (0 : Int32)), (.int (0 : Int32)), (.int (0 : Int32)), (.int (0 : Int32)), (.int (0 : Int32)), (.int (0 : Int32)), (.int (0 : Int32)), (.int (0 : Int32)), (.int (0 : Int32)), (.int (0 : Int32)), (.int (0 : Int32)), (.int (0 : Int32)), (.int (0 : Int32)), (.int (0 : Int32)), (.int (0 : Int32))] (.int (0 : Int32)) := V4'
  have N4 := Fr.snoc X4 N0 gb2
  have sz4 : n0 ≤ h4.size := Nat.le_trans sz2 (Keep.of_wr W4).1
  have K4 : ∀ t, Steps p.tables e below (T4.setTop (mkF m 8 #[.val (.int p1), .val (.int p2), .val (.int p3), .val (.int p4), .unset, .unset, .unset, .unset, .unset, .unset] [(.ref b2)])) t → Steps p.tables e below (s₁.setTop (entryFrame m #[(.int p1), (.int p2), (.int p3), (.int p4)] maxLocals)) t := fun t hk => K3 t (st4 _ hk)
  have K5 : ∀ t, Steps p.tables e below (T4.setTop (mkF m 12 #[.val (.int p1), .val (.int p2), .val (.int p3), .val (.int p4), .unset, .unset, .unset, .unset, .unset, .unset] [(.int (9 : Int32)), (.int (1 : Int32)), (.ref b2), (.ref b2)])) t → Steps p.tables e below (s₁.setTop (entryFrame m #[(.int p1), (.int p2), (.int p3), (.int p4)] maxLocals)) t := by
    intro t hk
    refine K4 t ?_
    show Steps p.tables e below (T4.setTop (mkF m 8 #[.val (.int p1), .val (.int p2), .val (.int p3), .val (.int p4), .unset, .unset, .unset, .unset, .unset, .unset] [(.ref b2)])) _
    refine XS.dup X4.here hx rfl (hb hby at_8) rfl rfl ?_
    show Steps p.tables e below (T4.setTop (mkF m 9 #[.val (.int p1), .val (.int p2), .val (.int p3), .val (.int p4), .unset, .unset, .unset, .unset, .unset, .unset] [(.ref b2), (.ref b2)])) _
    refine XS.iconst X4.here hx rfl (hb hby at_9) ?_
    show Steps p.tables e below (T4.setTop (mkF m 10 #[.val (.int p1), .val (.int p2), .val (.int p3), .val (.int p4), .unset, .unset, .unset, .unset, .unset, .unset] [(.int (1 : Int32)), (.ref b2), (.ref b2)])) _
    refine XS.bipush X4.here hx rfl (hb hby at_10) ?_
    show Steps p.tables e below (T4.setTop (mkF m 12 #[.val (.int p1), .val (.int p2), .val (.int p3), .val (.int p4), .unset, .unset, .unset, .unset, .unset, .unset] [(.int (9 : Int32)), (.int (1 : Int32)), (.ref b2), (.ref b2)])) _
    exact hk
  obtain ⟨T6, h6, X6, e6, W6, V6', st6⟩ := own_stI X4 hx hZ e4 V4 (j := (1 : Int32)) 1 rfl ⟨by decide, by decide⟩ (by decide) (g := (mkF m 12 #[.val (.int p1), .val (.int p2), .val (.int p3), .val (.int p4), .unset, .unset, .unset, .unset, .unset, .unset] [(.int (9 : Int32)), (.int (1 : Int32)), (.ref b2), (.ref b2)])) rfl rfl (hb hby at_12)
  have V6 : Arv Z h6 b2 c2 .int (17 : Int32) [(.int (0 : Int32)), (.int (9 : Int32)), (.int (0 : Int32)), (.int (0 : Int32)), (.int (0 : Int32)), (.int (0 : Int32)), (.int (0 : Int32)), (.int (0 : Int32)), (.int (0 : Int32)), (.int (0 : Int32)), (.int (0 : Int32)), (.int (0 : Int32)), (.int (0 : Int32)), (.int (0 : Int32)), (.int (0 : Int32)), (.int (0 : Int32)), (.int (0 : Int32))] (.int (0 : Int32)) := V6'
  have N6 := Fr.snoc X6 N4 gb2
  have sz6 : n0 ≤ h6.size := Nat.le_trans sz4 (Keep.of_wr W6).1
  have K6 : ∀ t, Steps p.tables e below (T6.setTop (mkF m 13 #[.val (.int p1), .val (.int p2), .val (.int p3), .val (.int p4), .unset, .unset, .unset, .unset, .unset, .unset] [(.ref b2)])) t → Steps p.tables e below (s₁.setTop (entryFrame m #[(.int p1), (.int p2), (.int p3), (.int p4)] maxLocals)) t := fun t hk => K5 t (st6 _ hk)
  have K7 : ∀ t, Steps p.tables e below (T6.setTop (mkF m 17 #[.val (.int p1), .val (.int p2), .val (.int p3), .val (.int p4), .unset, .unset, .unset, .unset, .unset, .unset] [(.int (10 : Int32)), (.int (2 : Int32)), (.ref b2), (.ref b2)])) t → Steps p.tables e below (s₁.setTop (entryFrame m #[(.int p1), (.int p2), (.int p3), (.int p4)] maxLocals)) t := by
    intro t hk
    refine K6 t ?_
    show Steps p.tables e below (T6.setTop (mkF m 13 #[.val (.int p1), .val (.int p2), .val (.int p3), .val (.int p4), .unset, .unset, .unset, .unset, .unset, .unset] [(.ref b2)])) _
    refine XS.dup X6.here hx rfl (hb hby at_13) rfl rfl ?_
    show Steps p.tables e below (T6.setTop (mkF m 14 #[.val (.int p1), .val (.int p2), .val (.int p3), .val (.int p4), .unset, .unset, .unset, .unset, .unset, .unset] [(.ref b2), (.ref b2)])) _
    refine XS.iconst X6.here hx rfl (hb hby at_14) ?_
    show Steps p.tables e below (T6.setTop (mkF m 15 #[.val (.int p1), .val (.int p2), .val (.int p3), .val (.int p4), .unset, .unset, .unset, .unset, .unset, .unset] [(.int (2 : Int32)), (.ref b2), (.ref b2)])) _
    refine XS.bipush X6.here hx rfl (hb hby at_15) ?_
    show Steps p.tables e below (T6.setTop (mkF m 17 #[.val (.int p1), .val (.int p2), .val (.int p3), .val (.int p4), .unset, .unset, .unset, .unset, .unset, .unset] [(.int (10 : Int32)), (.int (2 : Int32)), (.ref b2), (.ref b2)])) _
    exact hk
  obtain ⟨T8, h8, X8, e8, W8, V8', st8⟩ := own_stI X6 hx hZ e6 V6 (j := (2 : Int32)) 2 rfl ⟨by decide, by decide⟩ (by decide) (g := (mkF m 17 #[.val (.int p1), .val (.int p2), .val (.int p3), .val (.int p4), .unset, .unset, .unset, .unset, .unset, .unset] [(.int (10 : Int32)), (.int (2 : Int32)), (.ref b2), (.ref b2)])) rfl rfl (hb hby at_17)
  have V8 : Arv Z h8 b2 c2 .int (17 : Int32) [(.int (0 : Int32)), (.int (9 : Int32)), (.int (10 : Int32)), (.int (0 : Int32)), (.int (0 : Int32)), (.int (0 : Int32)), (.int (0 : Int32)), (.int (0 : Int32)), (.int (0 : Int32)), (.int (0 : Int32)), (.int (0 : Int32)), (.int (0 : Int32)), (.int (0 : Int32)), (.int (0 : Int32)), (.int (0 : Int32)), (.int (0 : Int32)), (.int (0 : Int32))] (.int (0 : Int32)) := V8'
  have N8 := Fr.snoc X8 N6 gb2
  have sz8 : n0 ≤ h8.size := Nat.le_trans sz6 (Keep.of_wr W8).1
  have K8 : ∀ t, Steps p.tables e below (T8.setTop (mkF m 18 #[.val (.int p1), .val (.int p2), .val (.int p3), .val (.int p4), .unset, .unset, .unset, .unset, .unset, .unset] [(.ref b2)])) t → Steps p.tables e below (s₁.setTop (entryFrame m #[(.int p1), (.int p2), (.int p3), (.int p4)] maxLocals)) t := fun t hk => K7 t (st8 _ hk)
  have K9 : ∀ t, Steps p.tables e below (T8.setTop (mkF m 22 #[.val (.int p1), .val (.int p2), .val (.int p3), .val (.int p4), .unset, .unset, .unset, .unset, .unset, .unset] [(.int (13 : Int32)), (.int (3 : Int32)), (.ref b2), (.ref b2)])) t → Steps p.tables e below (s₁.setTop (entryFrame m #[(.int p1), (.int p2), (.int p3), (.int p4)] maxLocals)) t := by
    intro t hk
    refine K8 t ?_
    show Steps p.tables e below (T8.setTop (mkF m 18 #[.val (.int p1), .val (.int p2), .val (.int p3), .val (.int p4), .unset, .unset, .unset, .unset, .unset, .unset] [(.ref b2)])) _
    refine XS.dup X8.here hx rfl (hb hby at_18) rfl rfl ?_
    show Steps p.tables e below (T8.setTop (mkF m 19 #[.val (.int p1), .val (.int p2), .val (.int p3), .val (.int p4), .unset, .unset, .unset, .unset, .unset, .unset] [(.ref b2), (.ref b2)])) _
    refine XS.iconst X8.here hx rfl (hb hby at_19) ?_
    show Steps p.tables e below (T8.setTop (mkF m 20 #[.val (.int p1), .val (.int p2), .val (.int p3), .val (.int p4), .unset, .unset, .unset, .unset, .unset, .unset] [(.int (3 : Int32)), (.ref b2), (.ref b2)])) _
    refine XS.bipush X8.here hx rfl (hb hby at_20) ?_
    show Steps p.tables e below (T8.setTop (mkF m 22 #[.val (.int p1), .val (.int p2), .val (.int p3), .val (.int p4), .unset, .unset, .unset, .unset, .unset, .unset] [(.int (13 : Int32)), (.int (3 : Int32)), (.ref b2), (.ref b2)])) _
    exact hk
  obtain ⟨T10, h10, X10, e10, W10, V10', st10⟩ := own_stI X8 hx hZ e8 V8 (j := (3 : Int32)) 3 rfl ⟨by decide, by decide⟩ (by decide) (g := (mkF m 22 #[.val (.int p1), .val (.int p2), .val (.int p3), .val (.int p4), .unset, .unset, .unset, .unset, .unset, .unset] [(.int (13 : Int32)), (.int (3 : Int32)), (.ref b2), (.ref b2)])) rfl rfl (hb hby at_22)
  have V10 : Arv Z h10 b2 c2 .int (17 : Int32) [(.int (0 : Int32)), (.int (9 : Int32)), (.int (10 : Int32)), (.int (13 : Int32)), (.int (0 : Int32)), (.int (0 : Int32)), (.int (0 : Int32)), (.int (0 : Int32)), (.int (0 : Int32)), (.int (0 : Int32)), (.int (0 : Int32)), (.int (0 : Int32)), (.int (0 : Int32)), (.int (0 : Int32)), (.int (0 : Int32)), (.int (0 : Int32)), (.int (0 : Int32))] (.int (0 : Int32)) := V10'
  have N10 := Fr.snoc X10 N8 gb2
  have sz10 : n0 ≤ h10.size := Nat.le_trans sz8 (Keep.of_wr W10).1
  have K10 : ∀ t, Steps p.tables e below (T10.setTop (mkF m 23 #[.val (.int p1), .val (.int p2), .val (.int p3), .val (.int p4), .unset, .unset, .unset, .unset, .unset, .unset] [(.ref b2)])) t → Steps p.tables e below (s₁.setTop (entryFrame m #[(.int p1), (.int p2), (.int p3), (.int p4)] maxLocals)) t := fun t hk => K9 t (st10 _ hk)
  have K11 : ∀ t, Steps p.tables e below (T10.setTop (mkF m 27 #[.val (.int p1), .val (.int p2), .val (.int p3), .val (.int p4), .unset, .unset, .unset, .unset, .unset, .unset] [(.int (32 : Int32)), (.int (4 : Int32)), (.ref b2), (.ref b2)])) t → Steps p.tables e below (s₁.setTop (entryFrame m #[(.int p1), (.int p2), (.int p3), (.int p4)] maxLocals)) t := by
    intro t hk
    refine K10 t ?_
    show Steps p.tables e below (T10.setTop (mkF m 23 #[.val (.int p1), .val (.int p2), .val (.int p3), .val (.int p4), .unset, .unset, .unset, .unset, .unset, .unset] [(.ref b2)])) _
    refine XS.dup X10.here hx rfl (hb hby at_23) rfl rfl ?_
    show Steps p.tables e below (T10.setTop (mkF m 24 #[.val (.int p1), .val (.int p2), .val (.int p3), .val (.int p4), .unset, .unset, .unset, .unset, .unset, .unset] [(.ref b2), (.ref b2)])) _
    refine XS.iconst X10.here hx rfl (hb hby at_24) ?_
    show Steps p.tables e below (T10.setTop (mkF m 25 #[.val (.int p1), .val (.int p2), .val (.int p3), .val (.int p4), .unset, .unset, .unset, .unset, .unset, .unset] [(.int (4 : Int32)), (.ref b2), (.ref b2)])) _
    refine XS.bipush X10.here hx rfl (hb hby at_25) ?_
    show Steps p.tables e below (T10.setTop (mkF m 27 #[.val (.int p1), .val (.int p2), .val (.int p3), .val (.int p4), .unset, .unset, .unset, .unset, .unset, .unset] [(.int (32 : Int32)), (.int (4 : Int32)), (.ref b2), (.ref b2)])) _
    exact hk
  obtain ⟨T12, h12, X12, e12, W12, V12', st12⟩ := own_stI X10 hx hZ e10 V10 (j := (4 : Int32)) 4 rfl ⟨by decide, by decide⟩ (by decide) (g := (mkF m 27 #[.val (.int p1), .val (.int p2), .val (.int p3), .val (.int p4), .unset, .unset, .unset, .unset, .unset, .unset] [(.int (32 : Int32)), (.int (4 : Int32)), (.ref b2), (.ref b2)])) rfl rfl (hb hby at_27)
  have V12 : Arv Z h12 b2 c2 .int (17 : Int32) [(.int (0 : Int32)), (.int (9 : Int32)), (.int (10 : Int32)), (.int (13 : Int32)), (.int (32 : Int32)), (.int (0 : Int32)), (.int (0 : Int32)), (.int (0 : Int32)), (.int (0 : Int32)), (.int (0 : Int32)), (.int (0 : Int32)), (.int (0 : Int32)), (.int (0 : Int32)), (.int (0 : Int32)), (.int (0 : Int32)), (.int (0 : Int32)), (.int (0 : Int32))] (.int (0 : Int32)) := V12'
  have N12 := Fr.snoc X12 N10 gb2
  have sz12 : n0 ≤ h12.size := Nat.le_trans sz10 (Keep.of_wr W12).1
  have K12 : ∀ t, Steps p.tables e below (T12.setTop (mkF m 28 #[.val (.int p1), .val (.int p2), .val (.int p3), .val (.int p4), .unset, .unset, .unset, .unset, .unset, .unset] [(.ref b2)])) t → Steps p.tables e below (s₁.setTop (entryFrame m #[(.int p1), (.int p2), (.int p3), (.int p4)] maxLocals)) t := fun t hk => K11 t (st12 _ hk)
  have K13 : ∀ t, Steps p.tables e below (T12.setTop (mkF m 32 #[.val (.int p1), .val (.int p2), .val (.int p3), .val (.int p4), .unset, .unset, .unset, .unset, .unset, .unset] [(.int (55295 : Int32)), (.int (5 : Int32)), (.ref b2), (.ref b2)])) t → Steps p.tables e below (s₁.setTop (entryFrame m #[(.int p1), (.int p2), (.int p3), (.int p4)] maxLocals)) t := by
    intro t hk
    refine K12 t ?_
    show Steps p.tables e below (T12.setTop (mkF m 28 #[.val (.int p1), .val (.int p2), .val (.int p3), .val (.int p4), .unset, .unset, .unset, .unset, .unset, .unset] [(.ref b2)])) _
    refine XS.dup X12.here hx rfl (hb hby at_28) rfl rfl ?_
    show Steps p.tables e below (T12.setTop (mkF m 29 #[.val (.int p1), .val (.int p2), .val (.int p3), .val (.int p4), .unset, .unset, .unset, .unset, .unset, .unset] [(.ref b2), (.ref b2)])) _
    refine XS.iconst X12.here hx rfl (hb hby at_29) ?_
    show Steps p.tables e below (T12.setTop (mkF m 30 #[.val (.int p1), .val (.int p2), .val (.int p3), .val (.int p4), .unset, .unset, .unset, .unset, .unset, .unset] [(.int (5 : Int32)), (.ref b2), (.ref b2)])) _
    refine X12.ldcInt hx hown (mvT hZ (hw _ (List.mem_of_getElem? (i := 1) rfl))) (g := (mkF m 30 #[.val (.int p1), .val (.int p2), .val (.int p3), .val (.int p4), .unset, .unset, .unset, .unset, .unset, .unset] [(.int (5 : Int32)), (.ref b2), (.ref b2)])) rfl (hb hby at_30) _ ?_
    show Steps p.tables e below (T12.setTop (mkF m 32 #[.val (.int p1), .val (.int p2), .val (.int p3), .val (.int p4), .unset, .unset, .unset, .unset, .unset, .unset] [(.int (55295 : Int32)), (.int (5 : Int32)), (.ref b2), (.ref b2)])) _
    exact hk
  obtain ⟨T14, h14, X14, e14, W14, V14', st14⟩ := own_stI X12 hx hZ e12 V12 (j := (5 : Int32)) 5 rfl ⟨by decide, by decide⟩ (by decide) (g := (mkF m 32 #[.val (.int p1), .val (.int p2), .val (.int p3), .val (.int p4), .unset, .unset, .unset, .unset, .unset, .unset] [(.int (55295 : Int32)), (.int (5 : Int32)), (.ref b2), (.ref b2)])) rfl rfl (hb hby at_32)
  have V14 : Arv Z h14 b2 c2 .int (17 : Int32) [(.int (0 : Int32)), (.int (9 : Int32)), (.int (10 : Int32)), (.int (13 : Int32)), (.int (32 : Int32)), (.int (55295 : Int32)), (.int (0 : Int32)), (.int (0 : Int32)), (.int (0 : Int32)), (.int (0 : Int32)), (.int (0 : Int32)), (.int (0 : Int32)), (.int (0 : Int32)), (.int (0 : Int32)), (.int (0 : Int32)), (.int (0 : Int32)), (.int (0 : Int32))] (.int (0 : Int32)) := V14'
  have N14 := Fr.snoc X14 N12 gb2
  have sz14 : n0 ≤ h14.size := Nat.le_trans sz12 (Keep.of_wr W14).1
  have K14 : ∀ t, Steps p.tables e below (T14.setTop (mkF m 33 #[.val (.int p1), .val (.int p2), .val (.int p3), .val (.int p4), .unset, .unset, .unset, .unset, .unset, .unset] [(.ref b2)])) t → Steps p.tables e below (s₁.setTop (entryFrame m #[(.int p1), (.int p2), (.int p3), (.int p4)] maxLocals)) t := fun t hk => K13 t (st14 _ hk)
  have K15 : ∀ t, Steps p.tables e below (T14.setTop (mkF m 38 #[.val (.int p1), .val (.int p2), .val (.int p3), .val (.int p4), .unset, .unset, .unset, .unset, .unset, .unset] [(.int (55296 : Int32)), (.int (6 : Int32)), (.ref b2), (.ref b2)])) t → Steps p.tables e below (s₁.setTop (entryFrame m #[(.int p1), (.int p2), (.int p3), (.int p4)] maxLocals)) t := by
    intro t hk
    refine K14 t ?_
    show Steps p.tables e below (T14.setTop (mkF m 33 #[.val (.int p1), .val (.int p2), .val (.int p3), .val (.int p4), .unset, .unset, .unset, .unset, .unset, .unset] [(.ref b2)])) _
    refine XS.dup X14.here hx rfl (hb hby at_33) rfl rfl ?_
    show Steps p.tables e below (T14.setTop (mkF m 34 #[.val (.int p1), .val (.int p2), .val (.int p3), .val (.int p4), .unset, .unset, .unset, .unset, .unset, .unset] [(.ref b2), (.ref b2)])) _
    refine XS.bipush X14.here hx rfl (hb hby at_34) ?_
    show Steps p.tables e below (T14.setTop (mkF m 36 #[.val (.int p1), .val (.int p2), .val (.int p3), .val (.int p4), .unset, .unset, .unset, .unset, .unset, .unset] [(.int (6 : Int32)), (.ref b2), (.ref b2)])) _
    refine X14.ldcInt hx hown (mvT hZ (hw _ (List.mem_of_getElem? (i := 2) rfl))) (g := (mkF m 36 #[.val (.int p1), .val (.int p2), .val (.int p3), .val (.int p4), .unset, .unset, .unset, .unset, .unset, .unset] [(.int (6 : Int32)), (.ref b2), (.ref b2)])) rfl (hb hby at_36) _ ?_
    show Steps p.tables e below (T14.setTop (mkF m 38 #[.val (.int p1), .val (.int p2), .val (.int p3), .val (.int p4), .unset, .unset, .unset, .unset, .unset, .unset] [(.int (55296 : Int32)), (.int (6 : Int32)), (.ref b2), (.ref b2)])) _
    exact hk
  obtain ⟨T16, h16, X16, e16, W16, V16', st16⟩ := own_stI X14 hx hZ e14 V14 (j := (6 : Int32)) 6 rfl ⟨by decide, by decide⟩ (by decide) (g := (mkF m 38 #[.val (.int p1), .val (.int p2), .val (.int p3), .val (.int p4), .unset, .unset, .unset, .unset, .unset, .unset] [(.int (55296 : Int32)), (.int (6 : Int32)), (.ref b2), (.ref b2)])) rfl rfl (hb hby at_38)
  have V16 : Arv Z h16 b2 c2 .int (17 : Int32) [(.int (0 : Int32)), (.int (9 : Int32)), (.int (10 : Int32)), (.int (13 : Int32)), (.int (32 : Int32)), (.int (55295 : Int32)), (.int (55296 : Int32)), (.int (0 : Int32)), (.int (0 : Int32)), (.int (0 : Int32)), (.int (0 : Int32)), (.int (0 : Int32)), (.int (0 : Int32)), (.int (0 : Int32)), (.int (0 : Int32)), (.int (0 : Int32)), (.int (0 : Int32))] (.int (0 : Int32)) := V16'
  have N16 := Fr.snoc X16 N14 gb2
  have sz16 : n0 ≤ h16.size := Nat.le_trans sz14 (Keep.of_wr W16).1
  have K16 : ∀ t, Steps p.tables e below (T16.setTop (mkF m 39 #[.val (.int p1), .val (.int p2), .val (.int p3), .val (.int p4), .unset, .unset, .unset, .unset, .unset, .unset] [(.ref b2)])) t → Steps p.tables e below (s₁.setTop (entryFrame m #[(.int p1), (.int p2), (.int p3), (.int p4)] maxLocals)) t := fun t hk => K15 t (st16 _ hk)
  have K17 : ∀ t, Steps p.tables e below (T16.setTop (mkF m 44 #[.val (.int p1), .val (.int p2), .val (.int p3), .val (.int p4), .unset, .unset, .unset, .unset, .unset, .unset] [(.int (57343 : Int32)), (.int (7 : Int32)), (.ref b2), (.ref b2)])) t → Steps p.tables e below (s₁.setTop (entryFrame m #[(.int p1), (.int p2), (.int p3), (.int p4)] maxLocals)) t := by
    intro t hk
    refine K16 t ?_
    show Steps p.tables e below (T16.setTop (mkF m 39 #[.val (.int p1), .val (.int p2), .val (.int p3), .val (.int p4), .unset, .unset, .unset, .unset, .unset, .unset] [(.ref b2)])) _
    refine XS.dup X16.here hx rfl (hb hby at_39) rfl rfl ?_
    show Steps p.tables e below (T16.setTop (mkF m 40 #[.val (.int p1), .val (.int p2), .val (.int p3), .val (.int p4), .unset, .unset, .unset, .unset, .unset, .unset] [(.ref b2), (.ref b2)])) _
    refine XS.bipush X16.here hx rfl (hb hby at_40) ?_
    show Steps p.tables e below (T16.setTop (mkF m 42 #[.val (.int p1), .val (.int p2), .val (.int p3), .val (.int p4), .unset, .unset, .unset, .unset, .unset, .unset] [(.int (7 : Int32)), (.ref b2), (.ref b2)])) _
    refine X16.ldcInt hx hown (mvT hZ (hw _ (List.mem_of_getElem? (i := 3) rfl))) (g := (mkF m 42 #[.val (.int p1), .val (.int p2), .val (.int p3), .val (.int p4), .unset, .unset, .unset, .unset, .unset, .unset] [(.int (7 : Int32)), (.ref b2), (.ref b2)])) rfl (hb hby at_42) _ ?_
    show Steps p.tables e below (T16.setTop (mkF m 44 #[.val (.int p1), .val (.int p2), .val (.int p3), .val (.int p4), .unset, .unset, .unset, .unset, .unset, .unset] [(.int (57343 : Int32)), (.int (7 : Int32)), (.ref b2), (.ref b2)])) _
    exact hk
  obtain ⟨T18, h18, X18, e18, W18, V18', st18⟩ := own_stI X16 hx hZ e16 V16 (j := (7 : Int32)) 7 rfl ⟨by decide, by decide⟩ (by decide) (g := (mkF m 44 #[.val (.int p1), .val (.int p2), .val (.int p3), .val (.int p4), .unset, .unset, .unset, .unset, .unset, .unset] [(.int (57343 : Int32)), (.int (7 : Int32)), (.ref b2), (.ref b2)])) rfl rfl (hb hby at_44)
  have V18 : Arv Z h18 b2 c2 .int (17 : Int32) [(.int (0 : Int32)), (.int (9 : Int32)), (.int (10 : Int32)), (.int (13 : Int32)), (.int (32 : Int32)), (.int (55295 : Int32)), (.int (55296 : Int32)), (.int (57343 : Int32)), (.int (0 : Int32)), (.int (0 : Int32)), (.int (0 : Int32)), (.int (0 : Int32)), (.int (0 : Int32)), (.int (0 : Int32)), (.int (0 : Int32)), (.int (0 : Int32)), (.int (0 : Int32))] (.int (0 : Int32)) := V18'
  have N18 := Fr.snoc X18 N16 gb2
  have sz18 : n0 ≤ h18.size := Nat.le_trans sz16 (Keep.of_wr W18).1
  have K18 : ∀ t, Steps p.tables e below (T18.setTop (mkF m 45 #[.val (.int p1), .val (.int p2), .val (.int p3), .val (.int p4), .unset, .unset, .unset, .unset, .unset, .unset] [(.ref b2)])) t → Steps p.tables e below (s₁.setTop (entryFrame m #[(.int p1), (.int p2), (.int p3), (.int p4)] maxLocals)) t := fun t hk => K17 t (st18 _ hk)
  have K19 : ∀ t, Steps p.tables e below (T18.setTop (mkF m 50 #[.val (.int p1), .val (.int p2), .val (.int p3), .val (.int p4), .unset, .unset, .unset, .unset, .unset, .unset] [(.int (57344 : Int32)), (.int (8 : Int32)), (.ref b2), (.ref b2)])) t → Steps p.tables e below (s₁.setTop (entryFrame m #[(.int p1), (.int p2), (.int p3), (.int p4)] maxLocals)) t := by
    intro t hk
    refine K18 t ?_
    show Steps p.tables e below (T18.setTop (mkF m 45 #[.val (.int p1), .val (.int p2), .val (.int p3), .val (.int p4), .unset, .unset, .unset, .unset, .unset, .unset] [(.ref b2)])) _
    refine XS.dup X18.here hx rfl (hb hby at_45) rfl rfl ?_
    show Steps p.tables e below (T18.setTop (mkF m 46 #[.val (.int p1), .val (.int p2), .val (.int p3), .val (.int p4), .unset, .unset, .unset, .unset, .unset, .unset] [(.ref b2), (.ref b2)])) _
    refine XS.bipush X18.here hx rfl (hb hby at_46) ?_
    show Steps p.tables e below (T18.setTop (mkF m 48 #[.val (.int p1), .val (.int p2), .val (.int p3), .val (.int p4), .unset, .unset, .unset, .unset, .unset, .unset] [(.int (8 : Int32)), (.ref b2), (.ref b2)])) _
    refine X18.ldcInt hx hown (mvT hZ (hw _ (List.mem_of_getElem? (i := 4) rfl))) (g := (mkF m 48 #[.val (.int p1), .val (.int p2), .val (.int p3), .val (.int p4), .unset, .unset, .unset, .unset, .unset, .unset] [(.int (8 : Int32)), (.ref b2), (.ref b2)])) rfl (hb hby at_48) _ ?_
    show Steps p.tables e below (T18.setTop (mkF m 50 #[.val (.int p1), .val (.int p2), .val (.int p3), .val (.int p4), .unset, .unset, .unset, .unset, .unset, .unset] [(.int (57344 : Int32)), (.int (8 : Int32)), (.ref b2), (.ref b2)])) _
    exact hk
  obtain ⟨T20, h20, X20, e20, W20, V20', st20⟩ := own_stI X18 hx hZ e18 V18 (j := (8 : Int32)) 8 rfl ⟨by decide, by decide⟩ (by decide) (g := (mkF m 50 #[.val (.int p1), .val (.int p2), .val (.int p3), .val (.int p4), .unset, .unset, .unset, .unset, .unset, .unset] [(.int (57344 : Int32)), (.int (8 : Int32)), (.ref b2), (.ref b2)])) rfl rfl (hb hby at_50)
  have V20 : Arv Z h20 b2 c2 .int (17 : Int32) [(.int (0 : Int32)), (.int (9 : Int32)), (.int (10 : Int32)), (.int (13 : Int32)), (.int (32 : Int32)), (.int (55295 : Int32)), (.int (55296 : Int32)), (.int (57343 : Int32)), (.int (57344 : Int32)), (.int (0 : Int32)), (.int (0 : Int32)), (.int (0 : Int32)), (.int (0 : Int32)), (.int (0 : Int32)), (.int (0 : Int32)), (.int (0 : Int32)), (.int (0 : Int32))] (.int (0 : Int32)) := V20'
  have N20 := Fr.snoc X20 N18 gb2
  have sz20 : n0 ≤ h20.size := Nat.le_trans sz18 (Keep.of_wr W20).1
  have K20 : ∀ t, Steps p.tables e below (T20.setTop (mkF m 51 #[.val (.int p1), .val (.int p2), .val (.int p3), .val (.int p4), .unset, .unset, .unset, .unset, .unset, .unset] [(.ref b2)])) t → Steps p.tables e below (s₁.setTop (entryFrame m #[(.int p1), (.int p2), (.int p3), (.int p4)] maxLocals)) t := fun t hk => K19 t (st20 _ hk)
  have K21 : ∀ t, Steps p.tables e below (T20.setTop (mkF m 56 #[.val (.int p1), .val (.int p2), .val (.int p3), .val (.int p4), .unset, .unset, .unset, .unset, .unset, .unset] [(.int (65533 : Int32)), (.int (9 : Int32)), (.ref b2), (.ref b2)])) t → Steps p.tables e below (s₁.setTop (entryFrame m #[(.int p1), (.int p2), (.int p3), (.int p4)] maxLocals)) t := by
    intro t hk
    refine K20 t ?_
    show Steps p.tables e below (T20.setTop (mkF m 51 #[.val (.int p1), .val (.int p2), .val (.int p3), .val (.int p4), .unset, .unset, .unset, .unset, .unset, .unset] [(.ref b2)])) _
    refine XS.dup X20.here hx rfl (hb hby at_51) rfl rfl ?_
    show Steps p.tables e below (T20.setTop (mkF m 52 #[.val (.int p1), .val (.int p2), .val (.int p3), .val (.int p4), .unset, .unset, .unset, .unset, .unset, .unset] [(.ref b2), (.ref b2)])) _
    refine XS.bipush X20.here hx rfl (hb hby at_52) ?_
    show Steps p.tables e below (T20.setTop (mkF m 54 #[.val (.int p1), .val (.int p2), .val (.int p3), .val (.int p4), .unset, .unset, .unset, .unset, .unset, .unset] [(.int (9 : Int32)), (.ref b2), (.ref b2)])) _
    refine X20.ldcInt hx hown (mvT hZ (hw _ (List.mem_of_getElem? (i := 5) rfl))) (g := (mkF m 54 #[.val (.int p1), .val (.int p2), .val (.int p3), .val (.int p4), .unset, .unset, .unset, .unset, .unset, .unset] [(.int (9 : Int32)), (.ref b2), (.ref b2)])) rfl (hb hby at_54) _ ?_
    show Steps p.tables e below (T20.setTop (mkF m 56 #[.val (.int p1), .val (.int p2), .val (.int p3), .val (.int p4), .unset, .unset, .unset, .unset, .unset, .unset] [(.int (65533 : Int32)), (.int (9 : Int32)), (.ref b2), (.ref b2)])) _
    exact hk
  obtain ⟨T22, h22, X22, e22, W22, V22', st22⟩ := own_stI X20 hx hZ e20 V20 (j := (9 : Int32)) 9 rfl ⟨by decide, by decide⟩ (by decide) (g := (mkF m 56 #[.val (.int p1), .val (.int p2), .val (.int p3), .val (.int p4), .unset, .unset, .unset, .unset, .unset, .unset] [(.int (65533 : Int32)), (.int (9 : Int32)), (.ref b2), (.ref b2)])) rfl rfl (hb hby at_56)
  have V22 : Arv Z h22 b2 c2 .int (17 : Int32) [(.int (0 : Int32)), (.int (9 : Int32)), (.int (10 : Int32)), (.int (13 : Int32)), (.int (32 : Int32)), (.int (55295 : Int32)), (.int (55296 : Int32)), (.int (57343 : Int32)), (.int (57344 : Int32)), (.int (65533 : Int32)), (.int (0 : Int32)), (.int (0 : Int32)), (.int (0 : Int32)), (.int (0 : Int32)), (.int (0 : Int32)), (.int (0 : Int32)), (.int (0 : Int32))] (.int (0 : Int32)) := V22'
  have N22 := Fr.snoc X22 N20 gb2
  have sz22 : n0 ≤ h22.size := Nat.le_trans sz20 (Keep.of_wr W22).1
  have K22 : ∀ t, Steps p.tables e below (T22.setTop (mkF m 57 #[.val (.int p1), .val (.int p2), .val (.int p3), .val (.int p4), .unset, .unset, .unset, .unset, .unset, .unset] [(.ref b2)])) t → Steps p.tables e below (s₁.setTop (entryFrame m #[(.int p1), (.int p2), (.int p3), (.int p4)] maxLocals)) t := fun t hk => K21 t (st22 _ hk)
  have K23 : ∀ t, Steps p.tables e below (T22.setTop (mkF m 62 #[.val (.int p1), .val (.int p2), .val (.int p3), .val (.int p4), .unset, .unset, .unset, .unset, .unset, .unset] [(.int (65534 : Int32)), (.int (10 : Int32)), (.ref b2), (.ref b2)])) t → Steps p.tables e below (s₁.setTop (entryFrame m #[(.int p1), (.int p2), (.int p3), (.int p4)] maxLocals)) t := by
    intro t hk
    refine K22 t ?_
    show Steps p.tables e below (T22.setTop (mkF m 57 #[.val (.int p1), .val (.int p2), .val (.int p3), .val (.int p4), .unset, .unset, .unset, .unset, .unset, .unset] [(.ref b2)])) _
    refine XS.dup X22.here hx rfl (hb hby at_57) rfl rfl ?_
    show Steps p.tables e below (T22.setTop (mkF m 58 #[.val (.int p1), .val (.int p2), .val (.int p3), .val (.int p4), .unset, .unset, .unset, .unset, .unset, .unset] [(.ref b2), (.ref b2)])) _
    refine XS.bipush X22.here hx rfl (hb hby at_58) ?_
    show Steps p.tables e below (T22.setTop (mkF m 60 #[.val (.int p1), .val (.int p2), .val (.int p3), .val (.int p4), .unset, .unset, .unset, .unset, .unset, .unset] [(.int (10 : Int32)), (.ref b2), (.ref b2)])) _
    refine X22.ldcInt hx hown (mvT hZ (hw _ (List.mem_of_getElem? (i := 6) rfl))) (g := (mkF m 60 #[.val (.int p1), .val (.int p2), .val (.int p3), .val (.int p4), .unset, .unset, .unset, .unset, .unset, .unset] [(.int (10 : Int32)), (.ref b2), (.ref b2)])) rfl (hb hby at_60) _ ?_
    show Steps p.tables e below (T22.setTop (mkF m 62 #[.val (.int p1), .val (.int p2), .val (.int p3), .val (.int p4), .unset, .unset, .unset, .unset, .unset, .unset] [(.int (65534 : Int32)), (.int (10 : Int32)), (.ref b2), (.ref b2)])) _
    exact hk
  obtain ⟨T24, h24, X24, e24, W24, V24', st24⟩ := own_stI X22 hx hZ e22 V22 (j := (10 : Int32)) 10 rfl ⟨by decide, by decide⟩ (by decide) (g := (mkF m 62 #[.val (.int p1), .val (.int p2), .val (.int p3), .val (.int p4), .unset, .unset, .unset, .unset, .unset, .unset] [(.int (65534 : Int32)), (.int (10 : Int32)), (.ref b2), (.ref b2)])) rfl rfl (hb hby at_62)
  have V24 : Arv Z h24 b2 c2 .int (17 : Int32) [(.int (0 : Int32)), (.int (9 : Int32)), (.int (10 : Int32)), (.int (13 : Int32)), (.int (32 : Int32)), (.int (55295 : Int32)), (.int (55296 : Int32)), (.int (57343 : Int32)), (.int (57344 : Int32)), (.int (65533 : Int32)), (.int (65534 : Int32)), (.int (0 : Int32)), (.int (0 : Int32)), (.int (0 : Int32)), (.int (0 : Int32)), (.int (0 : Int32)), (.int (0 : Int32))] (.int (0 : Int32)) := V24'
  have N24 := Fr.snoc X24 N22 gb2
  have sz24 : n0 ≤ h24.size := Nat.le_trans sz22 (Keep.of_wr W24).1
  have K24 : ∀ t, Steps p.tables e below (T24.setTop (mkF m 63 #[.val (.int p1), .val (.int p2), .val (.int p3), .val (.int p4), .unset, .unset, .unset, .unset, .unset, .unset] [(.ref b2)])) t → Steps p.tables e below (s₁.setTop (entryFrame m #[(.int p1), (.int p2), (.int p3), (.int p4)] maxLocals)) t := fun t hk => K23 t (st24 _ hk)
  have K25 : ∀ t, Steps p.tables e below (T24.setTop (mkF m 68 #[.val (.int p1), .val (.int p2), .val (.int p3), .val (.int p4), .unset, .unset, .unset, .unset, .unset, .unset] [(.int (65535 : Int32)), (.int (11 : Int32)), (.ref b2), (.ref b2)])) t → Steps p.tables e below (s₁.setTop (entryFrame m #[(.int p1), (.int p2), (.int p3), (.int p4)] maxLocals)) t := by
    intro t hk
    refine K24 t ?_
    show Steps p.tables e below (T24.setTop (mkF m 63 #[.val (.int p1), .val (.int p2), .val (.int p3), .val (.int p4), .unset, .unset, .unset, .unset, .unset, .unset] [(.ref b2)])) _
    refine XS.dup X24.here hx rfl (hb hby at_63) rfl rfl ?_
    show Steps p.tables e below (T24.setTop (mkF m 64 #[.val (.int p1), .val (.int p2), .val (.int p3), .val (.int p4), .unset, .unset, .unset, .unset, .unset, .unset] [(.ref b2), (.ref b2)])) _
    refine XS.bipush X24.here hx rfl (hb hby at_64) ?_
    show Steps p.tables e below (T24.setTop (mkF m 66 #[.val (.int p1), .val (.int p2), .val (.int p3), .val (.int p4), .unset, .unset, .unset, .unset, .unset, .unset] [(.int (11 : Int32)), (.ref b2), (.ref b2)])) _
    refine X24.ldcInt hx hown (mvT hZ (hw _ (List.mem_of_getElem? (i := 7) rfl))) (g := (mkF m 66 #[.val (.int p1), .val (.int p2), .val (.int p3), .val (.int p4), .unset, .unset, .unset, .unset, .unset, .unset] [(.int (11 : Int32)), (.ref b2), (.ref b2)])) rfl (hb hby at_66) _ ?_
    show Steps p.tables e below (T24.setTop (mkF m 68 #[.val (.int p1), .val (.int p2), .val (.int p3), .val (.int p4), .unset, .unset, .unset, .unset, .unset, .unset] [(.int (65535 : Int32)), (.int (11 : Int32)), (.ref b2), (.ref b2)])) _
    exact hk
  obtain ⟨T26, h26, X26, e26, W26, V26', st26⟩ := own_stI X24 hx hZ e24 V24 (j := (11 : Int32)) 11 rfl ⟨by decide, by decide⟩ (by decide) (g := (mkF m 68 #[.val (.int p1), .val (.int p2), .val (.int p3), .val (.int p4), .unset, .unset, .unset, .unset, .unset, .unset] [(.int (65535 : Int32)), (.int (11 : Int32)), (.ref b2), (.ref b2)])) rfl rfl (hb hby at_68)
  have V26 : Arv Z h26 b2 c2 .int (17 : Int32) [(.int (0 : Int32)), (.int (9 : Int32)), (.int (10 : Int32)), (.int (13 : Int32)), (.int (32 : Int32)), (.int (55295 : Int32)), (.int (55296 : Int32)), (.int (57343 : Int32)), (.int (57344 : Int32)), (.int (65533 : Int32)), (.int (65534 : Int32)), (.int (65535 : Int32)), (.int (0 : Int32)), (.int (0 : Int32)), (.int (0 : Int32)), (.int (0 : Int32)), (.int (0 : Int32))] (.int (0 : Int32)) := V26'
  have N26 := Fr.snoc X26 N24 gb2
  have sz26 : n0 ≤ h26.size := Nat.le_trans sz24 (Keep.of_wr W26).1
  have K26 : ∀ t, Steps p.tables e below (T26.setTop (mkF m 69 #[.val (.int p1), .val (.int p2), .val (.int p3), .val (.int p4), .unset, .unset, .unset, .unset, .unset, .unset] [(.ref b2)])) t → Steps p.tables e below (s₁.setTop (entryFrame m #[(.int p1), (.int p2), (.int p3), (.int p4)] maxLocals)) t := fun t hk => K25 t (st26 _ hk)
  have K27 : ∀ t, Steps p.tables e below (T26.setTop (mkF m 74 #[.val (.int p1), .val (.int p2), .val (.int p3), .val (.int p4), .unset, .unset, .unset, .unset, .unset, .unset] [(.int (65536 : Int32)), (.int (12 : Int32)), (.ref b2), (.ref b2)])) t → Steps p.tables e below (s₁.setTop (entryFrame m #[(.int p1), (.int p2), (.int p3), (.int p4)] maxLocals)) t := by
    intro t hk
    refine K26 t ?_
    show Steps p.tables e below (T26.setTop (mkF m 69 #[.val (.int p1), .val (.int p2), .val (.int p3), .val (.int p4), .unset, .unset, .unset, .unset, .unset, .unset] [(.ref b2)])) _
    refine XS.dup X26.here hx rfl (hb hby at_69) rfl rfl ?_
    show Steps p.tables e below (T26.setTop (mkF m 70 #[.val (.int p1), .val (.int p2), .val (.int p3), .val (.int p4), .unset, .unset, .unset, .unset, .unset, .unset] [(.ref b2), (.ref b2)])) _
    refine XS.bipush X26.here hx rfl (hb hby at_70) ?_
    show Steps p.tables e below (T26.setTop (mkF m 72 #[.val (.int p1), .val (.int p2), .val (.int p3), .val (.int p4), .unset, .unset, .unset, .unset, .unset, .unset] [(.int (12 : Int32)), (.ref b2), (.ref b2)])) _
    refine X26.ldcInt hx hown (mvT hZ (hw _ (List.mem_of_getElem? (i := 8) rfl))) (g := (mkF m 72 #[.val (.int p1), .val (.int p2), .val (.int p3), .val (.int p4), .unset, .unset, .unset, .unset, .unset, .unset] [(.int (12 : Int32)), (.ref b2), (.ref b2)])) rfl (hb hby at_72) _ ?_
    show Steps p.tables e below (T26.setTop (mkF m 74 #[.val (.int p1), .val (.int p2), .val (.int p3), .val (.int p4), .unset, .unset, .unset, .unset, .unset, .unset] [(.int (65536 : Int32)), (.int (12 : Int32)), (.ref b2), (.ref b2)])) _
    exact hk
  obtain ⟨T28, h28, X28, e28, W28, V28', st28⟩ := own_stI X26 hx hZ e26 V26 (j := (12 : Int32)) 12 rfl ⟨by decide, by decide⟩ (by decide) (g := (mkF m 74 #[.val (.int p1), .val (.int p2), .val (.int p3), .val (.int p4), .unset, .unset, .unset, .unset, .unset, .unset] [(.int (65536 : Int32)), (.int (12 : Int32)), (.ref b2), (.ref b2)])) rfl rfl (hb hby at_74)
  have V28 : Arv Z h28 b2 c2 .int (17 : Int32) [(.int (0 : Int32)), (.int (9 : Int32)), (.int (10 : Int32)), (.int (13 : Int32)), (.int (32 : Int32)), (.int (55295 : Int32)), (.int (55296 : Int32)), (.int (57343 : Int32)), (.int (57344 : Int32)), (.int (65533 : Int32)), (.int (65534 : Int32)), (.int (65535 : Int32)), (.int (65536 : Int32)), (.int (0 : Int32)), (.int (0 : Int32)), (.int (0 : Int32)), (.int (0 : Int32))] (.int (0 : Int32)) := V28'
  have N28 := Fr.snoc X28 N26 gb2
  have sz28 : n0 ≤ h28.size := Nat.le_trans sz26 (Keep.of_wr W28).1
  have K28 : ∀ t, Steps p.tables e below (T28.setTop (mkF m 75 #[.val (.int p1), .val (.int p2), .val (.int p3), .val (.int p4), .unset, .unset, .unset, .unset, .unset, .unset] [(.ref b2)])) t → Steps p.tables e below (s₁.setTop (entryFrame m #[(.int p1), (.int p2), (.int p3), (.int p4)] maxLocals)) t := fun t hk => K27 t (st28 _ hk)
  have K29 : ∀ t, Steps p.tables e below (T28.setTop (mkF m 80 #[.val (.int p1), .val (.int p2), .val (.int p3), .val (.int p4), .unset, .unset, .unset, .unset, .unset, .unset] [(.int (1114111 : Int32)), (.int (13 : Int32)), (.ref b2), (.ref b2)])) t → Steps p.tables e below (s₁.setTop (entryFrame m #[(.int p1), (.int p2), (.int p3), (.int p4)] maxLocals)) t := by
    intro t hk
    refine K28 t ?_
    show Steps p.tables e below (T28.setTop (mkF m 75 #[.val (.int p1), .val (.int p2), .val (.int p3), .val (.int p4), .unset, .unset, .unset, .unset, .unset, .unset] [(.ref b2)])) _
    refine XS.dup X28.here hx rfl (hb hby at_75) rfl rfl ?_
    show Steps p.tables e below (T28.setTop (mkF m 76 #[.val (.int p1), .val (.int p2), .val (.int p3), .val (.int p4), .unset, .unset, .unset, .unset, .unset, .unset] [(.ref b2), (.ref b2)])) _
    refine XS.bipush X28.here hx rfl (hb hby at_76) ?_
    show Steps p.tables e below (T28.setTop (mkF m 78 #[.val (.int p1), .val (.int p2), .val (.int p3), .val (.int p4), .unset, .unset, .unset, .unset, .unset, .unset] [(.int (13 : Int32)), (.ref b2), (.ref b2)])) _
    refine X28.ldcInt hx hown (mvT hZ (hw _ (List.mem_of_getElem? (i := 9) rfl))) (g := (mkF m 78 #[.val (.int p1), .val (.int p2), .val (.int p3), .val (.int p4), .unset, .unset, .unset, .unset, .unset, .unset] [(.int (13 : Int32)), (.ref b2), (.ref b2)])) rfl (hb hby at_78) _ ?_
    show Steps p.tables e below (T28.setTop (mkF m 80 #[.val (.int p1), .val (.int p2), .val (.int p3), .val (.int p4), .unset, .unset, .unset, .unset, .unset, .unset] [(.int (1114111 : Int32)), (.int (13 : Int32)), (.ref b2), (.ref b2)])) _
    exact hk
  obtain ⟨T30, h30, X30, e30, W30, V30', st30⟩ := own_stI X28 hx hZ e28 V28 (j := (13 : Int32)) 13 rfl ⟨by decide, by decide⟩ (by decide) (g := (mkF m 80 #[.val (.int p1), .val (.int p2), .val (.int p3), .val (.int p4), .unset, .unset, .unset, .unset, .unset, .unset] [(.int (1114111 : Int32)), (.int (13 : Int32)), (.ref b2), (.ref b2)])) rfl rfl (hb hby at_80)
  have V30 : Arv Z h30 b2 c2 .int (17 : Int32) [(.int (0 : Int32)), (.int (9 : Int32)), (.int (10 : Int32)), (.int (13 : Int32)), (.int (32 : Int32)), (.int (55295 : Int32)), (.int (55296 : Int32)), (.int (57343 : Int32)), (.int (57344 : Int32)), (.int (65533 : Int32)), (.int (65534 : Int32)), (.int (65535 : Int32)), (.int (65536 : Int32)), (.int (1114111 : Int32)), (.int (0 : Int32)), (.int (0 : Int32)), (.int (0 : Int32))] (.int (0 : Int32)) := V30'
  have N30 := Fr.snoc X30 N28 gb2
  have sz30 : n0 ≤ h30.size := Nat.le_trans sz28 (Keep.of_wr W30).1
  have K30 : ∀ t, Steps p.tables e below (T30.setTop (mkF m 81 #[.val (.int p1), .val (.int p2), .val (.int p3), .val (.int p4), .unset, .unset, .unset, .unset, .unset, .unset] [(.ref b2)])) t → Steps p.tables e below (s₁.setTop (entryFrame m #[(.int p1), (.int p2), (.int p3), (.int p4)] maxLocals)) t := fun t hk => K29 t (st30 _ hk)
  have K31 : ∀ t, Steps p.tables e below (T30.setTop (mkF m 86 #[.val (.int p1), .val (.int p2), .val (.int p3), .val (.int p4), .unset, .unset, .unset, .unset, .unset, .unset] [(.int (1114112 : Int32)), (.int (14 : Int32)), (.ref b2), (.ref b2)])) t → Steps p.tables e below (s₁.setTop (entryFrame m #[(.int p1), (.int p2), (.int p3), (.int p4)] maxLocals)) t := by
    intro t hk
    refine K30 t ?_
    show Steps p.tables e below (T30.setTop (mkF m 81 #[.val (.int p1), .val (.int p2), .val (.int p3), .val (.int p4), .unset, .unset, .unset, .unset, .unset, .unset] [(.ref b2)])) _
    refine XS.dup X30.here hx rfl (hb hby at_81) rfl rfl ?_
    show Steps p.tables e below (T30.setTop (mkF m 82 #[.val (.int p1), .val (.int p2), .val (.int p3), .val (.int p4), .unset, .unset, .unset, .unset, .unset, .unset] [(.ref b2), (.ref b2)])) _
    refine XS.bipush X30.here hx rfl (hb hby at_82) ?_
    show Steps p.tables e below (T30.setTop (mkF m 84 #[.val (.int p1), .val (.int p2), .val (.int p3), .val (.int p4), .unset, .unset, .unset, .unset, .unset, .unset] [(.int (14 : Int32)), (.ref b2), (.ref b2)])) _
    refine X30.ldcInt hx hown (mvT hZ (hw _ (List.mem_of_getElem? (i := 10) rfl))) (g := (mkF m 84 #[.val (.int p1), .val (.int p2), .val (.int p3), .val (.int p4), .unset, .unset, .unset, .unset, .unset, .unset] [(.int (14 : Int32)), (.ref b2), (.ref b2)])) rfl (hb hby at_84) _ ?_
    show Steps p.tables e below (T30.setTop (mkF m 86 #[.val (.int p1), .val (.int p2), .val (.int p3), .val (.int p4), .unset, .unset, .unset, .unset, .unset, .unset] [(.int (1114112 : Int32)), (.int (14 : Int32)), (.ref b2), (.ref b2)])) _
    exact hk
  obtain ⟨T32, h32, X32, e32, W32, V32', st32⟩ := own_stI X30 hx hZ e30 V30 (j := (14 : Int32)) 14 rfl ⟨by decide, by decide⟩ (by decide) (g := (mkF m 86 #[.val (.int p1), .val (.int p2), .val (.int p3), .val (.int p4), .unset, .unset, .unset, .unset, .unset, .unset] [(.int (1114112 : Int32)), (.int (14 : Int32)), (.ref b2), (.ref b2)])) rfl rfl (hb hby at_86)
  have V32 : Arv Z h32 b2 c2 .int (17 : Int32) [(.int (0 : Int32)), (.int (9 : Int32)), (.int (10 : Int32)), (.int (13 : Int32)), (.int (32 : Int32)), (.int (55295 : Int32)), (.int (55296 : Int32)), (.int (57343 : Int32)), (.int (57344 : Int32)), (.int (65533 : Int32)), (.int (65534 : Int32)), (.int (65535 : Int32)), (.int (65536 : Int32)), (.int (1114111 : Int32)), (.int (1114112 : Int32)), (.int (0 : Int32)), (.int (0 : Int32))] (.int (0 : Int32)) := V32'
  have N32 := Fr.snoc X32 N30 gb2
  have sz32 : n0 ≤ h32.size := Nat.le_trans sz30 (Keep.of_wr W32).1
  have K32 : ∀ t, Steps p.tables e below (T32.setTop (mkF m 87 #[.val (.int p1), .val (.int p2), .val (.int p3), .val (.int p4), .unset, .unset, .unset, .unset, .unset, .unset] [(.ref b2)])) t → Steps p.tables e below (s₁.setTop (entryFrame m #[(.int p1), (.int p2), (.int p3), (.int p4)] maxLocals)) t := fun t hk => K31 t (st32 _ hk)
  have K33 : ∀ t, Steps p.tables e below (T32.setTop (mkF m 92 #[.val (.int p1), .val (.int p2), .val (.int p3), .val (.int p4), .unset, .unset, .unset, .unset, .unset, .unset] [(.int (-2147483648 : Int32)), (.int (15 : Int32)), (.ref b2), (.ref b2)])) t → Steps p.tables e below (s₁.setTop (entryFrame m #[(.int p1), (.int p2), (.int p3), (.int p4)] maxLocals)) t := by
    intro t hk
    refine K32 t ?_
    show Steps p.tables e below (T32.setTop (mkF m 87 #[.val (.int p1), .val (.int p2), .val (.int p3), .val (.int p4), .unset, .unset, .unset, .unset, .unset, .unset] [(.ref b2)])) _
    refine XS.dup X32.here hx rfl (hb hby at_87) rfl rfl ?_
    show Steps p.tables e below (T32.setTop (mkF m 88 #[.val (.int p1), .val (.int p2), .val (.int p3), .val (.int p4), .unset, .unset, .unset, .unset, .unset, .unset] [(.ref b2), (.ref b2)])) _
    refine XS.bipush X32.here hx rfl (hb hby at_88) ?_
    show Steps p.tables e below (T32.setTop (mkF m 90 #[.val (.int p1), .val (.int p2), .val (.int p3), .val (.int p4), .unset, .unset, .unset, .unset, .unset, .unset] [(.int (15 : Int32)), (.ref b2), (.ref b2)])) _
    refine X32.ldcInt hx hown (mvT hZ (hw _ (List.mem_of_getElem? (i := 11) rfl))) (g := (mkF m 90 #[.val (.int p1), .val (.int p2), .val (.int p3), .val (.int p4), .unset, .unset, .unset, .unset, .unset, .unset] [(.int (15 : Int32)), (.ref b2), (.ref b2)])) rfl (hb hby at_90) _ ?_
    show Steps p.tables e below (T32.setTop (mkF m 92 #[.val (.int p1), .val (.int p2), .val (.int p3), .val (.int p4), .unset, .unset, .unset, .unset, .unset, .unset] [(.int (-2147483648 : Int32)), (.int (15 : Int32)), (.ref b2), (.ref b2)])) _
    exact hk
  obtain ⟨T34, h34, X34, e34, W34, V34', st34⟩ := own_stI X32 hx hZ e32 V32 (j := (15 : Int32)) 15 rfl ⟨by decide, by decide⟩ (by decide) (g := (mkF m 92 #[.val (.int p1), .val (.int p2), .val (.int p3), .val (.int p4), .unset, .unset, .unset, .unset, .unset, .unset] [(.int (-2147483648 : Int32)), (.int (15 : Int32)), (.ref b2), (.ref b2)])) rfl rfl (hb hby at_92)
  have V34 : Arv Z h34 b2 c2 .int (17 : Int32) [(.int (0 : Int32)), (.int (9 : Int32)), (.int (10 : Int32)), (.int (13 : Int32)), (.int (32 : Int32)), (.int (55295 : Int32)), (.int (55296 : Int32)), (.int (57343 : Int32)), (.int (57344 : Int32)), (.int (65533 : Int32)), (.int (65534 : Int32)), (.int (65535 : Int32)), (.int (65536 : Int32)), (.int (1114111 : Int32)), (.int (1114112 : Int32)), (.int (-2147483648 : Int32)), (.int (0 : Int32))] (.int (0 : Int32)) := V34'
  have N34 := Fr.snoc X34 N32 gb2
  have sz34 : n0 ≤ h34.size := Nat.le_trans sz32 (Keep.of_wr W34).1
  have K34 : ∀ t, Steps p.tables e below (T34.setTop (mkF m 93 #[.val (.int p1), .val (.int p2), .val (.int p3), .val (.int p4), .unset, .unset, .unset, .unset, .unset, .unset] [(.ref b2)])) t → Steps p.tables e below (s₁.setTop (entryFrame m #[(.int p1), (.int p2), (.int p3), (.int p4)] maxLocals)) t := fun t hk => K33 t (st34 _ hk)
  have K35 : ∀ t, Steps p.tables e below (T34.setTop (mkF m 98 #[.val (.int p1), .val (.int p2), .val (.int p3), .val (.int p4), .unset, .unset, .unset, .unset, .unset, .unset] [(.int (2147483647 : Int32)), (.int (16 : Int32)), (.ref b2), (.ref b2)])) t → Steps p.tables e below (s₁.setTop (entryFrame m #[(.int p1), (.int p2), (.int p3), (.int p4)] maxLocals)) t := by
    intro t hk
    refine K34 t ?_
    show Steps p.tables e below (T34.setTop (mkF m 93 #[.val (.int p1), .val (.int p2), .val (.int p3), .val (.int p4), .unset, .unset, .unset, .unset, .unset, .unset] [(.ref b2)])) _
    refine XS.dup X34.here hx rfl (hb hby at_93) rfl rfl ?_
    show Steps p.tables e below (T34.setTop (mkF m 94 #[.val (.int p1), .val (.int p2), .val (.int p3), .val (.int p4), .unset, .unset, .unset, .unset, .unset, .unset] [(.ref b2), (.ref b2)])) _
    refine XS.bipush X34.here hx rfl (hb hby at_94) ?_
    show Steps p.tables e below (T34.setTop (mkF m 96 #[.val (.int p1), .val (.int p2), .val (.int p3), .val (.int p4), .unset, .unset, .unset, .unset, .unset, .unset] [(.int (16 : Int32)), (.ref b2), (.ref b2)])) _
    refine X34.ldcInt hx hown (mvT hZ (hw _ (List.mem_of_getElem? (i := 12) rfl))) (g := (mkF m 96 #[.val (.int p1), .val (.int p2), .val (.int p3), .val (.int p4), .unset, .unset, .unset, .unset, .unset, .unset] [(.int (16 : Int32)), (.ref b2), (.ref b2)])) rfl (hb hby at_96) _ ?_
    show Steps p.tables e below (T34.setTop (mkF m 98 #[.val (.int p1), .val (.int p2), .val (.int p3), .val (.int p4), .unset, .unset, .unset, .unset, .unset, .unset] [(.int (2147483647 : Int32)), (.int (16 : Int32)), (.ref b2), (.ref b2)])) _
    exact hk
  obtain ⟨T36, h36, X36, e36, W36, V36', st36⟩ := own_stI X34 hx hZ e34 V34 (j := (16 : Int32)) 16 rfl ⟨by decide, by decide⟩ (by decide) (g := (mkF m 98 #[.val (.int p1), .val (.int p2), .val (.int p3), .val (.int p4), .unset, .unset, .unset, .unset, .unset, .unset] [(.int (2147483647 : Int32)), (.int (16 : Int32)), (.ref b2), (.ref b2)])) rfl rfl (hb hby at_98)
  have V36 : Arv Z h36 b2 c2 .int (17 : Int32) [(.int (0 : Int32)), (.int (9 : Int32)), (.int (10 : Int32)), (.int (13 : Int32)), (.int (32 : Int32)), (.int (55295 : Int32)), (.int (55296 : Int32)), (.int (57343 : Int32)), (.int (57344 : Int32)), (.int (65533 : Int32)), (.int (65534 : Int32)), (.int (65535 : Int32)), (.int (65536 : Int32)), (.int (1114111 : Int32)), (.int (1114112 : Int32)), (.int (-2147483648 : Int32)), (.int (2147483647 : Int32))] (.int (0 : Int32)) := V36'
  have N36 := Fr.snoc X36 N34 gb2
  have sz36 : n0 ≤ h36.size := Nat.le_trans sz34 (Keep.of_wr W36).1
  have K36 : ∀ t, Steps p.tables e below (T36.setTop (mkF m 99 #[.val (.int p1), .val (.int p2), .val (.int p3), .val (.int p4), .unset, .unset, .unset, .unset, .unset, .unset] [(.ref b2)])) t → Steps p.tables e below (s₁.setTop (entryFrame m #[(.int p1), (.int p2), (.int p3), (.int p4)] maxLocals)) t := fun t hk => K35 t (st36 _ hk)
  have K37 : ∀ t, Steps p.tables e below (T36.setTop (mkF m 110 #[.val (.int p1), .val (.int p2), .val (.int p3), .val (.int p4), .val (.ref b2), .unset, .unset, .unset, .unset, .unset] [(.int ((p2 &&& (2147483647 : Int32)) % (17 : Int32))), (.ref b2)])) t → Steps p.tables e below (s₁.setTop (entryFrame m #[(.int p1), (.int p2), (.int p3), (.int p4)] maxLocals)) t := by
    intro t hk
    refine K36 t ?_
    show Steps p.tables e below (T36.setTop (mkF m 99 #[.val (.int p1), .val (.int p2), .val (.int p3), .val (.int p4), .unset, .unset, .unset, .unset, .unset, .unset] [(.ref b2)])) _
    refine XS.astore X36.here hx rfl (hb hby at_99) rfl rfl (l' := #[.val (.int p1), .val (.int p2), .val (.int p3), .val (.int p4), .val (.ref b2), .unset, .unset, .unset, .unset, .unset]) rfl ?_
    show Steps p.tables e below (T36.setTop (mkF m 101 #[.val (.int p1), .val (.int p2), .val (.int p3), .val (.int p4), .val (.ref b2), .unset, .unset, .unset, .unset, .unset] [])) _
    refine XS.aload X36.here hx rfl (hb hby at_101) rfl rfl ?_
    show Steps p.tables e below (T36.setTop (mkF m 103 #[.val (.int p1), .val (.int p2), .val (.int p3), .val (.int p4), .val (.ref b2), .unset, .unset, .unset, .unset, .unset] [(.ref b2)])) _
    refine XS.iloadN X36.here hx rfl (hb hby at_103) rfl ?_
    show Steps p.tables e below (T36.setTop (mkF m 104 #[.val (.int p1), .val (.int p2), .val (.int p3), .val (.int p4), .val (.ref b2), .unset, .unset, .unset, .unset, .unset] [(.int p2), (.ref b2)])) _
    refine X36.ldcInt hx hown (mvT hZ (hw _ (List.mem_of_getElem? (i := 12) rfl))) (g := (mkF m 104 #[.val (.int p1), .val (.int p2), .val (.int p3), .val (.int p4), .val (.ref b2), .unset, .unset, .unset, .unset, .unset] [(.int p2), (.ref b2)])) rfl (hb hby at_104) _ ?_
    show Steps p.tables e below (T36.setTop (mkF m 106 #[.val (.int p1), .val (.int p2), .val (.int p3), .val (.int p4), .val (.ref b2), .unset, .unset, .unset, .unset, .unset] [(.int (2147483647 : Int32)), (.int p2), (.ref b2)])) _
    refine XS.iand X36.here hx rfl (hb hby at_106) rfl ?_
    show Steps p.tables e below (T36.setTop (mkF m 107 #[.val (.int p1), .val (.int p2), .val (.int p3), .val (.int p4), .val (.ref b2), .unset, .unset, .unset, .unset, .unset] [(.int (p2 &&& (2147483647 : Int32))), (.ref b2)])) _
    refine XS.bipush X36.here hx rfl (hb hby at_107) ?_
    show Steps p.tables e below (T36.setTop (mkF m 109 #[.val (.int p1), .val (.int p2), .val (.int p3), .val (.int p4), .val (.ref b2), .unset, .unset, .unset, .unset, .unset] [(.int (17 : Int32)), (.int (p2 &&& (2147483647 : Int32))), (.ref b2)])) _
    refine XS.irem X36.here hx rfl (hb hby at_109) rfl (by decide) ?_
    rw [Jvm.irem_eq_mod (p2 &&& (2147483647 : Int32)) (17 : Int32)]
    show Steps p.tables e below (T36.setTop (mkF m 110 #[.val (.int p1), .val (.int p2), .val (.int p3), .val (.int p4), .val (.ref b2), .unset, .unset, .unset, .unset, .unset] [(.int ((p2 &&& (2147483647 : Int32)) % (17 : Int32))), (.ref b2)])) _
    exact hk
  obtain ⟨w, hv_w, st38⟩ := own_ldI X36 hx hZ e36 V36 (j := ((p2 &&& (2147483647 : Int32)) % (17 : Int32))) (own_idx p2) (g := (mkF m 110 #[.val (.int p1), .val (.int p2), .val (.int p3), .val (.int p4), .val (.ref b2), .unset, .unset, .unset, .unset, .unset] [(.int ((p2 &&& (2147483647 : Int32)) % (17 : Int32))), (.ref b2)])) rfl rfl (hb hby at_110)
  have K38 : ∀ t, Steps p.tables e below (T36.setTop (mkF m 111 #[.val (.int p1), .val (.int p2), .val (.int p3), .val (.int p4), .val (.ref b2), .unset, .unset, .unset, .unset, .unset] [(.int w)])) t → Steps p.tables e below (s₁.setTop (entryFrame m #[(.int p1), (.int p2), (.int p3), (.int p4)] maxLocals)) t := fun t hk => K37 t (st38 _ hk)
  have K39 : ∀ t, Steps p.tables e below (T36.setTop (mkF m 128 #[.val (.int p1), .val (.int p2), .val (.int p3), .val (.int p4), .val (.ref b2), .val (.int (w + (((p3 &&& (2147483647 : Int32)) % (3 : Int32)) - (1 : Int32)))), .val (.int (p4 &&& (63 : Int32))), .unset, .unset, .unset] [])) t → Steps p.tables e below (s₁.setTop (entryFrame m #[(.int p1), (.int p2), (.int p3), (.int p4)] maxLocals)) t := by
    intro t hk
    refine K38 t ?_
    show Steps p.tables e below (T36.setTop (mkF m 111 #[.val (.int p1), .val (.int p2), .val (.int p3), .val (.int p4), .val (.ref b2), .unset, .unset, .unset, .unset, .unset] [(.int w)])) _
    refine XS.iloadN X36.here hx rfl (hb hby at_111) rfl ?_
    show Steps p.tables e below (T36.setTop (mkF m 112 #[.val (.int p1), .val (.int p2), .val (.int p3), .val (.int p4), .val (.ref b2), .unset, .unset, .unset, .unset, .unset] [(.int p3), (.int w)])) _
    refine X36.ldcInt hx hown (mvT hZ (hw _ (List.mem_of_getElem? (i := 12) rfl))) (g := (mkF m 112 #[.val (.int p1), .val (.int p2), .val (.int p3), .val (.int p4), .val (.ref b2), .unset, .unset, .unset, .unset, .unset] [(.int p3), (.int w)])) rfl (hb hby at_112) _ ?_
    show Steps p.tables e below (T36.setTop (mkF m 114 #[.val (.int p1), .val (.int p2), .val (.int p3), .val (.int p4), .val (.ref b2), .unset, .unset, .unset, .unset, .unset] [(.int (2147483647 : Int32)), (.int p3), (.int w)])) _
    refine XS.iand X36.here hx rfl (hb hby at_114) rfl ?_
    show Steps p.tables e below (T36.setTop (mkF m 115 #[.val (.int p1), .val (.int p2), .val (.int p3), .val (.int p4), .val (.ref b2), .unset, .unset, .unset, .unset, .unset] [(.int (p3 &&& (2147483647 : Int32))), (.int w)])) _
    refine XS.iconst X36.here hx rfl (hb hby at_115) ?_
    show Steps p.tables e below (T36.setTop (mkF m 116 #[.val (.int p1), .val (.int p2), .val (.int p3), .val (.int p4), .val (.ref b2), .unset, .unset, .unset, .unset, .unset] [(.int (3 : Int32)), (.int (p3 &&& (2147483647 : Int32))), (.int w)])) _
    refine XS.irem X36.here hx rfl (hb hby at_116) rfl (by decide) ?_
    rw [Jvm.irem_eq_mod (p3 &&& (2147483647 : Int32)) (3 : Int32)]
    show Steps p.tables e below (T36.setTop (mkF m 117 #[.val (.int p1), .val (.int p2), .val (.int p3), .val (.int p4), .val (.ref b2), .unset, .unset, .unset, .unset, .unset] [(.int ((p3 &&& (2147483647 : Int32)) % (3 : Int32))), (.int w)])) _
    refine XS.iconst X36.here hx rfl (hb hby at_117) ?_
    show Steps p.tables e below (T36.setTop (mkF m 118 #[.val (.int p1), .val (.int p2), .val (.int p3), .val (.int p4), .val (.ref b2), .unset, .unset, .unset, .unset, .unset] [(.int (1 : Int32)), (.int ((p3 &&& (2147483647 : Int32)) % (3 : Int32))), (.int w)])) _
    refine XS.isub X36.here hx rfl (hb hby at_118) rfl ?_
    show Steps p.tables e below (T36.setTop (mkF m 119 #[.val (.int p1), .val (.int p2), .val (.int p3), .val (.int p4), .val (.ref b2), .unset, .unset, .unset, .unset, .unset] [(.int (((p3 &&& (2147483647 : Int32)) % (3 : Int32)) - (1 : Int32))), (.int w)])) _
    refine XS.iadd X36.here hx rfl (hb hby at_119) rfl ?_
    show Steps p.tables e below (T36.setTop (mkF m 120 #[.val (.int p1), .val (.int p2), .val (.int p3), .val (.int p4), .val (.ref b2), .unset, .unset, .unset, .unset, .unset] [(.int (w + (((p3 &&& (2147483647 : Int32)) % (3 : Int32)) - (1 : Int32))))])) _
    refine XS.istore X36.here hx rfl (hb hby at_120) rfl (l' := #[.val (.int p1), .val (.int p2), .val (.int p3), .val (.int p4), .val (.ref b2), .val (.int (w + (((p3 &&& (2147483647 : Int32)) % (3 : Int32)) - (1 : Int32)))), .unset, .unset, .unset, .unset]) rfl ?_
    show Steps p.tables e below (T36.setTop (mkF m 122 #[.val (.int p1), .val (.int p2), .val (.int p3), .val (.int p4), .val (.ref b2), .val (.int (w + (((p3 &&& (2147483647 : Int32)) % (3 : Int32)) - (1 : Int32)))), .unset, .unset, .unset, .unset] [])) _
    refine XS.iloadN X36.here hx rfl (hb hby at_122) rfl ?_
    show Steps p.tables e below (T36.setTop (mkF m 123 #[.val (.int p1), .val (.int p2), .val (.int p3), .val (.int p4), .val (.ref b2), .val (.int (w + (((p3 &&& (2147483647 : Int32)) % (3 : Int32)) - (1 : Int32)))), .unset, .unset, .unset, .unset] [(.int p4)])) _
    refine XS.bipush X36.here hx rfl (hb hby at_123) ?_
    show Steps p.tables e below (T36.setTop (mkF m 125 #[.val (.int p1), .val (.int p2), .val (.int p3), .val (.int p4), .val (.ref b2), .val (.int (w + (((p3 &&& (2147483647 : Int32)) % (3 : Int32)) - (1 : Int32)))), .unset, .unset, .unset, .unset] [(.int (63 : Int32)), (.int p4)])) _
    refine XS.iand X36.here hx rfl (hb hby at_125) rfl ?_
    show Steps p.tables e below (T36.setTop (mkF m 126 #[.val (.int p1), .val (.int p2), .val (.int p3), .val (.int p4), .val (.ref b2), .val (.int (w + (((p3 &&& (2147483647 : Int32)) % (3 : Int32)) - (1 : Int32)))), .unset, .unset, .unset, .unset] [(.int (p4 &&& (63 : Int32)))])) _
    refine XS.istore X36.here hx rfl (hb hby at_126) rfl (l' := #[.val (.int p1), .val (.int p2), .val (.int p3), .val (.int p4), .val (.ref b2), .val (.int (w + (((p3 &&& (2147483647 : Int32)) % (3 : Int32)) - (1 : Int32)))), .val (.int (p4 &&& (63 : Int32))), .unset, .unset, .unset]) rfl ?_
    show Steps p.tables e below (T36.setTop (mkF m 128 #[.val (.int p1), .val (.int p2), .val (.int p3), .val (.int p4), .val (.ref b2), .val (.int (w + (((p3 &&& (2147483647 : Int32)) % (3 : Int32)) - (1 : Int32)))), .val (.int (p4 &&& (63 : Int32))), .unset, .unset, .unset] [])) _
    exact hk
  exact own_tail X36 hx hby hml hown hZ hw Bd.returns Bd.notSynchronized p1 p2 p3 p4 _ _ _ e36 sz36 N36 (by decide) (by decide) K39
set_option maxRecDepth 65536 in
set_option maxHeartbeats 40000000 in
theorem comes_1 {Post : Tables → Env → Array Value → State → Outcome → State → Prop} (hpost : ∀ tb e args s v u, (limb_1_1.after args s (.returned v) u = true ∧ limb_1_2.after args s (.returned v) u = true ∧ True) → FrameEnd s (.returned v) u (Jvm.fieldLocs frame_1_writes args s ++ Jvm.arrayLocs frame_1_arrays args s ++ Jvm.staticLocs frame_1_statics s) 16 128 → Post tb e args s (.returned v) u) :
    ArmFor flags0 classFile x code maxLocals ret World_1 tables_1 room_1 Calls_1 rest_1 Pre_1 Post := by
  intro l hfl _ _ p e ha hc hk s m args below hf hA hF happ hP
  obtain ⟨hcalls, hrest, hpre⟩ := hP
  obtain ⟨-, -, -, hnamed, -, -, -, hat⟩ := (Spec.applies_iff hf).mp happ
  obtain ⟨hg, hn⟩ := and_e (Cond.before_iff.mp (show (Jvm.Cond.and given_1 narrow_1).before args s = true from hpre))
  obtain ⟨gc, gr⟩ := and_e hg
  obtain ⟨ga0, gr⟩ := and_e gr
  obtain ⟨ga1, gr⟩ := and_e gr
  obtain ⟨ga2, gr⟩ := and_e gr
  obtain ⟨w0, w1, w2, w3, rfl⟩ : ∃ w0 w1 w2 w3 : Value, args = #[w0, w1, w2, w3] := by
    have hs : args.size = 4 := by simpa [Cond.value, given_1] using gc
    obtain ⟨L⟩ := args
    match L, hs with
    | [w0, w1, w2, w3], _ => exact ⟨w0, w1, w2, w3, rfl⟩
  have hw := fun d (hd : d ∈ tables_1) => atoms_spec (ws := Jvm.Cond.code x code maxLocals ret :: tables_1) hat d (List.mem_cons_of_mem _ hd)
  have hfit : Fit s := fun {y c} hc i hi => by
    obtain ⟨ha, rfl⟩ := Array.getElem?_eq_some_iff.mp hc
    have q := List.all_eq_true.mp ((Array.all_eq_true_iff_forall_mem.mp hF) _ (Array.getElem_mem ha)) i (List.mem_range.mpr hi)
    simpa [Array.getElem?_eq_getElem hi] using q
  obtain ⟨i0, ei0⟩ := is_v ga0
  obtain rfl : w0 = (.int i0) := Option.some.inj ei0
  obtain ⟨i1, ei1⟩ := is_v ga1
  obtain rfl : w1 = (.int i1) := Option.some.inj ei1
  obtain ⟨i2, ei2⟩ := is_v ga2
  obtain rfl : w2 = (.int i2) := Option.some.inj ei2
  obtain ⟨i3, ei3⟩ := is_v gr
  obtain rfl : w3 = (.int i3) := Option.some.inj ei3
  obtain ⟨n, o, h1, h2, h3, _, L, rfl, ⟨rfl, N⟩, hq⟩ := rm0 l s _ hw tables_1 i0 i1 i2 i3  s.heap s.heap.size (Nat.le_refl _)  p e ha hc hk s m _ below hf ((Spec.applies_iff_loose hf).mp happ).1 ⟨rfl, State.Warmed39.refl s, rfl⟩ trivial
  refine ⟨n, _, h1, h2, h3, hpost _ _ _ _ _ _ ⟨Cond.after_iff.mpr rfl, Cond.after_iff.mpr (eq_i res_at (Term.int_eval (1)) rfl), trivial⟩ ⟨hq.1, hq.2.1, (hq.2.2.sift fun y hy => Or.inr (N y hy)).mono (by decide) (by decide)⟩⟩
theorem main_1_1 : Claimed_1_1 := comes_1 fun _ _ _ _ _ _ h hF => ⟨h.1, hF⟩
theorem main_1_2 : Claimed_1_2 := comes_1 fun _ _ _ _ _ _ h hF => ⟨h.2.1, hF⟩
end Jvm.Pilot.@@N@@
namespace Jvm.Pilot.@@N@@
open Jvm Jvm.ClassFile Sem Op Lib Jvm.Free Jvm.Stand Jvm.Pilot.@@N@@.Jvm.D
/-! MADE BY PROGRAM (witnessworld.py) out of the Statement's table words and the real class files: 9 classes; the members and pool entries that the words name. The judged class is class 1, her method 2. -/
namespace start1
open Jvm.ClassFile
def u (s : String) : CpInfo := .utf8 (stringToUtf16 s)
/-- a pool by its gaps: so many unusable entries, then the entry; so many at the end -/
def gap : Nat → List CpInfo → List CpInfo
  | 0, r => r
  | n + 1, r => .unusable :: gap n r
def poolList (es : List (Nat × CpInfo)) (last : Nat) : List CpInfo := es.foldr (fun e r => gap e.1 (e.2 :: r)) (gap last [])
def pool (es : List (Nat × CpInfo)) (last : Nat) : Array CpInfo := ⟨poolList es last⟩
def fileOf (pool : Array CpInfo) (this : Nat) (attrs : Array Attribute := #[]) (ms : Array MethodInfo := #[]) (fl : Nat := 33) (sup : Nat := 0) (ifs : Array Nat := #[]) (fds : Array FieldInfo := #[]) : ClassFile where
  minorVersion := 0
  majorVersion := 65
  constantPool := pool
  accessFlags := fl
  thisClass := this
  superClass := sup
  interfaces := ifs
  fields := fds
  methods := ms
  attributes := attrs
def plain (name : String) (sup : Option ClassId) : Class where
  name := name
  kind := .ordinary
  loader := none
  accessFlags := 33
  super := sup
  interfaces := #[]
  cf := none
  fields := #[]
  methods := #[]
  instanceTypes := #[]
  staticTypes := #[]
  resolved := #[]
  callSites := []
  init := .initialized
  statics := none
  mirror := none

def pool0 : Array CpInfo := pool [(5, u "<init>"), (0, u "()V"), (1, .class_ 10), (1, u "java/lang/Object")] 113

def k0m0 : Method := { name := "<init>", desc := "()V", sig := { parameters := [], returnType := none }, accessFlags := 1, code := none }
/-- java/lang/Object -/
def k0 : Class := { plain "java/lang/Object" none with
  accessFlags := 33
  interfaces := #[]
  cf := some (fileOf pool0 8 #[] #[{ accessFlags := 1, nameIndex := 5, descriptorIndex := 6, attributes := #[] }] 33 0 #[] #[])
  fields := #[]
  methods := #[k0m0]
  instanceTypes := #[]
  staticTypes := #[]
  resolved := Array.replicate 124 none
  statics := none }

def pool1 : Array CpInfo := pool [(2, .class_ 4), (1, u "java/lang/Object"), (0, u "<init>"), (0, u "()V"), (0, .integer 1114111), (0, .integer 55296), (0, .integer 57343), (0, .integer 65534), (0, .integer 65535), (0, .integer 55295), (0, .integer 57344), (0, .integer 65533), (0, .integer 65536), (0, .integer 1114112), (2, .integer 2147483648), (0, .integer 2147483647), (0, .methodref 22 23), (0, .class_ 24), (0, .nameAndType 25 26), (0, u "com/example/querent/querent/xdm/XmlChars"), (0, u "isChar"), (0, u "(I)Z"), (0, .methodref 28 29), (0, .class_ 30), (0, .nameAndType 31 26), (0, u "com/example/querent/querent/xdm/XmlCharsIsCharPinLaw"), (0, u "reference"), (3, u "law"), (0, u "(IIII)Z")] 4

def k1m0 : Method := { name := "<init>", desc := "()V", sig := { parameters := [], returnType := none }, accessFlags := 2, code := none }
def k1c1 : Code := { maxStack := 2, maxLocals := 1, code := method_2_code, exceptionTable := #[], attributes := #[] }
def k1m1 : Method := { name := "reference", desc := "(I)Z", sig := { parameters := [.int], returnType := some .boolean }, accessFlags := 10, code := some k1c1 }
def k1c2 : Code := { maxStack := 4, maxLocals := 10, code := code, exceptionTable := #[], attributes := #[] }
def k1m2 : Method := { name := "law", desc := "(IIII)Z", sig := { parameters := [.int, .int, .int, .int], returnType := some .boolean }, accessFlags := 9, code := some k1c2 }
/-- com/example/querent/querent/xdm/XmlCharsIsCharPinLaw -/
def k1 : Class := { plain "com/example/querent/querent/xdm/XmlCharsIsCharPinLaw" (some 0) with
  accessFlags := 49
  interfaces := #[]
  cf := some (fileOf pool1 28 #[] #[{ accessFlags := 2, nameIndex := 5, descriptorIndex := 6, attributes := #[] }, { accessFlags := 10, nameIndex := 31, descriptorIndex := 26, attributes := #[] }, { accessFlags := 9, nameIndex := 35, descriptorIndex := 36, attributes := #[] }] 49 2 #[] #[])
  fields := #[]
  methods := #[k1m0, k1m1, k1m2]
  instanceTypes := #[]
  staticTypes := #[]
  resolved := Array.replicate 41 none
  statics := none }

def pool2 : Array CpInfo := pool [(2, .class_ 4), (1, u "java/lang/Object"), (0, u "<init>"), (0, u "()V"), (0, .integer 55295), (0, .integer 57344), (0, .integer 65533), (0, .integer 65536), (0, .integer 1114111), (16, .class_ 30), (1, u "com/example/querent/querent/xdm/XmlChars"), (1, u "(I)Z"), (34, u "isChar")] 7

def k2m0 : Method := { name := "<init>", desc := "()V", sig := { parameters := [], returnType := none }, accessFlags := 2, code := none }
def k2c1 : Code := { maxStack := 2, maxLocals := 1, code := prog_235_method_2_code, exceptionTable := #[], attributes := #[] }
def k2m1 : Method := { name := "isChar", desc := "(I)Z", sig := { parameters := [.int], returnType := some .boolean }, accessFlags := 9, code := some k2c1 }
/-- com/example/querent/querent/xdm/XmlChars -/
def k2 : Class := { plain "com/example/querent/querent/xdm/XmlChars" (some 0) with
  accessFlags := 49
  interfaces := #[]
  cf := some (fileOf pool2 28 #[] #[{ accessFlags := 2, nameIndex := 5, descriptorIndex := 6, attributes := #[] }, { accessFlags := 9, nameIndex := 67, descriptorIndex := 32, attributes := #[] }] 49 2 #[] #[])
  fields := #[]
  methods := #[k2m0, k2m1]
  instanceTypes := #[]
  staticTypes := #[]
  resolved := Array.replicate 75 none
  statics := none }

def pool3 : Array CpInfo := pool [(1, u "java/lang/Cloneable"), (0, .class_ 1), (0, u "java/lang/Object"), (0, .class_ 3)] 3

/-- java/lang/Cloneable -/
def k3 : Class := { plain "java/lang/Cloneable" (some 0) with
  accessFlags := 1537
  interfaces := #[]
  cf := some (fileOf pool3 2 #[] #[] 1537 4 #[] #[])
  fields := #[]
  methods := #[]
  instanceTypes := #[]
  staticTypes := #[]
  resolved := Array.replicate 8 none
  statics := none }

def pool4 : Array CpInfo := pool [(1, u "java/io/Serializable"), (0, .class_ 1), (0, u "java/lang/Object"), (0, .class_ 3)] 3

/-- java/io/Serializable -/
def k4 : Class := { plain "java/io/Serializable" (some 0) with
  accessFlags := 1537
  interfaces := #[]
  cf := some (fileOf pool4 2 #[] #[] 1537 4 #[] #[])
  fields := #[]
  methods := #[]
  instanceTypes := #[]
  staticTypes := #[]
  resolved := Array.replicate 8 none
  statics := none }

/-- the primitive byte -/
def k5 : Class := { plain "byte" none with kind := .primitive 'B', accessFlags := 0x411 }
/-- [B -/
def k6 : Class := { plain "[B" (some 0) with kind := .array 5 .byte, interfaces := #[3, 4], accessFlags := 1041 }

/-- the primitive int -/
def k7 : Class := { plain "int" none with kind := .primitive 'I', accessFlags := 0x411 }
/-- [I -/
def k8 : Class := { plain "[I" (some 0) with kind := .array 7 .int, interfaces := #[3, 4], accessFlags := 1041 }

def heap : Heap := #[]
def classes : Array Class := #[k0, k1, k2, k3, k4, k5, k6, k7, k8]
def interned : List (Array UInt16 × Addr) := []
def slotsUsed : Nat := 0
def theMethod : MethodId := ⟨1, 2⟩
def args0 : Array Value := #[.int 5, .int 1, .int 2, .int 3]
def aboutOver (below : List Frame) : State where
  vm := { classes := classes, interned := interned.toArray }
  heap := heap
  slotsUsed := slotsUsed
  threads := #[{ frames := .invoking theMethod args0 :: below }]
def below0 : List Frame := [.native { method := ⟨0, 0⟩, args := #[] }]
def about1 : State := aboutOver below0
def p0 : Program := .bare "" "" ""
def e0 : Env := launch0.env 0 0 0
theorem w_frames : about1.frames = Frame.invoking theMethod args0 :: below0 := rfl
set_option maxRecDepth 65536 in
theorem w_args : argsFit about1.vm theMethod args0 = true := by decide +kernel
set_option maxRecDepth 65536 in
theorem w_heap : heapFits about1 = true := by decide +kernel
set_option maxRecDepth 65536 in
theorem w_runnable : about1.curStatus? = some .runnable := by decide +kernel
set_option maxRecDepth 65536 in
theorem w_alone : about1.alone = true := by decide +kernel
set_option maxRecDepth 65536 in
theorem w_named : about1.methodNamed? x = some theMethod := by decide +kernel
set_option maxRecDepth 65536 in
theorem w_hears : about1.hears theMethod below0 = true := by decide +kernel
set_option maxRecDepth 65536 in
theorem w_ripe : about1.ripe theMethod args0 below0 = true := by decide +kernel
theorem w_running : about1.status = .running := rfl
set_option maxRecDepth 65536 in
theorem w_room : about1.hasRoom e0.platform room_1 = true :=
  launch0.hasRoom_least _ room_1 (by decide +kernel) (by decide +kernel) (by decide +kernel) (by decide +kernel) (by decide +kernel) (by decide +kernel)
theorem allAtoms_all (ts : List Jvm.Cond) (a : Array Jvm.Value) (st : Jvm.State) : (allAtoms ts).before a st = ts.all (fun c => c.before a st) := by
  induction ts with
  | nil => rfl
  | cons c t ih =>
    show (Jvm.Cond.and c (allAtoms t)).before a st = _
    rw [Jvm.Cond.before_and, ih, List.all_cons]
def words1 : List Jvm.Cond := Jvm.Cond.code x code maxLocals ret :: tables_1
/-- a 'code' word, met by the world's own term for the bytes: nothing is compared byte by byte -/
theorem code_word {y : MethodName} {bytes : ByteArray} {mx : Nat} {rt : Option FieldType} {a : Array Value} {s : State} {m : MethodId} {meth : Method} {c : Code} (h1 : s.methodNamed? y = some m) (h2 : s.vm.method? m = some meth) (h3 : meth.code = some c) (h4 : c.code = bytes)
    (h5 : (c.maxLocals == mx && c.exceptionTable.isEmpty && decide (c.maxStack ≤ mostOperands) && decide (meth.sig.returnType = rt) && !meth.locks && decide (parseMethodDescriptor y.desc = some meth.sig)) = true) : (Jvm.Cond.code y bytes mx rt).before a s = true := by
  simp only [Bool.and_eq_true, beq_iff_eq, Bool.not_eq_true', decide_eq_true_eq] at h5
  obtain ⟨⟨⟨⟨⟨g1, g2⟩, g3⟩, g4⟩, g5⟩, g6⟩ := h5
  simp [Cond.before, Cond.holds, Cond.value, h1, h2, h3, h4, g1, g2, g3, g4, g5, g6]
def isCode : Jvm.Cond → Bool
  | .code _ _ _ _ => true
  | _ => false
theorem all_split {L : List Jvm.Cond} {P : Jvm.Cond → Bool} (h1 : L.all (fun c => isCode c || P c) = true) (h2 : ∀ c ∈ L.filter isCode, P c = true) : L.all P = true := by
  refine List.all_eq_true.mpr fun c hc => ?_
  have h := List.all_eq_true.mp h1 c hc
  rcases Bool.eq_false_or_eq_true (isCode c) with hi | hi
  · exact h2 c (List.mem_filter.mpr ⟨hc, hi⟩)
  · simpa [hi] using h
set_option maxRecDepth 65536 in
theorem w_c0 : (Jvm.Cond.code x code maxLocals ret).before args0 about1 = true := code_word (m := ⟨1, 2⟩) (meth := k1m2) (c := k1c2) (by decide +kernel) rfl rfl rfl (by decide +kernel)
set_option maxRecDepth 65536 in
theorem w_c1 : (Jvm.Cond.code ({ cls := "com/example/querent/querent/xdm/XmlChars", name := "isChar", desc := "(I)Z" } : Jvm.MethodName) prog_235_method_2_code (1 : Nat) (Option.some Jvm.ClassFile.FieldType.boolean)).before args0 about1 = true := code_word (m := ⟨2, 1⟩) (meth := k2m1) (c := k2c1) (by decide +kernel) rfl rfl rfl (by decide +kernel)
set_option maxRecDepth 65536 in
theorem w_c2 : (Jvm.Cond.code ({ cls := "com/example/querent/querent/xdm/XmlCharsIsCharPinLaw", name := "reference", desc := "(I)Z" } : Jvm.MethodName) method_2_code (1 : Nat) (Option.some Jvm.ClassFile.FieldType.boolean)).before args0 about1 = true := code_word (m := ⟨1, 1⟩) (meth := k1m1) (c := k1c1) (by decide +kernel) rfl rfl rfl (by decide +kernel)
def codes1 : List Jvm.Cond := [Jvm.Cond.code x code maxLocals ret, Jvm.Cond.code ({ cls := "com/example/querent/querent/xdm/XmlChars", name := "isChar", desc := "(I)Z" } : Jvm.MethodName) prog_235_method_2_code (1 : Nat) (Option.some Jvm.ClassFile.FieldType.boolean), Jvm.Cond.code ({ cls := "com/example/querent/querent/xdm/XmlCharsIsCharPinLaw", name := "reference", desc := "(I)Z" } : Jvm.MethodName) method_2_code (1 : Nat) (Option.some Jvm.ClassFile.FieldType.boolean)]
set_option maxRecDepth 65536 in
theorem codes_eq : words1.filter isCode = codes1 := rfl
theorem w_codes : ∀ c ∈ words1.filter isCode, c.before args0 about1 = true := by
  rw [codes_eq]
  intro c hc
  simp only [codes1, List.mem_cons, List.not_mem_nil, or_false] at hc
  rcases hc with rfl | rfl | rfl
  · exact w_c0
  · exact w_c1
  · exact w_c2
set_option maxRecDepth 65536 in
theorem w_t1 : (words1.take 24).all (fun c => isCode c || c.before args0 about1) = true := by decide +kernel
set_option maxRecDepth 65536 in
theorem w_t2 : (words1.drop 24).all (fun c => isCode c || c.before args0 about1) = true := by decide +kernel
theorem w_tables : (allAtoms (Jvm.Cond.code x code maxLocals ret :: tables_1)).before args0 about1 = true := by
  rw [allAtoms_all]
  show words1.all (fun c => c.before args0 about1) = true
  refine all_split ?_ w_codes
  rw [← List.take_append_drop 24 words1, List.all_append, w_t1, w_t2]
  rfl
set_option maxRecDepth 65536 in
theorem w_case : (Jvm.Cond.and given_1 narrow_1).before args0 about1 = true := by decide +kernel
theorem w_applies : (headSpec (Jvm.Cond.code x code maxLocals ret :: tables_1) room_1).applies x e0.platform about1 = true :=
  (Spec.applies_iff w_frames).mpr ⟨w_running, w_runnable, w_alone, w_named, w_hears, w_ripe, w_room, w_tables⟩
theorem atStart : AtStart classFile x code maxLocals ret World_1 tables_1 room_1 Calls_1 rest_1 Pre_1 launch0 p0 e0 about1 theMethod args0 below0 :=
  ⟨lists_1, trivial, launch0.admits_env _ _ _, launch0.least_env, fairChoices_fair.cas, fairChoices_fair.clock, w_frames, w_args, w_heap, w_applies, trivial, trivial, w_case⟩
end start1
theorem witness_1 : WitnessClaimed_1 := ⟨start1.p0, start1.e0, start1.about1, start1.theMethod, start1.args0, start1.below0, start1.atStart⟩
end Jvm.Pilot.@@N@@
