import JvmDerived
import JvmDerived.Pilot.@@N@@Statement
import JvmDerived.Pilot.@@N@@Code
set_option linter.unusedVariables false
set_option linter.unusedSimpArgs false
namespace Jvm.RoadKit
open Sem ClassFile Op Lib Jvm.Stand Jvm.Free Jvm.LawKit
section New
variable {p : Program} {l : Launch} {e : Env} {R : Room} {s : State} {m : MethodId} {args : Array Value} {below : List Frame} {meth : Method} {c : Code} {T : State} {locs : List Loc} {cells slots : Nat}
theorem retI (X : Stand p l e R s m args below meth c T locs cells slots) (hx : p.tables.exec = Jvm.exec) {pc : Nat} {Ls : Array Slot} {z : Int32} {rest : List Value} (hret : meth.sig.returnType = some .int) (hd : decode c.code pc = .ok (.ireturn, 1)) {fs : List Frame}
    (hl : ∀ (f : JFrame) (acts : List Action), f.method = m → f.locked = none → f.entered = [] → (doReturn e (T.setTop f) acts (some (.int z))).1 = T.setFrames fs) : Steps p.tables e below (T.setTop (mkF m pc Ls (.int z :: rest))) (T.setFrames fs) := by
  have hm' : T.vm.method? m = some meth := X.method'
  have hn : narrow .int (.int z) = .int z := rfl
  show Steps p.tables e below (T.setTop { method := m, pc := pc, locals := Ls, stack := _ :: rest, locked := none }) _
  jvm_step X.here [X.here.top, hx, hd, hm', hret, hn]
  first | (intro acts; rw [hl _ acts rfl rfl rfl]) | rw [hl _ _ rfl rfl rfl]
  exact Steps.refl _
end New
end Jvm.RoadKit
namespace Jvm.Pilot.@@N@@
open Jvm Jvm.ClassFile Sem Op Lib Jvm.Free Jvm.Stand Jvm.LawKit Jvm.RoadKit Bundle Jvm.Pilot.@@N@@.Jvm.D
theorem own_stB {p : Program} {l : Launch} {e : Env} {R : Room} {s : State} {m : MethodId} {args : Array Value} {below : List Frame} {meth : Method} {c : Code} {T : State} {locs : List Loc} {cells slots : Nat} {Z : State} {h : Heap} {a : Addr} {k : ClassId} {z : Int32} {vs : List Value} {dv : Value}
    (X : Stand p l e R s m args below meth c T locs cells slots) (hx : p.tables.exec = Jvm.exec) (hZ : Z.Warmed39 s.vm) (eT : T.heap = h) (V : Arv Z h a k .byte z vs dv) {j : Int32} (i : Nat) (hj : j.toNatClampNeg = i) (hb : ¬ j < 0 ∧ j < z) (hi : i < vs.length) {x : Int32} {g : JFrame} (hg : g.method = m) {rest : List Value} (hs : g.stack = .int x :: .int j :: .ref a :: rest) (hd : decode c.code g.pc = .ok (.bastore, 1)) :
    ∃ T' h', Stand p l e R s m args below meth c T' (locs ++ [⟨a, j.toNatClampNeg⟩]) cells slots ∧ T'.heap = h' ∧ Wr h h' a j.toNatClampNeg (.int (nar .byte x)) ∧ Arv Z h' a k .byte z (vs.set i (.int (nar .byte x))) dv ∧ ∀ target, Steps p.tables e below (T'.setTop { g with pc := g.pc + 1, stack := rest }) target → Steps p.tables e below (T.setTop g) target := by
  obtain ⟨cl, Ar, q, S, M, H, G⟩ := V
  obtain ⟨T', h', X', e', W, st⟩ := Jvm.RoadKit.stB X hx hZ eT Ar (j := j) (inb_of S hb) hg hs hd
  exact ⟨T', h', X', e', W, Arv.set Ar q S M H G (fits_nar_byte x) W i hj hi, st⟩
theorem own_ldB {p : Program} {l : Launch} {e : Env} {R : Room} {s : State} {m : MethodId} {args : Array Value} {below : List Frame} {meth : Method} {c : Code} {T : State} {locs : List Loc} {cells slots : Nat} {Z : State} {h : Heap} {a : Addr} {k : ClassId} {z : Int32} {vs : List Value} {dv : Value}
    (X : Stand p l e R s m args below meth c T locs cells slots) (hx : p.tables.exec = Jvm.exec) (hZ : Z.Warmed39 s.vm) (eT : T.heap = h) (V : Arv Z h a k .byte z vs dv) {j : Int32} (hb : ¬ j < 0 ∧ j < z) {g : JFrame} (hg : g.method = m) {rest : List Value} (hs : g.stack = .int j :: .ref a :: rest) (hd : decode c.code g.pc = .ok (.baload, 1)) :
    ∃ w, vs.getD j.toNatClampNeg dv = .int w ∧ ∀ target, Steps p.tables e below (T.setTop { g with pc := g.pc + 1, stack := .int w :: rest }) target → Steps p.tables e below (T.setTop g) target := by
  obtain ⟨cl, Ar, q, S, M, H, G⟩ := V
  have hin := inb_of S hb
  have hlt : j.toNatClampNeg < cl.slots.size := Nat.lt_of_not_le fun q => hin (Or.inr q)
  obtain ⟨w, hw⟩ := fit_I (G _ hlt) (by simp)
  exact ⟨w, hw, X.baloadBytes hx (j := j) (v := .int w) (by rw [eT]; exact Ar.1) (State.isArrayOf_alike hZ.alike Ar.2.1) Ar.2.2 hin (by rw [H _ hlt, hw]) hg hs hd⟩
theorem d6_0 : decode jdk_43_method_3_code 0 = .ok (.iload_n 0, 1) := by decide +kernel
theorem d6_1 : decode jdk_43_method_3_code 1 = .ok (.sipush 255, 3) := by decide +kernel
theorem d6_4 : decode jdk_43_method_3_code 4 = .ok (.if_icmp .gt 7, 3) := by decide +kernel
theorem d6_7 : decode jdk_43_method_3_code 7 = .ok (.iconst 1, 1) := by decide +kernel
theorem d6_8 : decode jdk_43_method_3_code 8 = .ok (.goto 4, 3) := by decide +kernel
theorem d6_11 : decode jdk_43_method_3_code 11 = .ok (.iconst 0, 1) := by decide +kernel
theorem d6_12 : decode jdk_43_method_3_code 12 = .ok (.ireturn, 1) := by decide +kernel
def own_f6_0 (p1 : Int32) : Int32 := (if (255 : Int32) < p1 then (0 : Int32) else (1 : Int32))
set_option maxRecDepth 65536 in
set_option maxHeartbeats 4000000 in
theorem own_b6_0 {p : Program} {l : Launch} {e : Env} {R : Room} {s : State} {m : MethodId} {args : Array Value} {below : List Frame} {meth : Method} {c : Code} {T : State} {locs : List Loc} {cells slots : Nat} {Z : State} {a0 : Array Value} (X : Stand p l e R s m args below meth c T locs cells slots) (hx : p.tables.exec = Jvm.exec) (hby : c.code = jdk_43_method_3_code) (hown : s.vm.findClass "java/lang/StringLatin1" = some m.cls) (hZ : Z.Warmed39 s.vm) (hw : ∀ d ∈ tables_1, d.before a0 Z = true) (hret : meth.sig.returnType = some .boolean) (p1 : Int32) (v : Int32) (hv : own_f6_0 p1 = v) {fs : List Frame} (hr : ∀ (f : JFrame) (acts : List Action), f.method = m → f.locked = none → f.entered = [] → (doReturn e (T.setTop f) acts (some (.int v))).1 = T.setFrames fs) :
    Steps p.tables e below (T.setTop (mkF m 0 #[.val (.int p1)] [])) (T.setFrames fs) := by
  unfold own_f6_0 at hv
  show Steps p.tables e below (T.setTop (mkF m 0 #[.val (.int p1)] [])) _
  refine XS.iloadN X.here hx rfl (hb hby d6_0) rfl ?_
  show Steps p.tables e below (T.setTop (mkF m 1 #[.val (.int p1)] [(.int p1)])) _
  refine XS.sipush X.here hx rfl (hb hby d6_1) ?_
  show Steps p.tables e below (T.setTop (mkF m 4 #[.val (.int p1)] [(.int (255 : Int32)), (.int p1)])) _
  by_cases hc4 : (255 : Int32) < p1
  · rw [if_pos hc4] at hv
    refine XS.icmpYes X.here hx rfl (pc0 := 4) (pc' := 11) rfl (hb hby d6_4) rfl (tlt hc4).2.2.1 (by decide) (by decide) ?_
    show Steps p.tables e below (T.setTop (mkF m 11 #[.val (.int p1)] [])) _
    refine XS.iconst X.here hx rfl (hb hby d6_11) ?_
    show Steps p.tables e below (T.setTop (mkF m 12 #[.val (.int p1)] [(.int (0 : Int32))])) _
    subst hv
    exact retN X hx (t := .boolean) hret (by simp) (hb hby d6_12) hr
  · rw [if_neg hc4] at hv
    refine XS.icmpNo X.here hx rfl (hb hby d6_4) rfl (flt hc4).2.2.1 ?_
    show Steps p.tables e below (T.setTop (mkF m 7 #[.val (.int p1)] [])) _
    refine XS.iconst X.here hx rfl (hb hby d6_7) ?_
    show Steps p.tables e below (T.setTop (mkF m 8 #[.val (.int p1)] [(.int (1 : Int32))])) _
    refine XS.goto X.here hx rfl (pc0 := 8) (pc' := 12) rfl (hb hby d6_8) (by decide) (by decide) ?_
    show Steps p.tables e below (T.setTop (mkF m 12 #[.val (.int p1)] [(.int (1 : Int32))])) _
    subst hv
    exact retN X hx (t := .boolean) hret (by simp) (hb hby d6_12) hr
theorem ef_6 (m : MethodId) (x0 : Int32) : entryFrame m #[(.int x0)] 1 = mkF m 0 #[.val (.int x0)] [] := by first | (simp [entryFrame, mkF, argsToLocals, Value.category, maxLocals]; done) | rfl
theorem pn_6 : plainName "java/lang/StringLatin1" = true := by first | (simp [plainName, overriddenIn]; done) | decide +kernel
def Q_rm6 (Z : State) (p1 : Int32)  (h0 : Heap) (n0 : Nat) (v : Option Value) (h : Heap) (L : List Loc) : Prop := v = some (.int (own_f6_0 p1)) ∧ Fr n0 L ∧ h = h0
set_option maxRecDepth 65536 in
set_option maxHeartbeats 40000000 in
theorem rm6 (l : Launch) (Z : State) (a0 : Array Value) (hw : ∀ d ∈ tables_1, d.before a0 Z = true) (ws : List Jvm.Cond) (p1 : Int32)  (h0 : Heap) (n0 : Nat) (Z0 : n0 ≤ h0.size)  :
    MetFree l (⟨"java/lang/StringLatin1", "canEncode", "(C)Z"⟩ : MethodName) (head1 (Jvm.Cond.code (⟨"java/lang/StringLatin1", "canEncode", "(C)Z"⟩ : MethodName) jdk_43_method_3_code 1 (some .boolean) :: ws) ({ frames := 0, cells := 0, slots := 0, locals := 0 } : Room)) (fun a U => a = #[(.int p1)] ∧ Z.Warmed39 U.vm ∧ U.heap = h0) (fun _ _ _ _ _ => True) (fun _ U o U' => ∃ v L, o = .returned v ∧ Q_rm6 Z p1  h0 n0 v U'.heap L ∧ FrameEnd U o U' L ({ frames := 0, cells := 0, slots := 0, locals := 0 } : Room).cells ({ frames := 0, cells := 0, slots := 0, locals := 0 } : Room).slots) := by
  refine MetFree.of_bodySF (plainFor_of_name pn_6) hisR ?_
  intro p e s m args below meth c s₁ Bd hml0 hP hK
  obtain ⟨rfl, hZ, hh⟩ := hP
  have hx := Bd.exec
  have hby := Bd.bytes
  have hml : c.maxLocals = 1 := hml0
  have hown : s.vm.findClass "java/lang/StringLatin1" = some m.cls := findClass_of_methodNamed Bd.named
  have hnm := (name_of_methodNamed Bd.named Bd.method).1
  have X0 : Stand p l e ({ frames := 0, cells := 0, slots := 0, locals := 0 } : Room) s m #[(.int p1)] below meth c s₁ [] 0 0 := Stand.of_body Bd
  have e0 : s₁.heap = h0 := by rw [← hh, Bd.state]; rfl
  have N0 := Fr.nil n0
  have pre0 : ∀ t, Steps p.tables e below (s₁.setTop (mkF m 0 #[.val (.int p1)] [])) t → Steps p.tables e below (s₁.setTop (entryFrame m #[(.int p1)] 1)) t := fun t k => castTop (ef_6 m p1) k
  obtain ⟨fs, hr, hrun, hended, hW, hsame⟩ := X0.leave (v := some (.int (own_f6_0 p1))) (fun h => by rw [Bd.returns] at h; cases h) Bd.notSynchronized
  refine ⟨_, _, pre0 _ ?_, hrun, hended, _, _, rfl, ?_, ⟨_, rfl⟩, hW, hsame.mono (by decide) (by decide)⟩
  · exact own_b6_0 X0 hx hby hown hZ hw Bd.returns p1 _ rfl hr
  · exact ⟨rfl, N0, e0⟩
theorem d7_0 : decode jdk_43_method_46_code 0 = .ok (.iconst 1, 1) := by decide +kernel
theorem d7_1 : decode jdk_43_method_46_code 1 = .ok (.newarray .byte, 2) := by decide +kernel
theorem d7_3 : decode jdk_43_method_46_code 3 = .ok (.dup, 1) := by decide +kernel
theorem d7_4 : decode jdk_43_method_46_code 4 = .ok (.iconst 0, 1) := by decide +kernel
theorem d7_5 : decode jdk_43_method_46_code 5 = .ok (.iload_n 0, 1) := by decide +kernel
theorem d7_6 : decode jdk_43_method_46_code 6 = .ok (.i2b, 1) := by decide +kernel
theorem d7_7 : decode jdk_43_method_46_code 7 = .ok (.bastore, 1) := by decide +kernel
theorem d7_8 : decode jdk_43_method_46_code 8 = .ok (.areturn, 1) := by decide +kernel
theorem ef_7 (m : MethodId) (x0 : Int32) : entryFrame m #[(.int x0)] 1 = mkF m 0 #[.val (.int x0)] [] := by first | (simp [entryFrame, mkF, argsToLocals, Value.category, maxLocals]; done) | rfl
theorem pn_7 : plainName "java/lang/StringLatin1" = true := by first | (simp [plainName, overriddenIn]; done) | decide +kernel
def Q_rm7 (Z : State) (p1 : Int32)  (h0 : Heap) (n0 : Nat) (v : Option Value) (h : Heap) (L : List Loc) : Prop := v = some (.ref h0.size) ∧ Fr n0 L ∧ Keep h0 h []
set_option maxRecDepth 65536 in
set_option maxHeartbeats 40000000 in
theorem rm7 (l : Launch) (Z : State) (a0 : Array Value) (hw : ∀ d ∈ tables_1, d.before a0 Z = true) (ws : List Jvm.Cond) (p1 : Int32)  (h0 : Heap) (n0 : Nat) (Z0 : n0 ≤ h0.size)  :
    MetFree l (⟨"java/lang/StringLatin1", "toBytes", "(C)[B"⟩ : MethodName) (head1 (Jvm.Cond.code (⟨"java/lang/StringLatin1", "toBytes", "(C)[B"⟩ : MethodName) jdk_43_method_46_code 1 (some (.array .byte)) :: ws) ({ frames := 0, cells := 1, slots := 1, locals := 0 } : Room)) (fun a U => a = #[(.int p1)] ∧ Z.Warmed39 U.vm ∧ U.heap = h0) (fun _ _ _ _ _ => True) (fun _ U o U' => ∃ v L, o = .returned v ∧ Q_rm7 Z p1  h0 n0 v U'.heap L ∧ FrameEnd U o U' L ({ frames := 0, cells := 1, slots := 1, locals := 0 } : Room).cells ({ frames := 0, cells := 1, slots := 1, locals := 0 } : Room).slots) := by
  refine MetFree.of_bodySF (plainFor_of_name pn_7) hisR ?_
  intro p e s m args below meth c s₁ Bd hml0 hP hK
  obtain ⟨rfl, hZ, hh⟩ := hP
  have hx := Bd.exec
  have hby := Bd.bytes
  have hml : c.maxLocals = 1 := hml0
  have hown : s.vm.findClass "java/lang/StringLatin1" = some m.cls := findClass_of_methodNamed Bd.named
  have hnm := (name_of_methodNamed Bd.named Bd.method).1
  have X0 : Stand p l e ({ frames := 0, cells := 1, slots := 1, locals := 0 } : Room) s m #[(.int p1)] below meth c s₁ [] 0 0 := Stand.of_body Bd
  have e0 : s₁.heap = h0 := by rw [← hh, Bd.state]; rfl
  have N0 := Fr.nil n0
  have pre0 : ∀ t, Steps p.tables e below (s₁.setTop (mkF m 0 #[.val (.int p1)] [])) t → Steps p.tables e below (s₁.setTop (entryFrame m #[(.int p1)] 1)) t := fun t k => castTop (ef_7 m p1) k
  have K1 : ∀ t, Steps p.tables e below (s₁.setTop (mkF m 1 #[.val (.int p1)] [(.int (1 : Int32))])) t → Steps p.tables e below (s₁.setTop (entryFrame m #[(.int p1)] 1)) t := by
    intro t hk
    refine pre0 t ?_
    show Steps p.tables e below (s₁.setTop (mkF m 0 #[.val (.int p1)] [])) _
    refine XS.iconst X0.here hx rfl (hb hby d7_0) ?_
    show Steps p.tables e below (s₁.setTop (mkF m 1 #[.val (.int p1)] [(.int (1 : Int32))])) _
    exact hk
  obtain ⟨T1, h1, k1, X1, e1, E1, A1, st1⟩ := newP X0 hx hZ (hw _ (List.mem_of_getElem? (i := 38) rfl)) e0 (g := (mkF m 1 #[.val (.int p1)] [(.int (1 : Int32))])) rfl (hb hby d7_1) rfl (by decide) (cap := 1) (by decide) (by decide) (by decide) (by decide)
  obtain ⟨b1, g1⟩ : ∃ z, z = h0.size := ⟨_, rfl⟩
  rw [← g1] at A1 st1
  have V1 : Arv Z h1 b1 k1 .byte (1 : Int32) [(.int (0 : Int32))] (.int (0 : Int32)) := (Arv.new A1 (by decide)).pad (pad_rep [] (.int (0 : Int32)) 1)
  have K10 : ∀ t, Steps p.tables e below (T1.setTop (mkF m 3 #[.val (.int p1)] [(.ref b1)])) t → Steps p.tables e below (s₁.setTop (entryFrame m #[(.int p1)] 1)) t := fun t hk => K1 t (st1 _ hk)
  have K11 : ∀ t, Steps p.tables e below (T1.setTop (mkF m 7 #[.val (.int p1)] [(.int (p1.toInt8.toInt32)), (.int (0 : Int32)), (.ref b1), (.ref b1)])) t → Steps p.tables e below (s₁.setTop (entryFrame m #[(.int p1)] 1)) t := by
    intro t hk
    refine K10 t ?_
    show Steps p.tables e below (T1.setTop (mkF m 3 #[.val (.int p1)] [(.ref b1)])) _
    refine XS.dup X1.here hx rfl (hb hby d7_3) rfl rfl ?_
    show Steps p.tables e below (T1.setTop (mkF m 4 #[.val (.int p1)] [(.ref b1), (.ref b1)])) _
    refine XS.iconst X1.here hx rfl (hb hby d7_4) ?_
    show Steps p.tables e below (T1.setTop (mkF m 5 #[.val (.int p1)] [(.int (0 : Int32)), (.ref b1), (.ref b1)])) _
    refine XS.iloadN X1.here hx rfl (hb hby d7_5) rfl ?_
    show Steps p.tables e below (T1.setTop (mkF m 6 #[.val (.int p1)] [(.int p1), (.int (0 : Int32)), (.ref b1), (.ref b1)])) _
    refine XS.i2b X1.here hx rfl (hb hby d7_6) rfl ?_
    show Steps p.tables e below (T1.setTop (mkF m 7 #[.val (.int p1)] [(.int (p1.toInt8.toInt32)), (.int (0 : Int32)), (.ref b1), (.ref b1)])) _
    exact hk
  obtain ⟨T2, h2, X2, e2, W2, V2, st2⟩ := own_stB X1 hx hZ e1 V1 (j := (0 : Int32)) 0 rfl ⟨by decide, by decide⟩ (by decide) (g := (mkF m 7 #[.val (.int p1)] [(.int (p1.toInt8.toInt32)), (.int (0 : Int32)), (.ref b1), (.ref b1)])) rfl rfl (hb hby d7_7)
  have K20 : ∀ t, Steps p.tables e below (T2.setTop (mkF m 8 #[.val (.int p1)] [(.ref b1)])) t → Steps p.tables e below (s₁.setTop (entryFrame m #[(.int p1)] 1)) t := fun t hk => K11 t (st2 _ hk)
  have N2 := Fr.snoc X2 N0 (by rw [g1]; exact Z0 : n0 ≤ b1)
  have KP : Keep h0 T2.heap [] := by rw [e2]; exact ((Keep.refl h0 []).ext E1).wr W2 (Or.inr (Nat.le_of_eq g1.symm))
  obtain ⟨fs, hr, hrun, hended, hW, hsame⟩ := X2.leave (v := some (.ref b1)) (fun h => by rw [Bd.returns] at h; cases h) Bd.notSynchronized
  exact ⟨_, _, K20 _ (retOut X2 hx Bd.returns rfl (Or.inr (Or.inr (Or.inr (Or.inr ⟨rfl, rfl, rfl⟩)))) (hb hby d7_8) hr), hrun, hended, _, _, rfl, ⟨by rw [g1], N2, KP⟩, ⟨_, rfl⟩, hW, hsame.mono (by decide) (by decide)⟩
theorem d8_0 : decode jdk_42_method_151_code 0 = .ok (.aload_n 0, 1) := by decide +kernel
theorem d8_1 : decode jdk_42_method_151_code 1 = .ok (.invokespecial 1, 3) := by decide +kernel
theorem d8_4 : decode jdk_42_method_151_code 4 = .ok (.aload_n 0, 1) := by decide +kernel
theorem d8_5 : decode jdk_42_method_151_code 5 = .ok (.aload_n 1, 1) := by decide +kernel
theorem d8_6 : decode jdk_42_method_151_code 6 = .ok (.putfield 9, 3) := by decide +kernel
theorem d8_9 : decode jdk_42_method_151_code 9 = .ok (.aload_n 0, 1) := by decide +kernel
theorem d8_10 : decode jdk_42_method_151_code 10 = .ok (.iload_n 2, 1) := by decide +kernel
theorem d8_11 : decode jdk_42_method_151_code 11 = .ok (.putfield 15, 3) := by decide +kernel
theorem d8_14 : decode jdk_42_method_151_code 14 = .ok (.return_, 1) := by decide +kernel
theorem ef_8 (m : MethodId) (x0 : Addr) (x1 : Addr) (x2 : Int32) : entryFrame m #[(.ref x0), (.ref x1), (.int x2)] 3 = mkF m 0 #[.val (.ref x0), .val (.ref x1), .val (.int x2)] [] := by first | (simp [entryFrame, mkF, argsToLocals, Value.category, maxLocals]; done) | rfl
theorem pn_8 : plainName "java/lang/String" = true := by first | (simp [plainName, overriddenIn]; done) | decide +kernel
def Q_rm8 (Z : State) (so : Addr) (bb : Addr) (p2 : Int32)  (h0 : Heap) (n0 : Nat) (v : Option Value) (h : Heap) (L : List Loc) : Prop := v = none ∧ Fr n0 L ∧ Keep h0 h [so]
set_option maxRecDepth 65536 in
set_option maxHeartbeats 40000000 in
theorem rm8 (l : Launch) (Z : State) (a0 : Array Value) (hw : ∀ d ∈ tables_1, d.before a0 Z = true) (ws : List Jvm.Cond) (so : Addr) (bb : Addr) (p2 : Int32)  (h0 : Heap) (n0 : Nat) (Z0 : n0 ≤ h0.size) (E : Exa Z h0 so "java/lang/String") (F1 : Fld Z h0 so "java/lang/String" "value" "[B" .null) (F2 : Fld Z h0 so "java/lang/String" "coder" "B" (.int (0 : Int32))) (gs : n0 ≤ so) :
    MetFree l (⟨"java/lang/String", "<init>", "([BB)V"⟩ : MethodName) (head1 (Jvm.Cond.code (⟨"java/lang/String", "<init>", "([BB)V"⟩ : MethodName) jdk_42_method_151_code 3 none :: ws) ({ frames := 1, cells := 0, slots := 0, locals := 12 } : Room)) (fun a U => a = #[(.ref so), (.ref bb), (.int p2)] ∧ Z.Warmed39 U.vm ∧ U.heap = h0) (fun _ _ _ _ _ => True) (fun _ U o U' => ∃ v L, o = .returned v ∧ Q_rm8 Z so bb p2  h0 n0 v U'.heap L ∧ FrameEnd U o U' L ({ frames := 1, cells := 0, slots := 0, locals := 12 } : Room).cells ({ frames := 1, cells := 0, slots := 0, locals := 12 } : Room).slots) := by
  refine MetFree.of_bodySF (plainFor_of_name pn_8) hisR ?_
  intro p e s m args below meth c s₁ Bd hml0 hP hK
  obtain ⟨rfl, hZ, hh⟩ := hP
  have hx := Bd.exec
  have hby := Bd.bytes
  have hml : c.maxLocals = 3 := hml0
  have hown : s.vm.findClass "java/lang/String" = some m.cls := findClass_of_methodNamed Bd.named
  have hnm := (name_of_methodNamed Bd.named Bd.method).1
  have X0 : Stand p l e ({ frames := 1, cells := 0, slots := 0, locals := 12 } : Room) s m #[(.ref so), (.ref bb), (.int p2)] below meth c s₁ [] 0 0 := Stand.of_body Bd
  have e0 : s₁.heap = h0 := by rw [← hh, Bd.state]; rfl
  have N0 := Fr.nil n0
  have pre0 : ∀ t, Steps p.tables e below (s₁.setTop (mkF m 0 #[.val (.ref so), .val (.ref bb), .val (.int p2)] [])) t → Steps p.tables e below (s₁.setTop (entryFrame m #[(.ref so), (.ref bb), (.int p2)] 3)) t := fun t k => castTop (ef_8 m so bb p2) k
  have K1 : ∀ t, Steps p.tables e below (s₁.setTop (mkF m 1 #[.val (.ref so), .val (.ref bb), .val (.int p2)] [(.ref so)])) t → Steps p.tables e below (s₁.setTop (entryFrame m #[(.ref so), (.ref bb), (.int p2)] 3)) t := by
    intro t hk
    refine pre0 t ?_
    show Steps p.tables e below (s₁.setTop (mkF m 0 #[.val (.ref so), .val (.ref bb), .val (.int p2)] [])) _
    refine XS.aloadN X0.here hx rfl (hb hby d8_0) rfl rfl ?_
    show Steps p.tables e below (s₁.setTop (mkF m 1 #[.val (.ref so), .val (.ref bb), .val (.int p2)] [(.ref so)])) _
    exact hk
  obtain ⟨T11, X11, e11, st11⟩ := initO X0 hx hZ hown (hw _ (List.mem_of_getElem? (i := 43) rfl)) (hw _ (List.mem_of_getElem? (i := 7) rfl)) (hw _ (List.mem_of_getElem? (i := 8) rfl)) e0 (g := (mkF m 1 #[.val (.ref so), .val (.ref bb), .val (.int p2)] [(.ref so)])) rfl (by rw [hml]; rfl) rfl (hb hby d8_1) (by decide) (W := 0) (by show 2 * 0 + _ ≤ _; exact Nat.le_of_eq rfl) (by decide)
  have K11 : ∀ t, Steps p.tables e below (T11.setTop (mkF m 4 #[.val (.ref so), .val (.ref bb), .val (.int p2)] [])) t → Steps p.tables e below (s₁.setTop (entryFrame m #[(.ref so), (.ref bb), (.int p2)] 3)) t := fun t hk => K1 t (st11 _ hk)
  have K2 : ∀ t, Steps p.tables e below (T11.setTop (mkF m 6 #[.val (.ref so), .val (.ref bb), .val (.int p2)] [(.ref bb), (.ref so)])) t → Steps p.tables e below (s₁.setTop (entryFrame m #[(.ref so), (.ref bb), (.int p2)] 3)) t := by
    intro t hk
    refine K11 t ?_
    show Steps p.tables e below (T11.setTop (mkF m 4 #[.val (.ref so), .val (.ref bb), .val (.int p2)] [])) _
    refine XS.aloadN X11.here hx rfl (hb hby d8_4) rfl rfl ?_
    show Steps p.tables e below (T11.setTop (mkF m 5 #[.val (.ref so), .val (.ref bb), .val (.int p2)] [(.ref so)])) _
    refine XS.aloadN X11.here hx rfl (hb hby d8_5) rfl rfl ?_
    show Steps p.tables e below (T11.setTop (mkF m 6 #[.val (.ref so), .val (.ref bb), .val (.int p2)] [(.ref bb), (.ref so)])) _
    exact hk
  obtain ⟨T12, h12, X12, e12, W12, st12⟩ := putF X11 hx hZ hown (host := "") (Or.inl (hw _ (List.mem_of_getElem? (i := 44) rfl))) Via.refl e11 F1 E (Or.inr ⟨(hw _ (List.mem_of_getElem? (i := 45) rfl)), rfl, hnm⟩) (hw _ (List.mem_of_getElem? (i := 34) rfl)) (ty := (.array .byte)) (by decide) rfl rfl (g := (mkF m 6 #[.val (.ref so), .val (.ref bb), .val (.int p2)] [(.ref bb), (.ref so)])) rfl rfl (hb hby d8_6)
  have K13 : ∀ t, Steps p.tables e below (T12.setTop (mkF m 9 #[.val (.ref so), .val (.ref bb), .val (.int p2)] [])) t → Steps p.tables e below (s₁.setTop (entryFrame m #[(.ref so), (.ref bb), (.int p2)] 3)) t := fun t hk => K2 t (st12 _ hk)
  have K31 : ∀ t, Steps p.tables e below (T12.setTop (mkF m 11 #[.val (.ref so), .val (.ref bb), .val (.int p2)] [(.int p2), (.ref so)])) t → Steps p.tables e below (s₁.setTop (entryFrame m #[(.ref so), (.ref bb), (.int p2)] 3)) t := by
    intro t hk
    refine K13 t ?_
    show Steps p.tables e below (T12.setTop (mkF m 9 #[.val (.ref so), .val (.ref bb), .val (.int p2)] [])) _
    refine XS.aloadN X12.here hx rfl (hb hby d8_9) rfl rfl ?_
    show Steps p.tables e below (T12.setTop (mkF m 10 #[.val (.ref so), .val (.ref bb), .val (.int p2)] [(.ref so)])) _
    refine XS.iloadN X12.here hx rfl (hb hby d8_10) rfl ?_
    show Steps p.tables e below (T12.setTop (mkF m 11 #[.val (.ref so), .val (.ref bb), .val (.int p2)] [(.int p2), (.ref so)])) _
    exact hk
  have F3 := F2.other W12 (Or.inr (slot_ne (Or.inr (hw _ (List.mem_of_getElem? (i := 47) rfl))) (Or.inr (hw _ (List.mem_of_getElem? (i := 45) rfl))) (by decide) (t := .byte) (t' := (.array .byte)) (by decide) (by decide)))
  obtain ⟨T14, h14, X14, e14, W14, st14⟩ := putFN X12 hx hZ hown (hw _ (List.mem_of_getElem? (i := 46) rfl)) Via.refl e12 F3 (E.wr W12) (Or.inr ⟨(hw _ (List.mem_of_getElem? (i := 47) rfl)), rfl, hnm⟩) (hw _ (List.mem_of_getElem? (i := 34) rfl)) (ty := .byte) (v' := (.int (nar .byte p2))) (by decide) rfl (fits_nar_byte _) (g := (mkF m 11 #[.val (.ref so), .val (.ref bb), .val (.int p2)] [(.int p2), (.ref so)])) rfl rfl (hb hby d8_11)
  have K15 : ∀ t, Steps p.tables e below (T14.setTop (mkF m 14 #[.val (.ref so), .val (.ref bb), .val (.int p2)] [])) t → Steps p.tables e below (s₁.setTop (entryFrame m #[(.ref so), (.ref bb), (.int p2)] 3)) t := fun t hk => K31 t (st14 _ hk)
  have N14 := Fr.snoc X14 (Fr.snoc X12 N0 gs) gs
  have KP : Keep h0 T14.heap [so] := by rw [e14]; exact ((Keep.refl h0 [so]).wr W12 (Or.inl (List.mem_of_getElem? (i := 0) rfl))).wr W14 (Or.inl (List.mem_of_getElem? (i := 0) rfl))
  obtain ⟨fs, hr, hrun, hended, hW, hsame⟩ := X14.leave (v := none) (fun _ => rfl) Bd.notSynchronized
  exact ⟨_, _, K15 _ (X14.returnOut hx Bd.returns (hb hby d8_14) hr), hrun, hended, _, _, rfl, ⟨rfl, N14, KP⟩, ⟨_, rfl⟩, hW, hsame.mono (by decide) (by decide)⟩
theorem d5_0 : decode jdk_42_method_139_code 0 = .ok (.getstatic 38, 3) := by decide +kernel
theorem d5_3 : decode jdk_42_method_139_code 3 = .ok (.ifCond .eq 23, 3) := by decide +kernel
theorem d5_6 : decode jdk_42_method_139_code 6 = .ok (.iload_n 0, 1) := by decide +kernel
theorem d5_7 : decode jdk_42_method_139_code 7 = .ok (.invokestatic 1015, 3) := by decide +kernel
theorem d5_10 : decode jdk_42_method_139_code 10 = .ok (.ifCond .eq 16, 3) := by decide +kernel
theorem d5_13 : decode jdk_42_method_139_code 13 = .ok (.new 10, 3) := by decide +kernel
theorem d5_16 : decode jdk_42_method_139_code 16 = .ok (.dup, 1) := by decide +kernel
theorem d5_17 : decode jdk_42_method_139_code 17 = .ok (.iload_n 0, 1) := by decide +kernel
theorem d5_18 : decode jdk_42_method_139_code 18 = .ok (.invokestatic 1018, 3) := by decide +kernel
theorem d5_21 : decode jdk_42_method_139_code 21 = .ok (.iconst 0, 1) := by decide +kernel
theorem d5_22 : decode jdk_42_method_139_code 22 = .ok (.invokespecial 209, 3) := by decide +kernel
theorem d5_25 : decode jdk_42_method_139_code 25 = .ok (.areturn, 1) := by decide +kernel
theorem d5_26 : decode jdk_42_method_139_code 26 = .ok (.new 10, 3) := by decide +kernel
theorem d5_29 : decode jdk_42_method_139_code 29 = .ok (.dup, 1) := by decide +kernel
theorem d5_30 : decode jdk_42_method_139_code 30 = .ok (.iload_n 0, 1) := by decide +kernel
theorem d5_31 : decode jdk_42_method_139_code 31 = .ok (.invokestatic 1021, 3) := by decide +kernel
theorem d5_34 : decode jdk_42_method_139_code 34 = .ok (.iconst 1, 1) := by decide +kernel
theorem d5_35 : decode jdk_42_method_139_code 35 = .ok (.invokespecial 209, 3) := by decide +kernel
theorem d5_38 : decode jdk_42_method_139_code 38 = .ok (.areturn, 1) := by decide +kernel
theorem ef_5 (m : MethodId) (x0 : Int32) : entryFrame m #[(.int x0)] 1 = mkF m 0 #[.val (.int x0)] [] := by first | (simp [entryFrame, mkF, argsToLocals, Value.category, maxLocals]; done) | rfl
theorem pn_5 : plainName "java/lang/String" = true := by first | (simp [plainName, overriddenIn]; done) | decide +kernel
def Q_rm5 (Z : State) (p1 : Int32)  (h0 : Heap) (n0 : Nat) (v : Option Value) (h : Heap) (L : List Loc) : Prop := v = some (.ref h0.size) ∧ Fr n0 L ∧ Keep h0 h []
set_option maxRecDepth 65536 in
set_option maxHeartbeats 40000000 in
theorem rm5 (l : Launch) (Z : State) (a0 : Array Value) (hw : ∀ d ∈ tables_1, d.before a0 Z = true) (ws : List Jvm.Cond) (p1 : Int32)  (h0 : Heap) (n0 : Nat) (Z0 : n0 ≤ h0.size) (cs : Int32) (SC : Sta Z h0 "java/lang/String" "COMPACT_STRINGS" "Z" (.int cs)) (hcs : ¬ cs = (0 : Int32)) (hp1 : own_f6_0 p1 = (1 : Int32)) :
    MetFree l (⟨"java/lang/String", "valueOf", "(C)Ljava/lang/String;"⟩ : MethodName) (head1 (Jvm.Cond.code (⟨"java/lang/String", "valueOf", "(C)Ljava/lang/String;"⟩ : MethodName) jdk_42_method_139_code 1 (some (.object "java/lang/String")) :: ws) ({ frames := 2, cells := 2, slots := 5, locals := 27 } : Room)) (fun a U => a = #[(.int p1)] ∧ Z.Warmed39 U.vm ∧ U.heap = h0) (fun _ _ _ _ _ => True) (fun _ U o U' => ∃ v L, o = .returned v ∧ Q_rm5 Z p1  h0 n0 v U'.heap L ∧ FrameEnd U o U' L ({ frames := 2, cells := 2, slots := 5, locals := 27 } : Room).cells ({ frames := 2, cells := 2, slots := 5, locals := 27 } : Room).slots) := by
  refine MetFree.of_bodySF (plainFor_of_name pn_5) hisR ?_
  intro p e s m args below meth c s₁ Bd hml0 hP hK
  obtain ⟨rfl, hZ, hh⟩ := hP
  have hx := Bd.exec
  have hby := Bd.bytes
  have hml : c.maxLocals = 1 := hml0
  have hown : s.vm.findClass "java/lang/String" = some m.cls := findClass_of_methodNamed Bd.named
  have hnm := (name_of_methodNamed Bd.named Bd.method).1
  have X0 : Stand p l e ({ frames := 2, cells := 2, slots := 5, locals := 27 } : Room) s m #[(.int p1)] below meth c s₁ [] 0 0 := Stand.of_body Bd
  have e0 : s₁.heap = h0 := by rw [← hh, Bd.state]; rfl
  have N0 := Fr.nil n0
  have pre0 : ∀ t, Steps p.tables e below (s₁.setTop (mkF m 0 #[.val (.int p1)] [])) t → Steps p.tables e below (s₁.setTop (entryFrame m #[(.int p1)] 1)) t := fun t k => castTop (ef_5 m p1) k
  obtain ⟨T1, X1, e1, st1⟩ := getS2 X0 hx hZ hown (host := "") (Or.inl (hw _ (List.mem_of_getElem? (i := 28) rfl))) Via.refl e0 SC (g := (mkF m 0 #[.val (.int p1)] [])) rfl (hb hby d5_0)
  have K1 : ∀ t, Steps p.tables e below (T1.setTop (mkF m 3 #[.val (.int p1)] [(.int cs)])) t → Steps p.tables e below (s₁.setTop (entryFrame m #[(.int p1)] 1)) t := fun t hk => pre0 t (st1 _ hk)
  have hc3 : ¬ (cs = (0 : Int32)) := hcs
  have K2 : ∀ t, Steps p.tables e below (T1.setTop (mkF m 6 #[.val (.int p1)] [])) t → Steps p.tables e below (s₁.setTop (entryFrame m #[(.int p1)] 1)) t := by
    intro t hk
    refine K1 t ?_
    show Steps p.tables e below (T1.setTop (mkF m 3 #[.val (.int p1)] [(.int cs)])) _
    refine XS.ifNo X1.here hx rfl (hb hby d5_3) rfl ((if0 _ _).trans (feq hc3).1) ?_
    exact hk
  have K3 : ∀ t, Steps p.tables e below (T1.setTop (mkF m 7 #[.val (.int p1)] [(.int p1)])) t → Steps p.tables e below (s₁.setTop (entryFrame m #[(.int p1)] 1)) t := by
    intro t hk
    refine K2 t ?_
    show Steps p.tables e below (T1.setTop (mkF m 6 #[.val (.int p1)] [])) _
    refine XS.iloadN X1.here hx rfl (hb hby d5_6) rfl ?_
    show Steps p.tables e below (T1.setTop (mkF m 7 #[.val (.int p1)] [(.int p1)])) _
    exact hk
  obtain ⟨_, _, ⟨T4, L4, k4, n4⟩, -, X4, ⟨Lc4, hQ4, l4, y4, z4⟩, st4⟩ := Jvm.LawKit.callS X1 hx (y := (⟨"java/lang/StringLatin1", "canEncode", "(C)Z"⟩ : MethodName)) hown (mvT hZ (hw _ (List.mem_of_getElem? (i := 29) rfl))) (mvT hZ (hw _ (List.mem_of_getElem? (i := 30) rfl))) (mvT hZ (hw _ (List.mem_of_getElem? (i := 31) rfl))) (mvT hZ (hw _ (List.mem_of_getElem? (i := 32) rfl))) (by decide) (backOf (W := 0) (rm6 l Z a0 hw [] p1  h0 n0 Z0 ) hZ (hw _ (List.mem_of_getElem? (i := 32) rfl)) (hw _ (List.mem_of_getElem? (i := 31) rfl)) (by decide) (by decide)) (g := (mkF m 7 #[.val (.int p1)] [(.int p1)])) rfl (by rw [hml]; rfl) (argsL := [(.int p1)]) (rest := []) (lenOf (by decide +kernel : parseMethodDescriptor "(C)Z" = some ⟨[.char], (some .boolean)⟩) rfl) rfl (by show 2 * 0 + _ ≤ _; exact Nat.le_of_eq rfl) (hb hby d5_7) (fun _ _ => ⟨rfl, e1, (by decide : 0 + 0 ≤ _), (by decide : 0 + 0 ≤ _)⟩)
  dsimp only [Pt.U, Pt.locs, Pt.cells, Pt.slots] at X4 l4 y4 z4 st4 hQ4
  replace y4 := y4.symm; replace z4 := z4.symm; subst l4 y4 z4
  obtain ⟨rfl, Nq4, e4⟩ := hQ4
  have N4 := Fr.app N0 Nq4
  have K4 : ∀ t, Steps p.tables e below (T4.setTop (mkF m 10 #[.val (.int p1)] [(.int (own_f6_0 p1))])) t → Steps p.tables e below (s₁.setTop (entryFrame m #[(.int p1)] 1)) t := fun t hk => K3 t (st4 _ hk)
  have hc10 : ¬ ((own_f6_0 p1) = (0 : Int32)) := fun q => by rw [hp1] at q; exact absurd q (by decide)
  have K5 : ∀ t, Steps p.tables e below (T4.setTop (mkF m 13 #[.val (.int p1)] [])) t → Steps p.tables e below (s₁.setTop (entryFrame m #[(.int p1)] 1)) t := by
    intro t hk
    refine K4 t ?_
    show Steps p.tables e below (T4.setTop (mkF m 10 #[.val (.int p1)] [(.int (own_f6_0 p1))])) _
    refine XS.ifNo X4.here hx rfl (hb hby d5_10) rfl ((if0 _ _).trans (feq hc10).1) ?_
    exact hk
  obtain ⟨T40, h40, X40, e40, E40, A40, D40, -, st40⟩ := newO X4 hx hZ hown (hw _ (List.mem_of_getElem? (i := 33) rfl)) (hw _ (List.mem_of_getElem? (i := 34) rfl)) (hw _ (List.mem_of_getElem? (i := 26) rfl)) e4 (g := (mkF m 13 #[.val (.int p1)] [])) rfl (hb hby d5_13) (by decide) (by decide)
  obtain ⟨so, g40⟩ : ∃ z, z = h0.size := ⟨_, rfl⟩
  rw [← g40] at A40 D40 st40
  have F1 := D40 (Or.inr (hw _ (List.mem_of_getElem? (i := 45) rfl))) (ty := (.array .byte)) (by decide)
  have F2 := D40 (Or.inr (hw _ (List.mem_of_getElem? (i := 47) rfl))) (ty := .byte) (by decide)
  have K40 : ∀ t, Steps p.tables e below (T40.setTop (mkF m 16 #[.val (.int p1)] [(.ref so)])) t → Steps p.tables e below (s₁.setTop (entryFrame m #[(.int p1)] 1)) t := fun t hk => K5 t (st40 _ hk)
  have sz40 : n0 ≤ h40.size := Nat.le_trans Z0 E40.1
  have K41 : ∀ t, Steps p.tables e below (T40.setTop (mkF m 18 #[.val (.int p1)] [(.int p1), (.ref so), (.ref so)])) t → Steps p.tables e below (s₁.setTop (entryFrame m #[(.int p1)] 1)) t := by
    intro t hk
    refine K40 t ?_
    show Steps p.tables e below (T40.setTop (mkF m 16 #[.val (.int p1)] [(.ref so)])) _
    refine XS.dup X40.here hx rfl (hb hby d5_16) rfl rfl ?_
    show Steps p.tables e below (T40.setTop (mkF m 17 #[.val (.int p1)] [(.ref so), (.ref so)])) _
    refine XS.iloadN X40.here hx rfl (hb hby d5_17) rfl ?_
    show Steps p.tables e below (T40.setTop (mkF m 18 #[.val (.int p1)] [(.int p1), (.ref so), (.ref so)])) _
    exact hk
  obtain ⟨_, _, ⟨T42, L42, k42, n42⟩, -, X42, ⟨Lc42, hQ42, l42, y42, z42⟩, st42⟩ := Jvm.LawKit.callS X40 hx (y := (⟨"java/lang/StringLatin1", "toBytes", "(C)[B"⟩ : MethodName)) hown (mvT hZ (hw _ (List.mem_of_getElem? (i := 35) rfl))) (mvT hZ (hw _ (List.mem_of_getElem? (i := 36) rfl))) (mvT hZ (hw _ (List.mem_of_getElem? (i := 31) rfl))) (mvT hZ (hw _ (List.mem_of_getElem? (i := 37) rfl))) (by decide) (backOf (W := 2) (rm7 l Z a0 hw [] p1  h40 n0 sz40 ) hZ (hw _ (List.mem_of_getElem? (i := 37) rfl)) (hw _ (List.mem_of_getElem? (i := 31) rfl)) (by decide) (by decide)) (g := (mkF m 18 #[.val (.int p1)] [(.int p1), (.ref so), (.ref so)])) rfl (by rw [hml]; rfl) (argsL := [(.int p1)]) (rest := [(.ref so), (.ref so)]) (lenOf (by decide +kernel : parseMethodDescriptor "(C)[B" = some ⟨[.char], (some (.array .byte))⟩) rfl) rfl (by show 2 * 0 + _ ≤ _; exact Nat.le_of_eq rfl) (hb hby d5_18) (fun _ _ => ⟨rfl, e40, (by decide : 0 + 0 + 1 + 1 ≤ _), (by decide : 0 + 0 + 4 + 1 ≤ _)⟩)
  dsimp only [Pt.U, Pt.locs, Pt.cells, Pt.slots] at X42 l42 y42 z42 st42 hQ42
  replace y42 := y42.symm; replace z42 := z42.symm; subst l42 y42 z42
  obtain ⟨rfl, Nq42, Kb⟩ := hQ42
  have N42 := Fr.app N4 Nq42
  have K42 : ∀ t, Steps p.tables e below (T42.setTop (mkF m 21 #[.val (.int p1)] [(.ref h40.size), (.ref so), (.ref so)])) t → Steps p.tables e below (s₁.setTop (entryFrame m #[(.int p1)] 1)) t := fun t hk => K41 t (st42 _ hk)
  have szb := Nat.le_trans sz40 Kb.1
  have K43 : ∀ t, Steps p.tables e below (T42.setTop (mkF m 22 #[.val (.int p1)] [(.int (0 : Int32)), (.ref h40.size), (.ref so), (.ref so)])) t → Steps p.tables e below (s₁.setTop (entryFrame m #[(.int p1)] 1)) t := by
    intro t hk
    refine K42 t ?_
    show Steps p.tables e below (T42.setTop (mkF m 21 #[.val (.int p1)] [(.ref h40.size), (.ref so), (.ref so)])) _
    refine XS.iconst X42.here hx rfl (hb hby d5_21) ?_
    show Steps p.tables e below (T42.setTop (mkF m 22 #[.val (.int p1)] [(.int (0 : Int32)), (.ref h40.size), (.ref so), (.ref so)])) _
    exact hk
  obtain ⟨bb, hbb⟩ : ∃ z, z = h40.size := ⟨_, rfl⟩
  have K44 : ∀ t, Steps p.tables e below (T42.setTop (mkF m 22 #[.val (.int p1)] [(.int (0 : Int32)), (.ref bb), (.ref so), (.ref so)])) t → Steps p.tables e below (s₁.setTop (entryFrame m #[(.int p1)] 1)) t := by rw [hbb]; exact K43
  obtain ⟨_, _, ⟨T60, L60, k60, n60⟩, -, X60, ⟨Lc60, hQ60, l60, y60, z60⟩, st60⟩ := X42.specialBack hx (y := (⟨"java/lang/String", "<init>", "([BB)V"⟩ : MethodName)) rfl hown (mvT hZ (hw _ (List.mem_of_getElem? (i := 39) rfl))) (mvT hZ (hw _ (List.mem_of_getElem? (i := 40) rfl))) (mvT hZ (hw _ (List.mem_of_getElem? (i := 42) rfl))) (by decide) (backOf (W := 1) (rm8 l Z a0 hw [] so bb (0 : Int32) T42.heap n0 szb (A40.keep Kb) (F1.keep Kb nin0) (F2.keep Kb nin0) (by rw [g40]; exact Z0)) hZ (hw _ (List.mem_of_getElem? (i := 42) rfl)) (hw _ (List.mem_of_getElem? (i := 26) rfl)) (by decide) (by decide)) (g := (mkF m 22 #[.val (.int p1)] [(.int (0 : Int32)), (.ref bb), (.ref so), (.ref so)])) rfl (by rw [hml]; rfl) (Steps.refl _) (a := so) (argsL := [(.ref bb), (.int (0 : Int32))]) (rest := [(.ref so)]) (lenOf (by decide +kernel : parseMethodDescriptor "([BB)V" = some ⟨[(.array .byte), .byte], none⟩) rfl) rfl (by show 2 * 0 + _ ≤ _; exact Nat.le_of_eq rfl) (hb hby d5_22) (fun _ _ => ⟨rfl, rfl, (by decide : 0 + 0 + 1 + 1 + 0 ≤ _), (by decide : 0 + 0 + 4 + 1 + 0 ≤ _)⟩)
  dsimp only [Pt.U, Pt.locs, Pt.cells, Pt.slots] at X60 l60 y60 z60 st60 hQ60
  replace y60 := y60.symm; replace z60 := z60.symm; subst l60 y60 z60
  obtain ⟨rfl, Nq60, Ki⟩ := hQ60
  have N60 := Fr.app N42 Nq60
  have K60 : ∀ t, Steps p.tables e below (T60.setTop (mkF m 25 #[.val (.int p1)] [(.ref so)])) t → Steps p.tables e below (s₁.setTop (entryFrame m #[(.int p1)] 1)) t := fun t hk => K44 t (st60.trans hk)
  have KP : Keep h0 T60.heap [] := (((Keep.refl h0 []).ext E40).trans Kb all0).trans Ki (fun x hx => Or.inr (by cases List.mem_singleton.mp hx; exact Nat.le_of_eq g40.symm))
  obtain ⟨fs, hr, hrun, hended, hW, hsame⟩ := X60.leave (v := some (.ref so)) (fun h => by rw [Bd.returns] at h; cases h) Bd.notSynchronized
  exact ⟨_, _, K60 _ (retOut X60 hx Bd.returns rfl (Or.inr (Or.inr (Or.inr (Or.inr ⟨rfl, rfl, rfl⟩)))) (hb hby d5_25) hr), hrun, hended, _, _, rfl, ⟨by rw [g40], N60, KP⟩, ⟨_, rfl⟩, hW, hsame.mono (by decide) (by decide)⟩
theorem own_char (x : Int32) : own_f6_0 ((x &&& (255 : Int32)).toUInt32.toUInt16.toUInt32.toInt32) = (1 : Int32) := by
  have q := c_and x (255 : Int32) (by decide)
  have r := c_i2c (x &&& (255 : Int32))
  have e : (255 : Int32).toInt = 255 := by decide
  unfold own_f6_0
  rw [if_neg (by rw [Int32.lt_iff_toInt_lt]; omega)]
theorem own_atoms {Z : State} {a0 : Array Value} (hw : ∀ d ∈ tables_1, d.before a0 Z = true) : ∀ a ∈ Bundle.stringAtoms, a.before a0 Z = true := by
  intro a ha
  simp only [Bundle.stringAtoms, List.mem_cons, List.not_mem_nil, or_false] at ha
  rcases ha with rfl | rfl | rfl | rfl | rfl | rfl | rfl
  · exact (hw _ (List.mem_of_getElem? (i := 26) rfl))
  · exact (hw _ (List.mem_of_getElem? (i := 34) rfl))
  · exact (hw _ (List.mem_of_getElem? (i := 38) rfl))
  · exact (hw _ (List.mem_of_getElem? (i := 45) rfl))
  · exact (hw _ (List.mem_of_getElem? (i := 47) rfl))
  · exact (hw _ (List.mem_of_getElem? (i := 51) rfl))
  · exact (hw _ (List.mem_of_getElem? (i := 52) rfl))
theorem d4_0 : decode method_3_code 0 = .ok (.iload_n 0, 1) := by decide +kernel
theorem d4_1 : decode method_3_code 1 = .ok (.sipush 256, 3) := by decide +kernel
theorem d4_4 : decode method_3_code 4 = .ok (.iand, 1) := by decide +kernel
theorem d4_5 : decode method_3_code 5 = .ok (.ifCond .eq 6, 3) := by decide +kernel
theorem d4_8 : decode method_3_code 8 = .ok (.ldc 26, 2) := by decide +kernel
theorem d4_10 : decode method_3_code 10 = .ok (.areturn, 1) := by decide +kernel
theorem d4_11 : decode method_3_code 11 = .ok (.iload_n 0, 1) := by decide +kernel
theorem d4_12 : decode method_3_code 12 = .ok (.sipush 255, 3) := by decide +kernel
theorem d4_15 : decode method_3_code 15 = .ok (.iand, 1) := by decide +kernel
theorem d4_16 : decode method_3_code 16 = .ok (.i2c, 1) := by decide +kernel
theorem d4_17 : decode method_3_code 17 = .ok (.invokestatic 28, 3) := by decide +kernel
theorem d4_20 : decode method_3_code 20 = .ok (.areturn, 1) := by decide +kernel
theorem ef_4 (m : MethodId) (x0 : Int32) : entryFrame m #[(.int x0)] 1 = mkF m 0 #[.val (.int x0)] [] := by first | (simp [entryFrame, mkF, argsToLocals, Value.category, maxLocals]; done) | rfl
theorem pn_4 : plainName "com/example/bertilak/bertilak/model/NameTestDefaultPriorityPinLaw" = true := by first | (simp [plainName, overriddenIn]; done) | decide +kernel
def Q_rm4 (Z : State) (p1 : Int32)  (h0 : Heap) (n0 : Nat) (v : Option Value) (h : Heap) (L : List Loc) : Prop := (∃ r, v = some (.ref r)) ∧ Fr n0 L ∧ Ext h0 h
set_option maxRecDepth 65536 in
set_option maxHeartbeats 40000000 in
theorem rm4 (l : Launch) (Z : State) (a0 : Array Value) (hw : ∀ d ∈ tables_1, d.before a0 Z = true) (ws : List Jvm.Cond) (p1 : Int32)  (h0 : Heap) (n0 : Nat) (Z0 : n0 ≤ h0.size) (cs : Int32) (SC : Sta Z h0 "java/lang/String" "COMPACT_STRINGS" "Z" (.int cs)) (hcs : ¬ cs = (0 : Int32)) :
    MetFree l (⟨"com/example/bertilak/bertilak/model/NameTestDefaultPriorityPinLaw", "drawn", "(I)Ljava/lang/String;"⟩ : MethodName) (head1 (Jvm.Cond.code (⟨"com/example/bertilak/bertilak/model/NameTestDefaultPriorityPinLaw", "drawn", "(I)Ljava/lang/String;"⟩ : MethodName) method_3_code 1 (some (.object "java/lang/String")) :: ws) ({ frames := 3, cells := 2, slots := 5, locals := 39 } : Room)) (fun a U => a = #[(.int p1)] ∧ Z.Warmed39 U.vm ∧ U.heap = h0) (fun _ _ _ _ _ => True) (fun _ U o U' => ∃ v L, o = .returned v ∧ Q_rm4 Z p1  h0 n0 v U'.heap L ∧ ReturnedEndW U o U' L ({ frames := 3, cells := 2, slots := 5, locals := 39 } : Room).cells ({ frames := 3, cells := 2, slots := 5, locals := 39 } : Room).slots) := by
  refine MetFree.of_bodySF (plainFor_of_name pn_4) hisR ?_
  intro p e s m args below meth c s₁ Bd hml0 hP hK
  obtain ⟨rfl, hZ, hh⟩ := hP
  have hx := Bd.exec
  have hby := Bd.bytes
  have hml : c.maxLocals = 1 := hml0
  have hown : s.vm.findClass "com/example/bertilak/bertilak/model/NameTestDefaultPriorityPinLaw" = some m.cls := findClass_of_methodNamed Bd.named
  have hnm := (name_of_methodNamed Bd.named Bd.method).1
  have X0 : Stand p l e ({ frames := 3, cells := 2, slots := 5, locals := 39 } : Room) s m #[(.int p1)] below meth c s₁ [] 0 0 := Stand.of_body Bd
  have e0 : s₁.heap = h0 := by rw [← hh, Bd.state]; rfl
  have N0 := Fr.nil n0
  have pre0 : ∀ t, Steps p.tables e below (s₁.setTop (mkF m 0 #[.val (.int p1)] [])) t → Steps p.tables e below (s₁.setTop (entryFrame m #[(.int p1)] 1)) t := fun t k => castTop (ef_4 m p1) k
  have K1 : ∀ t, Steps p.tables e below (s₁.setTop (mkF m 5 #[.val (.int p1)] [(.int (p1 &&& (256 : Int32)))])) t → Steps p.tables e below (s₁.setTop (entryFrame m #[(.int p1)] 1)) t := by
    intro t hk
    refine pre0 t ?_
    show Steps p.tables e below (s₁.setTop (mkF m 0 #[.val (.int p1)] [])) _
    refine XS.iloadN X0.here hx rfl (hb hby d4_0) rfl ?_
    show Steps p.tables e below (s₁.setTop (mkF m 1 #[.val (.int p1)] [(.int p1)])) _
    refine XS.sipush X0.here hx rfl (hb hby d4_1) ?_
    show Steps p.tables e below (s₁.setTop (mkF m 4 #[.val (.int p1)] [(.int (256 : Int32)), (.int p1)])) _
    refine XS.iand X0.here hx rfl (hb hby d4_4) rfl ?_
    show Steps p.tables e below (s₁.setTop (mkF m 5 #[.val (.int p1)] [(.int (p1 &&& (256 : Int32)))])) _
    exact hk
  by_cases hc5 : (p1 &&& (256 : Int32)) = (0 : Int32)
  · have K2 : ∀ t, Steps p.tables e below (s₁.setTop (mkF m 11 #[.val (.int p1)] [])) t → Steps p.tables e below (s₁.setTop (entryFrame m #[(.int p1)] 1)) t := by
      intro t hk
      refine K1 t ?_
      show Steps p.tables e below (s₁.setTop (mkF m 5 #[.val (.int p1)] [(.int (p1 &&& (256 : Int32)))])) _
      refine XS.ifYes X0.here hx rfl (pc0 := 5) (pc' := 11) rfl (hb hby d4_5) rfl ((if0 _ _).trans (teq hc5).1) (by decide) (by decide) ?_
      exact hk
    have K3 : ∀ t, Steps p.tables e below (s₁.setTop (mkF m 17 #[.val (.int p1)] [(.int ((p1 &&& (255 : Int32)).toUInt32.toUInt16.toUInt32.toInt32))])) t → Steps p.tables e below (s₁.setTop (entryFrame m #[(.int p1)] 1)) t := by
      intro t hk
      refine K2 t ?_
      show Steps p.tables e below (s₁.setTop (mkF m 11 #[.val (.int p1)] [])) _
      refine XS.iloadN X0.here hx rfl (hb hby d4_11) rfl ?_
      show Steps p.tables e below (s₁.setTop (mkF m 12 #[.val (.int p1)] [(.int p1)])) _
      refine XS.sipush X0.here hx rfl (hb hby d4_12) ?_
      show Steps p.tables e below (s₁.setTop (mkF m 15 #[.val (.int p1)] [(.int (255 : Int32)), (.int p1)])) _
      refine XS.iand X0.here hx rfl (hb hby d4_15) rfl ?_
      show Steps p.tables e below (s₁.setTop (mkF m 16 #[.val (.int p1)] [(.int (p1 &&& (255 : Int32)))])) _
      refine XS.i2c X0.here hx rfl (hb hby d4_16) rfl ?_
      show Steps p.tables e below (s₁.setTop (mkF m 17 #[.val (.int p1)] [(.int ((p1 &&& (255 : Int32)).toUInt32.toUInt16.toUInt32.toInt32))])) _
      exact hk
    obtain ⟨_, _, ⟨T4, L4, k4, n4⟩, -, X4, ⟨Lc4, hQ4, l4, y4, z4⟩, st4⟩ := Jvm.LawKit.callS X0 hx (y := (⟨"java/lang/String", "valueOf", "(C)Ljava/lang/String;"⟩ : MethodName)) hown (mvT hZ (hw _ (List.mem_of_getElem? (i := 24) rfl))) (mvT hZ (hw _ (List.mem_of_getElem? (i := 25) rfl))) (mvT hZ (hw _ (List.mem_of_getElem? (i := 26) rfl))) (mvT hZ (hw _ (List.mem_of_getElem? (i := 27) rfl))) (by decide) (backOf (W := 0) (rm5 l Z a0 hw [] ((p1 &&& (255 : Int32)).toUInt32.toUInt16.toUInt32.toInt32)  h0 n0 Z0 cs SC hcs (own_char p1)) hZ (hw _ (List.mem_of_getElem? (i := 27) rfl)) (hw _ (List.mem_of_getElem? (i := 26) rfl)) (by decide) (by decide)) (g := (mkF m 17 #[.val (.int p1)] [(.int ((p1 &&& (255 : Int32)).toUInt32.toUInt16.toUInt32.toInt32))])) rfl (by rw [hml]; rfl) (argsL := [(.int ((p1 &&& (255 : Int32)).toUInt32.toUInt16.toUInt32.toInt32))]) (rest := []) (lenOf (by decide +kernel : parseMethodDescriptor "(C)Ljava/lang/String;" = some ⟨[.char], (some (.object "java/lang/String"))⟩) rfl) rfl (by show 2 * 0 + _ ≤ _; exact Nat.le_of_eq rfl) (hb hby d4_17) (fun _ _ => ⟨rfl, e0, (by decide : 0 + 2 ≤ _), (by decide : 0 + 5 ≤ _)⟩)
    dsimp only [Pt.U, Pt.locs, Pt.cells, Pt.slots] at X4 l4 y4 z4 st4 hQ4
    replace y4 := y4.symm; replace z4 := z4.symm; subst l4 y4 z4
    obtain ⟨rfl, Nq4, Kb⟩ := hQ4
    have N4 := Fr.app N0 Nq4
    have K4 : ∀ t, Steps p.tables e below (T4.setTop (mkF m 20 #[.val (.int p1)] [(.ref h0.size)])) t → Steps p.tables e below (s₁.setTop (entryFrame m #[(.int p1)] 1)) t := fun t hk => K3 t (st4 _ hk)
    have EX : Ext h0 T4.heap := ⟨Kb.1, fun a c hc => Kb.2.1 a c hc nin0⟩
    obtain ⟨fs, hr, hrun, hended, hW, hsame⟩ := X4.leave (v := some (.ref h0.size)) (fun h => by rw [Bd.returns] at h; cases h) Bd.notSynchronized
    exact ⟨_, _, K4 _ (retOut X4 hx Bd.returns rfl (Or.inr (Or.inr (Or.inr (Or.inr ⟨rfl, rfl, rfl⟩)))) (hb hby d4_20) hr), hrun, hended, _, _, rfl, ⟨⟨_, rfl⟩, N4, EX⟩, ReturnedEndW.of_narrow ⟨_, rfl⟩ hW (hsame.mono (by decide) (by decide))⟩
  · have K5 : ∀ t, Steps p.tables e below (s₁.setTop (mkF m 8 #[.val (.int p1)] [])) t → Steps p.tables e below (s₁.setTop (entryFrame m #[(.int p1)] 1)) t := by
      intro t hk
      refine K1 t ?_
      show Steps p.tables e below (s₁.setTop (mkF m 5 #[.val (.int p1)] [(.int (p1 &&& (256 : Int32)))])) _
      refine XS.ifNo X0.here hx rfl (hb hby d4_5) rfl ((if0 _ _).trans (feq hc5).1) ?_
      exact hk
    obtain ⟨a, T9, h9, k9, X9, e9, E9, S9, z9, hZ9, hown9, st9⟩ := ldcS (s := s) (vm0 := s.vm) X0 hx hZ hown (hw _ (List.mem_of_getElem? (i := 50) rfl)) (own_atoms hw) e0 ((State.WarmedH.refl s).since h0.size) (Nat.le_refl _) (g := (mkF m 8 #[.val (.int p1)] [])) rfl (hb hby d4_8) (n := 0) (by decide) (by decide) (by decide) (by decide)
    have K9 : ∀ t, Steps p.tables e below (T9.setTop (mkF m 10 #[.val (.int p1)] [(.ref a)])) t → Steps p.tables e below (s₁.setTop (entryFrame m #[(.int p1)] 1)) t := fun t hk => K5 t (st9 _ hk)
    have Y9 := X9.more (by decide : 0 + 2 ≤ 2) (by decide : 0 + (0 + 4) ≤ 5)
    obtain ⟨fs, hr, hrun, hended, hEnd⟩ := Y9.leaveW S9 (by rw [e9]; exact z9) (v := some (.ref a)) (fun h => by rw [Bd.returns] at h; cases h) Bd.notSynchronized
    exact ⟨_, _, K9 _ (retOut Y9 hx Bd.returns rfl (Or.inr (Or.inr (Or.inr (Or.inr ⟨rfl, rfl, rfl⟩)))) (hb hby d4_10) hr), hrun, hended, _, _, rfl, ⟨⟨_, rfl⟩, N0, by show Ext h0 T9.heap; rw [e9]; exact E9⟩, hEnd⟩
theorem d1_0 : decode prog_148_method_1_code 0 = .ok (.aload_n 0, 1) := by decide +kernel
theorem d1_1 : decode prog_148_method_1_code 1 = .ok (.invokespecial 1, 3) := by decide +kernel
theorem d1_4 : decode prog_148_method_1_code 4 = .ok (.aload_n 0, 1) := by decide +kernel
theorem d1_5 : decode prog_148_method_1_code 5 = .ok (.aload_n 1, 1) := by decide +kernel
theorem d1_6 : decode prog_148_method_1_code 6 = .ok (.putfield 7, 3) := by decide +kernel
theorem d1_9 : decode prog_148_method_1_code 9 = .ok (.aload_n 0, 1) := by decide +kernel
theorem d1_10 : decode prog_148_method_1_code 10 = .ok (.aload_n 2, 1) := by decide +kernel
theorem d1_11 : decode prog_148_method_1_code 11 = .ok (.putfield 13, 3) := by decide +kernel
theorem d1_14 : decode prog_148_method_1_code 14 = .ok (.return_, 1) := by decide +kernel
theorem ef_1_nn (m : MethodId) (x0 : Addr) : entryFrame m #[(.ref x0), .null, .null] 3 = mkF m 0 #[.val (.ref x0), .val .null, .val .null] [] := by first | (simp [entryFrame, mkF, argsToLocals, Value.category, maxLocals]; done) | rfl
theorem pn_1 : plainName "com/example/bertilak/bertilak/model/NameTest" = true := by first | (simp [plainName, overriddenIn]; done) | decide +kernel
def Q_rm1_nn (Z : State) (ob : Addr)  (h0 : Heap) (n0 : Nat) (v : Option Value) (h : Heap) (L : List Loc) : Prop := v = none ∧ Fr n0 L ∧ Keep h0 h [ob] ∧ Exa Z h ob "com/example/bertilak/bertilak/model/NameTest" ∧ Fld Z h ob "com/example/bertilak/bertilak/model/NameTest" "_namespaceUri" "Ljava/lang/String;" .null ∧ Fld Z h ob "com/example/bertilak/bertilak/model/NameTest" "_localName" "Ljava/lang/String;" .null
set_option maxRecDepth 65536 in
set_option maxHeartbeats 40000000 in
theorem rm1_nn (l : Launch) (Z : State) (a0 : Array Value) (hw : ∀ d ∈ tables_1, d.before a0 Z = true) (ws : List Jvm.Cond) (ob : Addr)  (h0 : Heap) (n0 : Nat) (Z0 : n0 ≤ h0.size) (E : Exa Z h0 ob "com/example/bertilak/bertilak/model/NameTest") (F1 : Fld Z h0 ob "com/example/bertilak/bertilak/model/NameTest" "_namespaceUri" "Ljava/lang/String;" .null) (F2 : Fld Z h0 ob "com/example/bertilak/bertilak/model/NameTest" "_localName" "Ljava/lang/String;" .null) (gs : n0 ≤ ob) :
    MetFree l (⟨"com/example/bertilak/bertilak/model/NameTest", "<init>", "(Ljava/lang/String;Ljava/lang/String;)V"⟩ : MethodName) (head1 (Jvm.Cond.code (⟨"com/example/bertilak/bertilak/model/NameTest", "<init>", "(Ljava/lang/String;Ljava/lang/String;)V"⟩ : MethodName) prog_148_method_1_code 3 none :: ws) ({ frames := 1, cells := 0, slots := 0, locals := 12 } : Room)) (fun a U => a = #[(.ref ob), .null, .null] ∧ Z.Warmed39 U.vm ∧ U.heap = h0) (fun _ _ _ _ _ => True) (fun _ U o U' => ∃ v L, o = .returned v ∧ Q_rm1_nn Z ob  h0 n0 v U'.heap L ∧ FrameEnd U o U' L ({ frames := 1, cells := 0, slots := 0, locals := 12 } : Room).cells ({ frames := 1, cells := 0, slots := 0, locals := 12 } : Room).slots) := by
  refine MetFree.of_bodySF (plainFor_of_name pn_1) hisR ?_
  intro p e s m args below meth c s₁ Bd hml0 hP hK
  obtain ⟨rfl, hZ, hh⟩ := hP
  have hx := Bd.exec
  have hby := Bd.bytes
  have hml : c.maxLocals = 3 := hml0
  have hown : s.vm.findClass "com/example/bertilak/bertilak/model/NameTest" = some m.cls := findClass_of_methodNamed Bd.named
  have hnm := (name_of_methodNamed Bd.named Bd.method).1
  have X0 : Stand p l e ({ frames := 1, cells := 0, slots := 0, locals := 12 } : Room) s m #[(.ref ob), .null, .null] below meth c s₁ [] 0 0 := Stand.of_body Bd
  have e0 : s₁.heap = h0 := by rw [← hh, Bd.state]; rfl
  have N0 := Fr.nil n0
  have pre0 : ∀ t, Steps p.tables e below (s₁.setTop (mkF m 0 #[.val (.ref ob), .val .null, .val .null] [])) t → Steps p.tables e below (s₁.setTop (entryFrame m #[(.ref ob), .null, .null] 3)) t := fun t k => castTop (ef_1_nn m ob) k
  have K1 : ∀ t, Steps p.tables e below (s₁.setTop (mkF m 1 #[.val (.ref ob), .val .null, .val .null] [(.ref ob)])) t → Steps p.tables e below (s₁.setTop (entryFrame m #[(.ref ob), .null, .null] 3)) t := by
    intro t hk
    refine pre0 t ?_
    show Steps p.tables e below (s₁.setTop (mkF m 0 #[.val (.ref ob), .val .null, .val .null] [])) _
    refine XS.aloadN X0.here hx rfl (hb hby d1_0) rfl rfl ?_
    show Steps p.tables e below (s₁.setTop (mkF m 1 #[.val (.ref ob), .val .null, .val .null] [(.ref ob)])) _
    exact hk
  obtain ⟨T11, X11, e11, st11⟩ := initO X0 hx hZ hown (hw _ (List.mem_of_getElem? (i := 6) rfl)) (hw _ (List.mem_of_getElem? (i := 7) rfl)) (hw _ (List.mem_of_getElem? (i := 8) rfl)) e0 (g := (mkF m 1 #[.val (.ref ob), .val .null, .val .null] [(.ref ob)])) rfl (by rw [hml]; rfl) rfl (hb hby d1_1) (by decide) (W := 0) (by show 2 * 0 + _ ≤ _; exact Nat.le_of_eq rfl) (by decide)
  have K11 : ∀ t, Steps p.tables e below (T11.setTop (mkF m 4 #[.val (.ref ob), .val .null, .val .null] [])) t → Steps p.tables e below (s₁.setTop (entryFrame m #[(.ref ob), .null, .null] 3)) t := fun t hk => K1 t (st11 _ hk)
  have K2 : ∀ t, Steps p.tables e below (T11.setTop (mkF m 6 #[.val (.ref ob), .val .null, .val .null] [.null, (.ref ob)])) t → Steps p.tables e below (s₁.setTop (entryFrame m #[(.ref ob), .null, .null] 3)) t := by
    intro t hk
    refine K11 t ?_
    show Steps p.tables e below (T11.setTop (mkF m 4 #[.val (.ref ob), .val .null, .val .null] [])) _
    refine XS.aloadN X11.here hx rfl (hb hby d1_4) rfl rfl ?_
    show Steps p.tables e below (T11.setTop (mkF m 5 #[.val (.ref ob), .val .null, .val .null] [(.ref ob)])) _
    refine XS.aloadN X11.here hx rfl (hb hby d1_5) rfl rfl ?_
    show Steps p.tables e below (T11.setTop (mkF m 6 #[.val (.ref ob), .val .null, .val .null] [.null, (.ref ob)])) _
    exact hk
  obtain ⟨T12, h12, X12, e12, W12, st12⟩ := putF X11 hx hZ hown (host := "") (Or.inl (hw _ (List.mem_of_getElem? (i := 9) rfl))) Via.refl e11 F1 E (Or.inr ⟨(hw _ (List.mem_of_getElem? (i := 10) rfl)), rfl, hnm⟩) (hw _ (List.mem_of_getElem? (i := 1) rfl)) (ty := (.object "java/lang/String")) (by decide) rfl rfl (g := (mkF m 6 #[.val (.ref ob), .val .null, .val .null] [.null, (.ref ob)])) rfl rfl (hb hby d1_6)
  have K13 : ∀ t, Steps p.tables e below (T12.setTop (mkF m 9 #[.val (.ref ob), .val .null, .val .null] [])) t → Steps p.tables e below (s₁.setTop (entryFrame m #[(.ref ob), .null, .null] 3)) t := fun t hk => K2 t (st12 _ hk)
  have K31 : ∀ t, Steps p.tables e below (T12.setTop (mkF m 11 #[.val (.ref ob), .val .null, .val .null] [.null, (.ref ob)])) t → Steps p.tables e below (s₁.setTop (entryFrame m #[(.ref ob), .null, .null] 3)) t := by
    intro t hk
    refine K13 t ?_
    show Steps p.tables e below (T12.setTop (mkF m 9 #[.val (.ref ob), .val .null, .val .null] [])) _
    refine XS.aloadN X12.here hx rfl (hb hby d1_9) rfl rfl ?_
    show Steps p.tables e below (T12.setTop (mkF m 10 #[.val (.ref ob), .val .null, .val .null] [(.ref ob)])) _
    refine XS.aloadN X12.here hx rfl (hb hby d1_10) rfl rfl ?_
    show Steps p.tables e below (T12.setTop (mkF m 11 #[.val (.ref ob), .val .null, .val .null] [.null, (.ref ob)])) _
    exact hk
  have F3 := F2.other W12 (Or.inr (slot_ne (Or.inr (hw _ (List.mem_of_getElem? (i := 12) rfl))) (Or.inr (hw _ (List.mem_of_getElem? (i := 10) rfl))) (by decide) (t := (.object "java/lang/String")) (t' := (.object "java/lang/String")) (by decide) (by decide)))
  obtain ⟨T14, h14, X14, e14, W14, st14⟩ := putF X12 hx hZ hown (host := "") (Or.inl (hw _ (List.mem_of_getElem? (i := 11) rfl))) Via.refl e12 F3 (E.wr W12) (Or.inr ⟨(hw _ (List.mem_of_getElem? (i := 12) rfl)), rfl, hnm⟩) (hw _ (List.mem_of_getElem? (i := 1) rfl)) (ty := (.object "java/lang/String")) (by decide) rfl rfl (g := (mkF m 11 #[.val (.ref ob), .val .null, .val .null] [.null, (.ref ob)])) rfl rfl (hb hby d1_11)
  have F4 := (F1.same W12).other W14 (Or.inr (slot_ne (Or.inr (hw _ (List.mem_of_getElem? (i := 10) rfl))) (Or.inr (hw _ (List.mem_of_getElem? (i := 12) rfl))) (by decide) (t := (.object "java/lang/String")) (t' := (.object "java/lang/String")) (by decide) (by decide)))
  have F5 := F3.same W14
  have K15 : ∀ t, Steps p.tables e below (T14.setTop (mkF m 14 #[.val (.ref ob), .val .null, .val .null] [])) t → Steps p.tables e below (s₁.setTop (entryFrame m #[(.ref ob), .null, .null] 3)) t := fun t hk => K31 t (st14 _ hk)
  have N14 := Fr.snoc X14 (Fr.snoc X12 N0 gs) gs
  have KP : Keep h0 T14.heap [ob] ∧ Exa Z T14.heap ob "com/example/bertilak/bertilak/model/NameTest" ∧ Fld Z T14.heap ob "com/example/bertilak/bertilak/model/NameTest" "_namespaceUri" "Ljava/lang/String;" .null ∧ Fld Z T14.heap ob "com/example/bertilak/bertilak/model/NameTest" "_localName" "Ljava/lang/String;" .null := by rw [e14]; exact ⟨((Keep.refl h0 [ob]).wr W12 (Or.inl (List.mem_of_getElem? (i := 0) rfl))).wr W14 (Or.inl (List.mem_of_getElem? (i := 0) rfl)), (E.wr W12).wr W14, F4, F5⟩
  obtain ⟨fs, hr, hrun, hended, hW, hsame⟩ := X14.leave (v := none) (fun _ => rfl) Bd.notSynchronized
  exact ⟨_, _, K15 _ (X14.returnOut hx Bd.returns (hb hby d1_14) hr), hrun, hended, _, _, rfl, ⟨rfl, N14, KP⟩, ⟨_, rfl⟩, hW, hsame.mono (by decide) (by decide)⟩
theorem d3_0 : decode prog_148_method_6_code 0 = .ok (.aload_n 0, 1) := by decide +kernel
theorem d3_1 : decode prog_148_method_6_code 1 = .ok (.getfield 13, 3) := by decide +kernel
theorem d3_4 : decode prog_148_method_6_code 4 = .ok (.ifnull 12, 3) := by decide +kernel
theorem d3_7 : decode prog_148_method_6_code 7 = .ok (.aload_n 0, 1) := by decide +kernel
theorem d3_8 : decode prog_148_method_6_code 8 = .ok (.getfield 7, 3) := by decide +kernel
theorem d3_11 : decode prog_148_method_6_code 11 = .ok (.ifnull 5, 3) := by decide +kernel
theorem d3_14 : decode prog_148_method_6_code 14 = .ok (.dconst 0, 1) := by decide +kernel
theorem d3_15 : decode prog_148_method_6_code 15 = .ok (.dreturn, 1) := by decide +kernel
theorem d3_16 : decode prog_148_method_6_code 16 = .ok (.aload_n 0, 1) := by decide +kernel
theorem d3_17 : decode prog_148_method_6_code 17 = .ok (.getfield 13, 3) := by decide +kernel
theorem d3_20 : decode prog_148_method_6_code 20 = .ok (.ifnonnull 10, 3) := by decide +kernel
theorem d3_23 : decode prog_148_method_6_code 23 = .ok (.aload_n 0, 1) := by decide +kernel
theorem d3_24 : decode prog_148_method_6_code 24 = .ok (.getfield 7, 3) := by decide +kernel
theorem d3_27 : decode prog_148_method_6_code 27 = .ok (.ifnull 9, 3) := by decide +kernel
theorem d3_30 : decode prog_148_method_6_code 30 = .ok (.ldc2_w 52, 3) := by decide +kernel
theorem d3_33 : decode prog_148_method_6_code 33 = .ok (.goto 6, 3) := by decide +kernel
theorem d3_36 : decode prog_148_method_6_code 36 = .ok (.ldc2_w 54, 3) := by decide +kernel
theorem d3_39 : decode prog_148_method_6_code 39 = .ok (.dreturn, 1) := by decide +kernel
theorem ef_3 (m : MethodId) (x0 : Addr) : entryFrame m #[(.ref x0)] 1 = mkF m 0 #[.val (.ref x0)] [] := by first | (simp [entryFrame, mkF, argsToLocals, Value.category, maxLocals]; done) | rfl
theorem pn_3 : plainName "com/example/bertilak/bertilak/model/NameTest" = true := by first | (simp [plainName, overriddenIn]; done) | decide +kernel
def Q_rm3_nn (Z : State) (ob : Addr)  (h0 : Heap) (n0 : Nat) (v : Option Value) (h : Heap) (L : List Loc) : Prop := v = some (.double (13826050856027422720 : UInt64)) ∧ Fr n0 L ∧ h = h0
set_option maxRecDepth 65536 in
set_option maxHeartbeats 40000000 in
theorem rm3_nn (l : Launch) (Z : State) (a0 : Array Value) (hw : ∀ d ∈ tables_1, d.before a0 Z = true) (ws : List Jvm.Cond) (ob : Addr)  (h0 : Heap) (n0 : Nat) (Z0 : n0 ≤ h0.size) (F1 : Fld Z h0 ob "com/example/bertilak/bertilak/model/NameTest" "_namespaceUri" "Ljava/lang/String;" .null) (F2 : Fld Z h0 ob "com/example/bertilak/bertilak/model/NameTest" "_localName" "Ljava/lang/String;" .null) :
    MetFree l (⟨"com/example/bertilak/bertilak/model/NameTest", "defaultPriority", "()D"⟩ : MethodName) (head1 (Jvm.Cond.code (⟨"com/example/bertilak/bertilak/model/NameTest", "defaultPriority", "()D"⟩ : MethodName) prog_148_method_6_code 1 (some .double) :: ws) ({ frames := 0, cells := 0, slots := 0, locals := 0 } : Room)) (fun a U => a = #[(.ref ob)] ∧ Z.Warmed39 U.vm ∧ U.heap = h0) (fun _ _ _ _ _ => True) (fun _ U o U' => ∃ v L, o = .returned v ∧ Q_rm3_nn Z ob  h0 n0 v U'.heap L ∧ FrameEnd U o U' L ({ frames := 0, cells := 0, slots := 0, locals := 0 } : Room).cells ({ frames := 0, cells := 0, slots := 0, locals := 0 } : Room).slots) := by
  refine MetFree.of_bodySF (plainFor_of_name pn_3) hisR ?_
  intro p e s m args below meth c s₁ Bd hml0 hP hK
  obtain ⟨rfl, hZ, hh⟩ := hP
  have hx := Bd.exec
  have hby := Bd.bytes
  have hml : c.maxLocals = 1 := hml0
  have hown : s.vm.findClass "com/example/bertilak/bertilak/model/NameTest" = some m.cls := findClass_of_methodNamed Bd.named
  have hnm := (name_of_methodNamed Bd.named Bd.method).1
  have X0 : Stand p l e ({ frames := 0, cells := 0, slots := 0, locals := 0 } : Room) s m #[(.ref ob)] below meth c s₁ [] 0 0 := Stand.of_body Bd
  have e0 : s₁.heap = h0 := by rw [← hh, Bd.state]; rfl
  have N0 := Fr.nil n0
  have pre0 : ∀ t, Steps p.tables e below (s₁.setTop (mkF m 0 #[.val (.ref ob)] [])) t → Steps p.tables e below (s₁.setTop (entryFrame m #[(.ref ob)] 1)) t := fun t k => castTop (ef_3 m ob) k
  have K1 : ∀ t, Steps p.tables e below (s₁.setTop (mkF m 1 #[.val (.ref ob)] [(.ref ob)])) t → Steps p.tables e below (s₁.setTop (entryFrame m #[(.ref ob)] 1)) t := by
    intro t hk
    refine pre0 t ?_
    show Steps p.tables e below (s₁.setTop (mkF m 0 #[.val (.ref ob)] [])) _
    refine XS.aloadN X0.here hx rfl (hb hby d3_0) rfl rfl ?_
    show Steps p.tables e below (s₁.setTop (mkF m 1 #[.val (.ref ob)] [(.ref ob)])) _
    exact hk
  obtain ⟨T2, X2, e2, st2⟩ := getF X0 hx hZ hown (host := "") (Or.inl (hw _ (List.mem_of_getElem? (i := 11) rfl))) Via.refl e0 F2 (g := (mkF m 1 #[.val (.ref ob)] [(.ref ob)])) rfl rfl (hb hby d3_1)
  have K2 : ∀ t, Steps p.tables e below (T2.setTop (mkF m 4 #[.val (.ref ob)] [.null])) t → Steps p.tables e below (s₁.setTop (entryFrame m #[(.ref ob)] 1)) t := fun t hk => K1 t (st2 _ hk)
  have K3 : ∀ t, Steps p.tables e below (T2.setTop (mkF m 17 #[.val (.ref ob)] [(.ref ob)])) t → Steps p.tables e below (s₁.setTop (entryFrame m #[(.ref ob)] 1)) t := by
    intro t hk
    refine K2 t ?_
    show Steps p.tables e below (T2.setTop (mkF m 4 #[.val (.ref ob)] [.null])) _
    refine XS.ifnullYes X2.here hx rfl (pc0 := 4) (pc' := 16) rfl (hb hby d3_4) rfl (by decide) (by decide) ?_
    show Steps p.tables e below (T2.setTop (mkF m 16 #[.val (.ref ob)] [])) _
    refine XS.aloadN X2.here hx rfl (hb hby d3_16) rfl rfl ?_
    show Steps p.tables e below (T2.setTop (mkF m 17 #[.val (.ref ob)] [(.ref ob)])) _
    exact hk
  obtain ⟨T4, X4, e4, st4⟩ := getF X2 hx hZ hown (host := "") (Or.inl (hw _ (List.mem_of_getElem? (i := 11) rfl))) Via.refl e2 F2 (g := (mkF m 17 #[.val (.ref ob)] [(.ref ob)])) rfl rfl (hb hby d3_17)
  have K4 : ∀ t, Steps p.tables e below (T4.setTop (mkF m 20 #[.val (.ref ob)] [.null])) t → Steps p.tables e below (s₁.setTop (entryFrame m #[(.ref ob)] 1)) t := fun t hk => K3 t (st4 _ hk)
  have K5 : ∀ t, Steps p.tables e below (T4.setTop (mkF m 24 #[.val (.ref ob)] [(.ref ob)])) t → Steps p.tables e below (s₁.setTop (entryFrame m #[(.ref ob)] 1)) t := by
    intro t hk
    refine K4 t ?_
    show Steps p.tables e below (T4.setTop (mkF m 20 #[.val (.ref ob)] [.null])) _
    refine XS.ifnonnullNo X4.here hx rfl (hb hby d3_20) rfl ?_
    show Steps p.tables e below (T4.setTop (mkF m 23 #[.val (.ref ob)] [])) _
    refine XS.aloadN X4.here hx rfl (hb hby d3_23) rfl rfl ?_
    show Steps p.tables e below (T4.setTop (mkF m 24 #[.val (.ref ob)] [(.ref ob)])) _
    exact hk
  obtain ⟨T6, X6, e6, st6⟩ := getF X4 hx hZ hown (host := "") (Or.inl (hw _ (List.mem_of_getElem? (i := 9) rfl))) Via.refl e4 F1 (g := (mkF m 24 #[.val (.ref ob)] [(.ref ob)])) rfl rfl (hb hby d3_24)
  have K6 : ∀ t, Steps p.tables e below (T6.setTop (mkF m 27 #[.val (.ref ob)] [.null])) t → Steps p.tables e below (s₁.setTop (entryFrame m #[(.ref ob)] 1)) t := fun t hk => K5 t (st6 _ hk)
  have K7 : ∀ t, Steps p.tables e below (T6.setTop (mkF m 39 #[.val (.ref ob)] [(.double (13826050856027422720 : UInt64))])) t → Steps p.tables e below (s₁.setTop (entryFrame m #[(.ref ob)] 1)) t := by
    intro t hk
    refine K6 t ?_
    show Steps p.tables e below (T6.setTop (mkF m 27 #[.val (.ref ob)] [.null])) _
    refine XS.ifnullYes X6.here hx rfl (pc0 := 27) (pc' := 36) rfl (hb hby d3_27) rfl (by decide) (by decide) ?_
    show Steps p.tables e below (T6.setTop (mkF m 36 #[.val (.ref ob)] [])) _
    refine X6.ldc2DoubleC hx hown (mvT hZ (hw _ (List.mem_of_getElem? (i := 18) rfl))) (g := (mkF m 36 #[.val (.ref ob)] [])) rfl (hb hby d3_36) _ ?_
    show Steps p.tables e below (T6.setTop (mkF m 39 #[.val (.ref ob)] [(.double (13826050856027422720 : UInt64))])) _
    exact hk
  obtain ⟨fs, hr, hrun, hended, hW, hsame⟩ := X6.leave (v := some (.double (13826050856027422720 : UInt64))) (fun h => by rw [Bd.returns] at h; cases h) Bd.notSynchronized
  exact ⟨_, _, K7 _ (retOut X6 hx Bd.returns rfl (Or.inr (Or.inr (Or.inl ⟨rfl, rfl, _, rfl⟩))) (hb hby d3_39) hr), hrun, hended, _, _, rfl, ⟨rfl, N0, e6⟩, ⟨_, rfl⟩, hW, hsame.mono (by decide) (by decide)⟩
theorem ef_1_nr (m : MethodId) (x0 : Addr) (x2 : Addr) : entryFrame m #[(.ref x0), .null, (.ref x2)] 3 = mkF m 0 #[.val (.ref x0), .val .null, .val (.ref x2)] [] := by first | (simp [entryFrame, mkF, argsToLocals, Value.category, maxLocals]; done) | rfl
def Q_rm1_nr (Z : State) (ob : Addr) (x2 : Addr)  (h0 : Heap) (n0 : Nat) (v : Option Value) (h : Heap) (L : List Loc) : Prop := v = none ∧ Fr n0 L ∧ Keep h0 h [ob] ∧ Exa Z h ob "com/example/bertilak/bertilak/model/NameTest" ∧ Fld Z h ob "com/example/bertilak/bertilak/model/NameTest" "_namespaceUri" "Ljava/lang/String;" .null ∧ Fld Z h ob "com/example/bertilak/bertilak/model/NameTest" "_localName" "Ljava/lang/String;" (.ref x2)
set_option maxRecDepth 65536 in
set_option maxHeartbeats 40000000 in
theorem rm1_nr (l : Launch) (Z : State) (a0 : Array Value) (hw : ∀ d ∈ tables_1, d.before a0 Z = true) (ws : List Jvm.Cond) (ob : Addr) (x2 : Addr)  (h0 : Heap) (n0 : Nat) (Z0 : n0 ≤ h0.size) (E : Exa Z h0 ob "com/example/bertilak/bertilak/model/NameTest") (F1 : Fld Z h0 ob "com/example/bertilak/bertilak/model/NameTest" "_namespaceUri" "Ljava/lang/String;" .null) (F2 : Fld Z h0 ob "com/example/bertilak/bertilak/model/NameTest" "_localName" "Ljava/lang/String;" .null) (gs : n0 ≤ ob) :
    MetFree l (⟨"com/example/bertilak/bertilak/model/NameTest", "<init>", "(Ljava/lang/String;Ljava/lang/String;)V"⟩ : MethodName) (head1 (Jvm.Cond.code (⟨"com/example/bertilak/bertilak/model/NameTest", "<init>", "(Ljava/lang/String;Ljava/lang/String;)V"⟩ : MethodName) prog_148_method_1_code 3 none :: ws) ({ frames := 1, cells := 0, slots := 0, locals := 12 } : Room)) (fun a U => a = #[(.ref ob), .null, (.ref x2)] ∧ Z.Warmed39 U.vm ∧ U.heap = h0) (fun _ _ _ _ _ => True) (fun _ U o U' => ∃ v L, o = .returned v ∧ Q_rm1_nr Z ob x2  h0 n0 v U'.heap L ∧ FrameEnd U o U' L ({ frames := 1, cells := 0, slots := 0, locals := 12 } : Room).cells ({ frames := 1, cells := 0, slots := 0, locals := 12 } : Room).slots) := by
  refine MetFree.of_bodySF (plainFor_of_name pn_1) hisR ?_
  intro p e s m args below meth c s₁ Bd hml0 hP hK
  obtain ⟨rfl, hZ, hh⟩ := hP
  have hx := Bd.exec
  have hby := Bd.bytes
  have hml : c.maxLocals = 3 := hml0
  have hown : s.vm.findClass "com/example/bertilak/bertilak/model/NameTest" = some m.cls := findClass_of_methodNamed Bd.named
  have hnm := (name_of_methodNamed Bd.named Bd.method).1
  have X0 : Stand p l e ({ frames := 1, cells := 0, slots := 0, locals := 12 } : Room) s m #[(.ref ob), .null, (.ref x2)] below meth c s₁ [] 0 0 := Stand.of_body Bd
  have e0 : s₁.heap = h0 := by rw [← hh, Bd.state]; rfl
  have N0 := Fr.nil n0
  have pre0 : ∀ t, Steps p.tables e below (s₁.setTop (mkF m 0 #[.val (.ref ob), .val .null, .val (.ref x2)] [])) t → Steps p.tables e below (s₁.setTop (entryFrame m #[(.ref ob), .null, (.ref x2)] 3)) t := fun t k => castTop (ef_1_nr m ob x2) k
  have K1 : ∀ t, Steps p.tables e below (s₁.setTop (mkF m 1 #[.val (.ref ob), .val .null, .val (.ref x2)] [(.ref ob)])) t → Steps p.tables e below (s₁.setTop (entryFrame m #[(.ref ob), .null, (.ref x2)] 3)) t := by
    intro t hk
    refine pre0 t ?_
    show Steps p.tables e below (s₁.setTop (mkF m 0 #[.val (.ref ob), .val .null, .val (.ref x2)] [])) _
    refine XS.aloadN X0.here hx rfl (hb hby d1_0) rfl rfl ?_
    show Steps p.tables e below (s₁.setTop (mkF m 1 #[.val (.ref ob), .val .null, .val (.ref x2)] [(.ref ob)])) _
    exact hk
  obtain ⟨T11, X11, e11, st11⟩ := initO X0 hx hZ hown (hw _ (List.mem_of_getElem? (i := 6) rfl)) (hw _ (List.mem_of_getElem? (i := 7) rfl)) (hw _ (List.mem_of_getElem? (i := 8) rfl)) e0 (g := (mkF m 1 #[.val (.ref ob), .val .null, .val (.ref x2)] [(.ref ob)])) rfl (by rw [hml]; rfl) rfl (hb hby d1_1) (by decide) (W := 0) (by show 2 * 0 + _ ≤ _; exact Nat.le_of_eq rfl) (by decide)
  have K11 : ∀ t, Steps p.tables e below (T11.setTop (mkF m 4 #[.val (.ref ob), .val .null, .val (.ref x2)] [])) t → Steps p.tables e below (s₁.setTop (entryFrame m #[(.ref ob), .null, (.ref x2)] 3)) t := fun t hk => K1 t (st11 _ hk)
  have K2 : ∀ t, Steps p.tables e below (T11.setTop (mkF m 6 #[.val (.ref ob), .val .null, .val (.ref x2)] [.null, (.ref ob)])) t → Steps p.tables e below (s₁.setTop (entryFrame m #[(.ref ob), .null, (.ref x2)] 3)) t := by
    intro t hk
    refine K11 t ?_
    show Steps p.tables e below (T11.setTop (mkF m 4 #[.val (.ref ob), .val .null, .val (.ref x2)] [])) _
    refine XS.aloadN X11.here hx rfl (hb hby d1_4) rfl rfl ?_
    show Steps p.tables e below (T11.setTop (mkF m 5 #[.val (.ref ob), .val .null, .val (.ref x2)] [(.ref ob)])) _
    refine XS.aloadN X11.here hx rfl (hb hby d1_5) rfl rfl ?_
    show Steps p.tables e below (T11.setTop (mkF m 6 #[.val (.ref ob), .val .null, .val (.ref x2)] [.null, (.ref ob)])) _
    exact hk
  obtain ⟨T12, h12, X12, e12, W12, st12⟩ := putF X11 hx hZ hown (host := "") (Or.inl (hw _ (List.mem_of_getElem? (i := 9) rfl))) Via.refl e11 F1 E (Or.inr ⟨(hw _ (List.mem_of_getElem? (i := 10) rfl)), rfl, hnm⟩) (hw _ (List.mem_of_getElem? (i := 1) rfl)) (ty := (.object "java/lang/String")) (by decide) rfl rfl (g := (mkF m 6 #[.val (.ref ob), .val .null, .val (.ref x2)] [.null, (.ref ob)])) rfl rfl (hb hby d1_6)
  have K13 : ∀ t, Steps p.tables e below (T12.setTop (mkF m 9 #[.val (.ref ob), .val .null, .val (.ref x2)] [])) t → Steps p.tables e below (s₁.setTop (entryFrame m #[(.ref ob), .null, (.ref x2)] 3)) t := fun t hk => K2 t (st12 _ hk)
  have K31 : ∀ t, Steps p.tables e below (T12.setTop (mkF m 11 #[.val (.ref ob), .val .null, .val (.ref x2)] [(.ref x2), (.ref ob)])) t → Steps p.tables e below (s₁.setTop (entryFrame m #[(.ref ob), .null, (.ref x2)] 3)) t := by
    intro t hk
    refine K13 t ?_
    show Steps p.tables e below (T12.setTop (mkF m 9 #[.val (.ref ob), .val .null, .val (.ref x2)] [])) _
    refine XS.aloadN X12.here hx rfl (hb hby d1_9) rfl rfl ?_
    show Steps p.tables e below (T12.setTop (mkF m 10 #[.val (.ref ob), .val .null, .val (.ref x2)] [(.ref ob)])) _
    refine XS.aloadN X12.here hx rfl (hb hby d1_10) rfl rfl ?_
    show Steps p.tables e below (T12.setTop (mkF m 11 #[.val (.ref ob), .val .null, .val (.ref x2)] [(.ref x2), (.ref ob)])) _
    exact hk
  have F3 := F2.other W12 (Or.inr (slot_ne (Or.inr (hw _ (List.mem_of_getElem? (i := 12) rfl))) (Or.inr (hw _ (List.mem_of_getElem? (i := 10) rfl))) (by decide) (t := (.object "java/lang/String")) (t' := (.object "java/lang/String")) (by decide) (by decide)))
  obtain ⟨T14, h14, X14, e14, W14, st14⟩ := putF X12 hx hZ hown (host := "") (Or.inl (hw _ (List.mem_of_getElem? (i := 11) rfl))) Via.refl e12 F3 (E.wr W12) (Or.inr ⟨(hw _ (List.mem_of_getElem? (i := 12) rfl)), rfl, hnm⟩) (hw _ (List.mem_of_getElem? (i := 1) rfl)) (ty := (.object "java/lang/String")) (by decide) rfl rfl (g := (mkF m 11 #[.val (.ref ob), .val .null, .val (.ref x2)] [(.ref x2), (.ref ob)])) rfl rfl (hb hby d1_11)
  have F4 := (F1.same W12).other W14 (Or.inr (slot_ne (Or.inr (hw _ (List.mem_of_getElem? (i := 10) rfl))) (Or.inr (hw _ (List.mem_of_getElem? (i := 12) rfl))) (by decide) (t := (.object "java/lang/String")) (t' := (.object "java/lang/String")) (by decide) (by decide)))
  have F5 := F3.same W14
  have K15 : ∀ t, Steps p.tables e below (T14.setTop (mkF m 14 #[.val (.ref ob), .val .null, .val (.ref x2)] [])) t → Steps p.tables e below (s₁.setTop (entryFrame m #[(.ref ob), .null, (.ref x2)] 3)) t := fun t hk => K31 t (st14 _ hk)
  have N14 := Fr.snoc X14 (Fr.snoc X12 N0 gs) gs
  have KP : Keep h0 T14.heap [ob] ∧ Exa Z T14.heap ob "com/example/bertilak/bertilak/model/NameTest" ∧ Fld Z T14.heap ob "com/example/bertilak/bertilak/model/NameTest" "_namespaceUri" "Ljava/lang/String;" .null ∧ Fld Z T14.heap ob "com/example/bertilak/bertilak/model/NameTest" "_localName" "Ljava/lang/String;" (.ref x2) := by rw [e14]; exact ⟨((Keep.refl h0 [ob]).wr W12 (Or.inl (List.mem_of_getElem? (i := 0) rfl))).wr W14 (Or.inl (List.mem_of_getElem? (i := 0) rfl)), (E.wr W12).wr W14, F4, F5⟩
  obtain ⟨fs, hr, hrun, hended, hW, hsame⟩ := X14.leave (v := none) (fun _ => rfl) Bd.notSynchronized
  exact ⟨_, _, K15 _ (X14.returnOut hx Bd.returns (hb hby d1_14) hr), hrun, hended, _, _, rfl, ⟨rfl, N14, KP⟩, ⟨_, rfl⟩, hW, hsame.mono (by decide) (by decide)⟩
def Q_rm3_nr (Z : State) (ob : Addr) (x2 : Addr) (h0 : Heap) (n0 : Nat) (v : Option Value) (h : Heap) (L : List Loc) : Prop := v = some (.double (13821547256400052224 : UInt64)) ∧ Fr n0 L ∧ h = h0
set_option maxRecDepth 65536 in
set_option maxHeartbeats 40000000 in
theorem rm3_nr (l : Launch) (Z : State) (a0 : Array Value) (hw : ∀ d ∈ tables_1, d.before a0 Z = true) (ws : List Jvm.Cond) (ob : Addr) (x2 : Addr) (h0 : Heap) (n0 : Nat) (Z0 : n0 ≤ h0.size) (F1 : Fld Z h0 ob "com/example/bertilak/bertilak/model/NameTest" "_namespaceUri" "Ljava/lang/String;" .null) (F2 : Fld Z h0 ob "com/example/bertilak/bertilak/model/NameTest" "_localName" "Ljava/lang/String;" (.ref x2)) :
    MetFree l (⟨"com/example/bertilak/bertilak/model/NameTest", "defaultPriority", "()D"⟩ : MethodName) (head1 (Jvm.Cond.code (⟨"com/example/bertilak/bertilak/model/NameTest", "defaultPriority", "()D"⟩ : MethodName) prog_148_method_6_code 1 (some .double) :: ws) ({ frames := 0, cells := 0, slots := 0, locals := 0 } : Room)) (fun a U => a = #[(.ref ob)] ∧ Z.Warmed39 U.vm ∧ U.heap = h0) (fun _ _ _ _ _ => True) (fun _ U o U' => ∃ v L, o = .returned v ∧ Q_rm3_nr Z ob x2 h0 n0 v U'.heap L ∧ FrameEnd U o U' L ({ frames := 0, cells := 0, slots := 0, locals := 0 } : Room).cells ({ frames := 0, cells := 0, slots := 0, locals := 0 } : Room).slots) := by
  refine MetFree.of_bodySF (plainFor_of_name pn_3) hisR ?_
  intro p e s m args below meth c s₁ Bd hml0 hP hK
  obtain ⟨rfl, hZ, hh⟩ := hP
  have hx := Bd.exec
  have hby := Bd.bytes
  have hml : c.maxLocals = 1 := hml0
  have hown : s.vm.findClass "com/example/bertilak/bertilak/model/NameTest" = some m.cls := findClass_of_methodNamed Bd.named
  have hnm := (name_of_methodNamed Bd.named Bd.method).1
  have X0 : Stand p l e ({ frames := 0, cells := 0, slots := 0, locals := 0 } : Room) s m #[(.ref ob)] below meth c s₁ [] 0 0 := Stand.of_body Bd
  have e0 : s₁.heap = h0 := by rw [← hh, Bd.state]; rfl
  have N0 := Fr.nil n0
  have pre0 : ∀ t, Steps p.tables e below (s₁.setTop (mkF m 0 #[.val (.ref ob)] [])) t → Steps p.tables e below (s₁.setTop (entryFrame m #[(.ref ob)] 1)) t := fun t k => castTop (ef_3 m ob) k
  have K1 : ∀ t, Steps p.tables e below (s₁.setTop (mkF m 1 #[.val (.ref ob)] [(.ref ob)])) t → Steps p.tables e below (s₁.setTop (entryFrame m #[(.ref ob)] 1)) t := by
    intro t hk
    refine pre0 t ?_
    show Steps p.tables e below (s₁.setTop (mkF m 0 #[.val (.ref ob)] [])) _
    refine XS.aloadN X0.here hx rfl (hb hby d3_0) rfl rfl ?_
    show Steps p.tables e below (s₁.setTop (mkF m 1 #[.val (.ref ob)] [(.ref ob)])) _
    exact hk
  obtain ⟨T2, X2, e2, st2⟩ := getF X0 hx hZ hown (host := "") (Or.inl (hw _ (List.mem_of_getElem? (i := 11) rfl))) Via.refl e0 F2 (g := (mkF m 1 #[.val (.ref ob)] [(.ref ob)])) rfl rfl (hb hby d3_1)
  have K2 : ∀ t, Steps p.tables e below (T2.setTop (mkF m 4 #[.val (.ref ob)] [(.ref x2)])) t → Steps p.tables e below (s₁.setTop (entryFrame m #[(.ref ob)] 1)) t := fun t hk => K1 t (st2 _ hk)
  have K3 : ∀ t, Steps p.tables e below (T2.setTop (mkF m 8 #[.val (.ref ob)] [(.ref ob)])) t → Steps p.tables e below (s₁.setTop (entryFrame m #[(.ref ob)] 1)) t := by
    intro t hk
    refine K2 t ?_
    show Steps p.tables e below (T2.setTop (mkF m 4 #[.val (.ref ob)] [(.ref x2)])) _
    refine XS.ifnullNo X2.here hx rfl (hb hby d3_4) rfl ?_
    show Steps p.tables e below (T2.setTop (mkF m 7 #[.val (.ref ob)] [])) _
    refine XS.aloadN X2.here hx rfl (hb hby d3_7) rfl rfl ?_
    show Steps p.tables e below (T2.setTop (mkF m 8 #[.val (.ref ob)] [(.ref ob)])) _
    exact hk
  obtain ⟨T4, X4, e4, st4⟩ := getF X2 hx hZ hown (host := "") (Or.inl (hw _ (List.mem_of_getElem? (i := 9) rfl))) Via.refl e2 F1 (g := (mkF m 8 #[.val (.ref ob)] [(.ref ob)])) rfl rfl (hb hby d3_8)
  have K4 : ∀ t, Steps p.tables e below (T4.setTop (mkF m 11 #[.val (.ref ob)] [.null])) t → Steps p.tables e below (s₁.setTop (entryFrame m #[(.ref ob)] 1)) t := fun t hk => K3 t (st4 _ hk)
  have K5 : ∀ t, Steps p.tables e below (T4.setTop (mkF m 17 #[.val (.ref ob)] [(.ref ob)])) t → Steps p.tables e below (s₁.setTop (entryFrame m #[(.ref ob)] 1)) t := by
    intro t hk
    refine K4 t ?_
    show Steps p.tables e below (T4.setTop (mkF m 11 #[.val (.ref ob)] [.null])) _
    refine XS.ifnullYes X4.here hx rfl (pc0 := 11) (pc' := 16) rfl (hb hby d3_11) rfl (by decide) (by decide) ?_
    show Steps p.tables e below (T4.setTop (mkF m 16 #[.val (.ref ob)] [])) _
    refine XS.aloadN X4.here hx rfl (hb hby d3_16) rfl rfl ?_
    show Steps p.tables e below (T4.setTop (mkF m 17 #[.val (.ref ob)] [(.ref ob)])) _
    exact hk
  obtain ⟨T6, X6, e6, st6⟩ := getF X4 hx hZ hown (host := "") (Or.inl (hw _ (List.mem_of_getElem? (i := 11) rfl))) Via.refl e4 F2 (g := (mkF m 17 #[.val (.ref ob)] [(.ref ob)])) rfl rfl (hb hby d3_17)
  have K6 : ∀ t, Steps p.tables e below (T6.setTop (mkF m 20 #[.val (.ref ob)] [(.ref x2)])) t → Steps p.tables e below (s₁.setTop (entryFrame m #[(.ref ob)] 1)) t := fun t hk => K5 t (st6 _ hk)
  have K7 : ∀ t, Steps p.tables e below (T6.setTop (mkF m 39 #[.val (.ref ob)] [(.double (13821547256400052224 : UInt64))])) t → Steps p.tables e below (s₁.setTop (entryFrame m #[(.ref ob)] 1)) t := by
    intro t hk
    refine K6 t ?_
    show Steps p.tables e below (T6.setTop (mkF m 20 #[.val (.ref ob)] [(.ref x2)])) _
    refine XS.ifnonnullYes X6.here hx rfl (pc0 := 20) (pc' := 30) rfl (hb hby d3_20) rfl (by decide) (by decide) ?_
    show Steps p.tables e below (T6.setTop (mkF m 30 #[.val (.ref ob)] [])) _
    refine X6.ldc2DoubleC hx hown (mvT hZ (hw _ (List.mem_of_getElem? (i := 48) rfl))) (g := (mkF m 30 #[.val (.ref ob)] [])) rfl (hb hby d3_30) _ ?_
    show Steps p.tables e below (T6.setTop (mkF m 33 #[.val (.ref ob)] [(.double (13821547256400052224 : UInt64))])) _
    refine XS.goto X6.here hx rfl (pc0 := 33) (pc' := 39) rfl (hb hby d3_33) (by decide) (by decide) ?_
    show Steps p.tables e below (T6.setTop (mkF m 39 #[.val (.ref ob)] [(.double (13821547256400052224 : UInt64))])) _
    exact hk
  obtain ⟨fs, hr, hrun, hended, hW, hsame⟩ := X6.leave (v := some (.double (13821547256400052224 : UInt64))) (fun h => by rw [Bd.returns] at h; cases h) Bd.notSynchronized
  exact ⟨_, _, K7 _ (retOut X6 hx Bd.returns rfl (Or.inr (Or.inr (Or.inl ⟨rfl, rfl, _, rfl⟩))) (hb hby d3_39) hr), hrun, hended, _, _, rfl, ⟨rfl, N0, e6⟩, ⟨_, rfl⟩, hW, hsame.mono (by decide) (by decide)⟩
theorem ef_1_rn (m : MethodId) (x0 : Addr) (x1 : Addr) : entryFrame m #[(.ref x0), (.ref x1), .null] 3 = mkF m 0 #[.val (.ref x0), .val (.ref x1), .val .null] [] := by first | (simp [entryFrame, mkF, argsToLocals, Value.category, maxLocals]; done) | rfl
def Q_rm1_rn (Z : State) (ob : Addr) (x1 : Addr)  (h0 : Heap) (n0 : Nat) (v : Option Value) (h : Heap) (L : List Loc) : Prop := v = none ∧ Fr n0 L ∧ Keep h0 h [ob] ∧ Exa Z h ob "com/example/bertilak/bertilak/model/NameTest" ∧ Fld Z h ob "com/example/bertilak/bertilak/model/NameTest" "_namespaceUri" "Ljava/lang/String;" (.ref x1) ∧ Fld Z h ob "com/example/bertilak/bertilak/model/NameTest" "_localName" "Ljava/lang/String;" .null
set_option maxRecDepth 65536 in
set_option maxHeartbeats 40000000 in
theorem rm1_rn (l : Launch) (Z : State) (a0 : Array Value) (hw : ∀ d ∈ tables_1, d.before a0 Z = true) (ws : List Jvm.Cond) (ob : Addr) (x1 : Addr)  (h0 : Heap) (n0 : Nat) (Z0 : n0 ≤ h0.size) (E : Exa Z h0 ob "com/example/bertilak/bertilak/model/NameTest") (F1 : Fld Z h0 ob "com/example/bertilak/bertilak/model/NameTest" "_namespaceUri" "Ljava/lang/String;" .null) (F2 : Fld Z h0 ob "com/example/bertilak/bertilak/model/NameTest" "_localName" "Ljava/lang/String;" .null) (gs : n0 ≤ ob) :
    MetFree l (⟨"com/example/bertilak/bertilak/model/NameTest", "<init>", "(Ljava/lang/String;Ljava/lang/String;)V"⟩ : MethodName) (head1 (Jvm.Cond.code (⟨"com/example/bertilak/bertilak/model/NameTest", "<init>", "(Ljava/lang/String;Ljava/lang/String;)V"⟩ : MethodName) prog_148_method_1_code 3 none :: ws) ({ frames := 1, cells := 0, slots := 0, locals := 12 } : Room)) (fun a U => a = #[(.ref ob), (.ref x1), .null] ∧ Z.Warmed39 U.vm ∧ U.heap = h0) (fun _ _ _ _ _ => True) (fun _ U o U' => ∃ v L, o = .returned v ∧ Q_rm1_rn Z ob x1  h0 n0 v U'.heap L ∧ FrameEnd U o U' L ({ frames := 1, cells := 0, slots := 0, locals := 12 } : Room).cells ({ frames := 1, cells := 0, slots := 0, locals := 12 } : Room).slots) := by
  refine MetFree.of_bodySF (plainFor_of_name pn_1) hisR ?_
  intro p e s m args below meth c s₁ Bd hml0 hP hK
  obtain ⟨rfl, hZ, hh⟩ := hP
  have hx := Bd.exec
  have hby := Bd.bytes
  have hml : c.maxLocals = 3 := hml0
  have hown : s.vm.findClass "com/example/bertilak/bertilak/model/NameTest" = some m.cls := findClass_of_methodNamed Bd.named
  have hnm := (name_of_methodNamed Bd.named Bd.method).1
  have X0 : Stand p l e ({ frames := 1, cells := 0, slots := 0, locals := 12 } : Room) s m #[(.ref ob), (.ref x1), .null] below meth c s₁ [] 0 0 := Stand.of_body Bd
  have e0 : s₁.heap = h0 := by rw [← hh, Bd.state]; rfl
  have N0 := Fr.nil n0
  have pre0 : ∀ t, Steps p.tables e below (s₁.setTop (mkF m 0 #[.val (.ref ob), .val (.ref x1), .val .null] [])) t → Steps p.tables e below (s₁.setTop (entryFrame m #[(.ref ob), (.ref x1), .null] 3)) t := fun t k => castTop (ef_1_rn m ob x1) k
  have K1 : ∀ t, Steps p.tables e below (s₁.setTop (mkF m 1 #[.val (.ref ob), .val (.ref x1), .val .null] [(.ref ob)])) t → Steps p.tables e below (s₁.setTop (entryFrame m #[(.ref ob), (.ref x1), .null] 3)) t := by
    intro t hk
    refine pre0 t ?_
    show Steps p.tables e below (s₁.setTop (mkF m 0 #[.val (.ref ob), .val (.ref x1), .val .null] [])) _
    refine XS.aloadN X0.here hx rfl (hb hby d1_0) rfl rfl ?_
    show Steps p.tables e below (s₁.setTop (mkF m 1 #[.val (.ref ob), .val (.ref x1), .val .null] [(.ref ob)])) _
    exact hk
  obtain ⟨T11, X11, e11, st11⟩ := initO X0 hx hZ hown (hw _ (List.mem_of_getElem? (i := 6) rfl)) (hw _ (List.mem_of_getElem? (i := 7) rfl)) (hw _ (List.mem_of_getElem? (i := 8) rfl)) e0 (g := (mkF m 1 #[.val (.ref ob), .val (.ref x1), .val .null] [(.ref ob)])) rfl (by rw [hml]; rfl) rfl (hb hby d1_1) (by decide) (W := 0) (by show 2 * 0 + _ ≤ _; exact Nat.le_of_eq rfl) (by decide)
  have K11 : ∀ t, Steps p.tables e below (T11.setTop (mkF m 4 #[.val (.ref ob), .val (.ref x1), .val .null] [])) t → Steps p.tables e below (s₁.setTop (entryFrame m #[(.ref ob), (.ref x1), .null] 3)) t := fun t hk => K1 t (st11 _ hk)
  have K2 : ∀ t, Steps p.tables e below (T11.setTop (mkF m 6 #[.val (.ref ob), .val (.ref x1), .val .null] [(.ref x1), (.ref ob)])) t → Steps p.tables e below (s₁.setTop (entryFrame m #[(.ref ob), (.ref x1), .null] 3)) t := by
    intro t hk
    refine K11 t ?_
    show Steps p.tables e below (T11.setTop (mkF m 4 #[.val (.ref ob), .val (.ref x1), .val .null] [])) _
    refine XS.aloadN X11.here hx rfl (hb hby d1_4) rfl rfl ?_
    show Steps p.tables e below (T11.setTop (mkF m 5 #[.val (.ref ob), .val (.ref x1), .val .null] [(.ref ob)])) _
    refine XS.aloadN X11.here hx rfl (hb hby d1_5) rfl rfl ?_
    show Steps p.tables e below (T11.setTop (mkF m 6 #[.val (.ref ob), .val (.ref x1), .val .null] [(.ref x1), (.ref ob)])) _
    exact hk
  obtain ⟨T12, h12, X12, e12, W12, st12⟩ := putF X11 hx hZ hown (host := "") (Or.inl (hw _ (List.mem_of_getElem? (i := 9) rfl))) Via.refl e11 F1 E (Or.inr ⟨(hw _ (List.mem_of_getElem? (i := 10) rfl)), rfl, hnm⟩) (hw _ (List.mem_of_getElem? (i := 1) rfl)) (ty := (.object "java/lang/String")) (by decide) rfl rfl (g := (mkF m 6 #[.val (.ref ob), .val (.ref x1), .val .null] [(.ref x1), (.ref ob)])) rfl rfl (hb hby d1_6)
  have K13 : ∀ t, Steps p.tables e below (T12.setTop (mkF m 9 #[.val (.ref ob), .val (.ref x1), .val .null] [])) t → Steps p.tables e below (s₁.setTop (entryFrame m #[(.ref ob), (.ref x1), .null] 3)) t := fun t hk => K2 t (st12 _ hk)
  have K31 : ∀ t, Steps p.tables e below (T12.setTop (mkF m 11 #[.val (.ref ob), .val (.ref x1), .val .null] [.null, (.ref ob)])) t → Steps p.tables e below (s₁.setTop (entryFrame m #[(.ref ob), (.ref x1), .null] 3)) t := by
    intro t hk
    refine K13 t ?_
    show Steps p.tables e below (T12.setTop (mkF m 9 #[.val (.ref ob), .val (.ref x1), .val .null] [])) _
    refine XS.aloadN X12.here hx rfl (hb hby d1_9) rfl rfl ?_
    show Steps p.tables e below (T12.setTop (mkF m 10 #[.val (.ref ob), .val (.ref x1), .val .null] [(.ref ob)])) _
    refine XS.aloadN X12.here hx rfl (hb hby d1_10) rfl rfl ?_
    show Steps p.tables e below (T12.setTop (mkF m 11 #[.val (.ref ob), .val (.ref x1), .val .null] [.null, (.ref ob)])) _
    exact hk
  have F3 := F2.other W12 (Or.inr (slot_ne (Or.inr (hw _ (List.mem_of_getElem? (i := 12) rfl))) (Or.inr (hw _ (List.mem_of_getElem? (i := 10) rfl))) (by decide) (t := (.object "java/lang/String")) (t' := (.object "java/lang/String")) (by decide) (by decide)))
  obtain ⟨T14, h14, X14, e14, W14, st14⟩ := putF X12 hx hZ hown (host := "") (Or.inl (hw _ (List.mem_of_getElem? (i := 11) rfl))) Via.refl e12 F3 (E.wr W12) (Or.inr ⟨(hw _ (List.mem_of_getElem? (i := 12) rfl)), rfl, hnm⟩) (hw _ (List.mem_of_getElem? (i := 1) rfl)) (ty := (.object "java/lang/String")) (by decide) rfl rfl (g := (mkF m 11 #[.val (.ref ob), .val (.ref x1), .val .null] [.null, (.ref ob)])) rfl rfl (hb hby d1_11)
  have F4 := (F1.same W12).other W14 (Or.inr (slot_ne (Or.inr (hw _ (List.mem_of_getElem? (i := 10) rfl))) (Or.inr (hw _ (List.mem_of_getElem? (i := 12) rfl))) (by decide) (t := (.object "java/lang/String")) (t' := (.object "java/lang/String")) (by decide) (by decide)))
  have F5 := F3.same W14
  have K15 : ∀ t, Steps p.tables e below (T14.setTop (mkF m 14 #[.val (.ref ob), .val (.ref x1), .val .null] [])) t → Steps p.tables e below (s₁.setTop (entryFrame m #[(.ref ob), (.ref x1), .null] 3)) t := fun t hk => K31 t (st14 _ hk)
  have N14 := Fr.snoc X14 (Fr.snoc X12 N0 gs) gs
  have KP : Keep h0 T14.heap [ob] ∧ Exa Z T14.heap ob "com/example/bertilak/bertilak/model/NameTest" ∧ Fld Z T14.heap ob "com/example/bertilak/bertilak/model/NameTest" "_namespaceUri" "Ljava/lang/String;" (.ref x1) ∧ Fld Z T14.heap ob "com/example/bertilak/bertilak/model/NameTest" "_localName" "Ljava/lang/String;" .null := by rw [e14]; exact ⟨((Keep.refl h0 [ob]).wr W12 (Or.inl (List.mem_of_getElem? (i := 0) rfl))).wr W14 (Or.inl (List.mem_of_getElem? (i := 0) rfl)), (E.wr W12).wr W14, F4, F5⟩
  obtain ⟨fs, hr, hrun, hended, hW, hsame⟩ := X14.leave (v := none) (fun _ => rfl) Bd.notSynchronized
  exact ⟨_, _, K15 _ (X14.returnOut hx Bd.returns (hb hby d1_14) hr), hrun, hended, _, _, rfl, ⟨rfl, N14, KP⟩, ⟨_, rfl⟩, hW, hsame.mono (by decide) (by decide)⟩
def Q_rm3_rn (Z : State) (ob : Addr) (x1 : Addr) (h0 : Heap) (n0 : Nat) (v : Option Value) (h : Heap) (L : List Loc) : Prop := v = some (.double (13821547256400052224 : UInt64)) ∧ Fr n0 L ∧ h = h0
set_option maxRecDepth 65536 in
set_option maxHeartbeats 40000000 in
theorem rm3_rn (l : Launch) (Z : State) (a0 : Array Value) (hw : ∀ d ∈ tables_1, d.before a0 Z = true) (ws : List Jvm.Cond) (ob : Addr) (x1 : Addr) (h0 : Heap) (n0 : Nat) (Z0 : n0 ≤ h0.size) (F1 : Fld Z h0 ob "com/example/bertilak/bertilak/model/NameTest" "_namespaceUri" "Ljava/lang/String;" (.ref x1)) (F2 : Fld Z h0 ob "com/example/bertilak/bertilak/model/NameTest" "_localName" "Ljava/lang/String;" .null) :
    MetFree l (⟨"com/example/bertilak/bertilak/model/NameTest", "defaultPriority", "()D"⟩ : MethodName) (head1 (Jvm.Cond.code (⟨"com/example/bertilak/bertilak/model/NameTest", "defaultPriority", "()D"⟩ : MethodName) prog_148_method_6_code 1 (some .double) :: ws) ({ frames := 0, cells := 0, slots := 0, locals := 0 } : Room)) (fun a U => a = #[(.ref ob)] ∧ Z.Warmed39 U.vm ∧ U.heap = h0) (fun _ _ _ _ _ => True) (fun _ U o U' => ∃ v L, o = .returned v ∧ Q_rm3_rn Z ob x1 h0 n0 v U'.heap L ∧ FrameEnd U o U' L ({ frames := 0, cells := 0, slots := 0, locals := 0 } : Room).cells ({ frames := 0, cells := 0, slots := 0, locals := 0 } : Room).slots) := by
  refine MetFree.of_bodySF (plainFor_of_name pn_3) hisR ?_
  intro p e s m args below meth c s₁ Bd hml0 hP hK
  obtain ⟨rfl, hZ, hh⟩ := hP
  have hx := Bd.exec
  have hby := Bd.bytes
  have hml : c.maxLocals = 1 := hml0
  have hown : s.vm.findClass "com/example/bertilak/bertilak/model/NameTest" = some m.cls := findClass_of_methodNamed Bd.named
  have hnm := (name_of_methodNamed Bd.named Bd.method).1
  have X0 : Stand p l e ({ frames := 0, cells := 0, slots := 0, locals := 0 } : Room) s m #[(.ref ob)] below meth c s₁ [] 0 0 := Stand.of_body Bd
  have e0 : s₁.heap = h0 := by rw [← hh, Bd.state]; rfl
  have N0 := Fr.nil n0
  have pre0 : ∀ t, Steps p.tables e below (s₁.setTop (mkF m 0 #[.val (.ref ob)] [])) t → Steps p.tables e below (s₁.setTop (entryFrame m #[(.ref ob)] 1)) t := fun t k => castTop (ef_3 m ob) k
  have K1 : ∀ t, Steps p.tables e below (s₁.setTop (mkF m 1 #[.val (.ref ob)] [(.ref ob)])) t → Steps p.tables e below (s₁.setTop (entryFrame m #[(.ref ob)] 1)) t := by
    intro t hk
    refine pre0 t ?_
    show Steps p.tables e below (s₁.setTop (mkF m 0 #[.val (.ref ob)] [])) _
    refine XS.aloadN X0.here hx rfl (hb hby d3_0) rfl rfl ?_
    show Steps p.tables e below (s₁.setTop (mkF m 1 #[.val (.ref ob)] [(.ref ob)])) _
    exact hk
  obtain ⟨T2, X2, e2, st2⟩ := getF X0 hx hZ hown (host := "") (Or.inl (hw _ (List.mem_of_getElem? (i := 11) rfl))) Via.refl e0 F2 (g := (mkF m 1 #[.val (.ref ob)] [(.ref ob)])) rfl rfl (hb hby d3_1)
  have K2 : ∀ t, Steps p.tables e below (T2.setTop (mkF m 4 #[.val (.ref ob)] [.null])) t → Steps p.tables e below (s₁.setTop (entryFrame m #[(.ref ob)] 1)) t := fun t hk => K1 t (st2 _ hk)
  have K3 : ∀ t, Steps p.tables e below (T2.setTop (mkF m 17 #[.val (.ref ob)] [(.ref ob)])) t → Steps p.tables e below (s₁.setTop (entryFrame m #[(.ref ob)] 1)) t := by
    intro t hk
    refine K2 t ?_
    show Steps p.tables e below (T2.setTop (mkF m 4 #[.val (.ref ob)] [.null])) _
    refine XS.ifnullYes X2.here hx rfl (pc0 := 4) (pc' := 16) rfl (hb hby d3_4) rfl (by decide) (by decide) ?_
    show Steps p.tables e below (T2.setTop (mkF m 16 #[.val (.ref ob)] [])) _
    refine XS.aloadN X2.here hx rfl (hb hby d3_16) rfl rfl ?_
    show Steps p.tables e below (T2.setTop (mkF m 17 #[.val (.ref ob)] [(.ref ob)])) _
    exact hk
  obtain ⟨T4, X4, e4, st4⟩ := getF X2 hx hZ hown (host := "") (Or.inl (hw _ (List.mem_of_getElem? (i := 11) rfl))) Via.refl e2 F2 (g := (mkF m 17 #[.val (.ref ob)] [(.ref ob)])) rfl rfl (hb hby d3_17)
  have K4 : ∀ t, Steps p.tables e below (T4.setTop (mkF m 20 #[.val (.ref ob)] [.null])) t → Steps p.tables e below (s₁.setTop (entryFrame m #[(.ref ob)] 1)) t := fun t hk => K3 t (st4 _ hk)
  have K5 : ∀ t, Steps p.tables e below (T4.setTop (mkF m 24 #[.val (.ref ob)] [(.ref ob)])) t → Steps p.tables e below (s₁.setTop (entryFrame m #[(.ref ob)] 1)) t := by
    intro t hk
    refine K4 t ?_
    show Steps p.tables e below (T4.setTop (mkF m 20 #[.val (.ref ob)] [.null])) _
    refine XS.ifnonnullNo X4.here hx rfl (hb hby d3_20) rfl ?_
    show Steps p.tables e below (T4.setTop (mkF m 23 #[.val (.ref ob)] [])) _
    refine XS.aloadN X4.here hx rfl (hb hby d3_23) rfl rfl ?_
    show Steps p.tables e below (T4.setTop (mkF m 24 #[.val (.ref ob)] [(.ref ob)])) _
    exact hk
  obtain ⟨T6, X6, e6, st6⟩ := getF X4 hx hZ hown (host := "") (Or.inl (hw _ (List.mem_of_getElem? (i := 9) rfl))) Via.refl e4 F1 (g := (mkF m 24 #[.val (.ref ob)] [(.ref ob)])) rfl rfl (hb hby d3_24)
  have K6 : ∀ t, Steps p.tables e below (T6.setTop (mkF m 27 #[.val (.ref ob)] [(.ref x1)])) t → Steps p.tables e below (s₁.setTop (entryFrame m #[(.ref ob)] 1)) t := fun t hk => K5 t (st6 _ hk)
  have K7 : ∀ t, Steps p.tables e below (T6.setTop (mkF m 39 #[.val (.ref ob)] [(.double (13821547256400052224 : UInt64))])) t → Steps p.tables e below (s₁.setTop (entryFrame m #[(.ref ob)] 1)) t := by
    intro t hk
    refine K6 t ?_
    show Steps p.tables e below (T6.setTop (mkF m 27 #[.val (.ref ob)] [(.ref x1)])) _
    refine XS.ifnullNo X6.here hx rfl (hb hby d3_27) rfl ?_
    show Steps p.tables e below (T6.setTop (mkF m 30 #[.val (.ref ob)] [])) _
    refine X6.ldc2DoubleC hx hown (mvT hZ (hw _ (List.mem_of_getElem? (i := 48) rfl))) (g := (mkF m 30 #[.val (.ref ob)] [])) rfl (hb hby d3_30) _ ?_
    show Steps p.tables e below (T6.setTop (mkF m 33 #[.val (.ref ob)] [(.double (13821547256400052224 : UInt64))])) _
    refine XS.goto X6.here hx rfl (pc0 := 33) (pc' := 39) rfl (hb hby d3_33) (by decide) (by decide) ?_
    show Steps p.tables e below (T6.setTop (mkF m 39 #[.val (.ref ob)] [(.double (13821547256400052224 : UInt64))])) _
    exact hk
  obtain ⟨fs, hr, hrun, hended, hW, hsame⟩ := X6.leave (v := some (.double (13821547256400052224 : UInt64))) (fun h => by rw [Bd.returns] at h; cases h) Bd.notSynchronized
  exact ⟨_, _, K7 _ (retOut X6 hx Bd.returns rfl (Or.inr (Or.inr (Or.inl ⟨rfl, rfl, _, rfl⟩))) (hb hby d3_39) hr), hrun, hended, _, _, rfl, ⟨rfl, N0, e6⟩, ⟨_, rfl⟩, hW, hsame.mono (by decide) (by decide)⟩
theorem ef_1_rr (m : MethodId) (x0 : Addr) (x1 : Addr) (x2 : Addr) : entryFrame m #[(.ref x0), (.ref x1), (.ref x2)] 3 = mkF m 0 #[.val (.ref x0), .val (.ref x1), .val (.ref x2)] [] := by first | (simp [entryFrame, mkF, argsToLocals, Value.category, maxLocals]; done) | rfl
def Q_rm1_rr (Z : State) (ob : Addr) (x1 : Addr) (x2 : Addr)  (h0 : Heap) (n0 : Nat) (v : Option Value) (h : Heap) (L : List Loc) : Prop := v = none ∧ Fr n0 L ∧ Keep h0 h [ob] ∧ Exa Z h ob "com/example/bertilak/bertilak/model/NameTest" ∧ Fld Z h ob "com/example/bertilak/bertilak/model/NameTest" "_namespaceUri" "Ljava/lang/String;" (.ref x1) ∧ Fld Z h ob "com/example/bertilak/bertilak/model/NameTest" "_localName" "Ljava/lang/String;" (.ref x2)
set_option maxRecDepth 65536 in
set_option maxHeartbeats 40000000 in
theorem rm1_rr (l : Launch) (Z : State) (a0 : Array Value) (hw : ∀ d ∈ tables_1, d.before a0 Z = true) (ws : List Jvm.Cond) (ob : Addr) (x1 : Addr) (x2 : Addr)  (h0 : Heap) (n0 : Nat) (Z0 : n0 ≤ h0.size) (E : Exa Z h0 ob "com/example/bertilak/bertilak/model/NameTest") (F1 : Fld Z h0 ob "com/example/bertilak/bertilak/model/NameTest" "_namespaceUri" "Ljava/lang/String;" .null) (F2 : Fld Z h0 ob "com/example/bertilak/bertilak/model/NameTest" "_localName" "Ljava/lang/String;" .null) (gs : n0 ≤ ob) :
    MetFree l (⟨"com/example/bertilak/bertilak/model/NameTest", "<init>", "(Ljava/lang/String;Ljava/lang/String;)V"⟩ : MethodName) (head1 (Jvm.Cond.code (⟨"com/example/bertilak/bertilak/model/NameTest", "<init>", "(Ljava/lang/String;Ljava/lang/String;)V"⟩ : MethodName) prog_148_method_1_code 3 none :: ws) ({ frames := 1, cells := 0, slots := 0, locals := 12 } : Room)) (fun a U => a = #[(.ref ob), (.ref x1), (.ref x2)] ∧ Z.Warmed39 U.vm ∧ U.heap = h0) (fun _ _ _ _ _ => True) (fun _ U o U' => ∃ v L, o = .returned v ∧ Q_rm1_rr Z ob x1 x2  h0 n0 v U'.heap L ∧ FrameEnd U o U' L ({ frames := 1, cells := 0, slots := 0, locals := 12 } : Room).cells ({ frames := 1, cells := 0, slots := 0, locals := 12 } : Room).slots) := by
  refine MetFree.of_bodySF (plainFor_of_name pn_1) hisR ?_
  intro p e s m args below meth c s₁ Bd hml0 hP hK
  obtain ⟨rfl, hZ, hh⟩ := hP
  have hx := Bd.exec
  have hby := Bd.bytes
  have hml : c.maxLocals = 3 := hml0
  have hown : s.vm.findClass "com/example/bertilak/bertilak/model/NameTest" = some m.cls := findClass_of_methodNamed Bd.named
  have hnm := (name_of_methodNamed Bd.named Bd.method).1
  have X0 : Stand p l e ({ frames := 1, cells := 0, slots := 0, locals := 12 } : Room) s m #[(.ref ob), (.ref x1), (.ref x2)] below meth c s₁ [] 0 0 := Stand.of_body Bd
  have e0 : s₁.heap = h0 := by rw [← hh, Bd.state]; rfl
  have N0 := Fr.nil n0
  have pre0 : ∀ t, Steps p.tables e below (s₁.setTop (mkF m 0 #[.val (.ref ob), .val (.ref x1), .val (.ref x2)] [])) t → Steps p.tables e below (s₁.setTop (entryFrame m #[(.ref ob), (.ref x1), (.ref x2)] 3)) t := fun t k => castTop (ef_1_rr m ob x1 x2) k
  have K1 : ∀ t, Steps p.tables e below (s₁.setTop (mkF m 1 #[.val (.ref ob), .val (.ref x1), .val (.ref x2)] [(.ref ob)])) t → Steps p.tables e below (s₁.setTop (entryFrame m #[(.ref ob), (.ref x1), (.ref x2)] 3)) t := by
    intro t hk
    refine pre0 t ?_
    show Steps p.tables e below (s₁.setTop (mkF m 0 #[.val (.ref ob), .val (.ref x1), .val (.ref x2)] [])) _
    refine XS.aloadN X0.here hx rfl (hb hby d1_0) rfl rfl ?_
    show Steps p.tables e below (s₁.setTop (mkF m 1 #[.val (.ref ob), .val (.ref x1), .val (.ref x2)] [(.ref ob)])) _
    exact hk
  obtain ⟨T11, X11, e11, st11⟩ := initO X0 hx hZ hown (hw _ (List.mem_of_getElem? (i := 6) rfl)) (hw _ (List.mem_of_getElem? (i := 7) rfl)) (hw _ (List.mem_of_getElem? (i := 8) rfl)) e0 (g := (mkF m 1 #[.val (.ref ob), .val (.ref x1), .val (.ref x2)] [(.ref ob)])) rfl (by rw [hml]; rfl) rfl (hb hby d1_1) (by decide) (W := 0) (by show 2 * 0 + _ ≤ _; exact Nat.le_of_eq rfl) (by decide)
  have K11 : ∀ t, Steps p.tables e below (T11.setTop (mkF m 4 #[.val (.ref ob), .val (.ref x1), .val (.ref x2)] [])) t → Steps p.tables e below (s₁.setTop (entryFrame m #[(.ref ob), (.ref x1), (.ref x2)] 3)) t := fun t hk => K1 t (st11 _ hk)
  have K2 : ∀ t, Steps p.tables e below (T11.setTop (mkF m 6 #[.val (.ref ob), .val (.ref x1), .val (.ref x2)] [(.ref x1), (.ref ob)])) t → Steps p.tables e below (s₁.setTop (entryFrame m #[(.ref ob), (.ref x1), (.ref x2)] 3)) t := by
    intro t hk
    refine K11 t ?_
    show Steps p.tables e below (T11.setTop (mkF m 4 #[.val (.ref ob), .val (.ref x1), .val (.ref x2)] [])) _
    refine XS.aloadN X11.here hx rfl (hb hby d1_4) rfl rfl ?_
    show Steps p.tables e below (T11.setTop (mkF m 5 #[.val (.ref ob), .val (.ref x1), .val (.ref x2)] [(.ref ob)])) _
    refine XS.aloadN X11.here hx rfl (hb hby d1_5) rfl rfl ?_
    show Steps p.tables e below (T11.setTop (mkF m 6 #[.val (.ref ob), .val (.ref x1), .val (.ref x2)] [(.ref x1), (.ref ob)])) _
    exact hk
  obtain ⟨T12, h12, X12, e12, W12, st12⟩ := putF X11 hx hZ hown (host := "") (Or.inl (hw _ (List.mem_of_getElem? (i := 9) rfl))) Via.refl e11 F1 E (Or.inr ⟨(hw _ (List.mem_of_getElem? (i := 10) rfl)), rfl, hnm⟩) (hw _ (List.mem_of_getElem? (i := 1) rfl)) (ty := (.object "java/lang/String")) (by decide) rfl rfl (g := (mkF m 6 #[.val (.ref ob), .val (.ref x1), .val (.ref x2)] [(.ref x1), (.ref ob)])) rfl rfl (hb hby d1_6)
  have K13 : ∀ t, Steps p.tables e below (T12.setTop (mkF m 9 #[.val (.ref ob), .val (.ref x1), .val (.ref x2)] [])) t → Steps p.tables e below (s₁.setTop (entryFrame m #[(.ref ob), (.ref x1), (.ref x2)] 3)) t := fun t hk => K2 t (st12 _ hk)
  have K31 : ∀ t, Steps p.tables e below (T12.setTop (mkF m 11 #[.val (.ref ob), .val (.ref x1), .val (.ref x2)] [(.ref x2), (.ref ob)])) t → Steps p.tables e below (s₁.setTop (entryFrame m #[(.ref ob), (.ref x1), (.ref x2)] 3)) t := by
    intro t hk
    refine K13 t ?_
    show Steps p.tables e below (T12.setTop (mkF m 9 #[.val (.ref ob), .val (.ref x1), .val (.ref x2)] [])) _
    refine XS.aloadN X12.here hx rfl (hb hby d1_9) rfl rfl ?_
    show Steps p.tables e below (T12.setTop (mkF m 10 #[.val (.ref ob), .val (.ref x1), .val (.ref x2)] [(.ref ob)])) _
    refine XS.aloadN X12.here hx rfl (hb hby d1_10) rfl rfl ?_
    show Steps p.tables e below (T12.setTop (mkF m 11 #[.val (.ref ob), .val (.ref x1), .val (.ref x2)] [(.ref x2), (.ref ob)])) _
    exact hk
  have F3 := F2.other W12 (Or.inr (slot_ne (Or.inr (hw _ (List.mem_of_getElem? (i := 12) rfl))) (Or.inr (hw _ (List.mem_of_getElem? (i := 10) rfl))) (by decide) (t := (.object "java/lang/String")) (t' := (.object "java/lang/String")) (by decide) (by decide)))
  obtain ⟨T14, h14, X14, e14, W14, st14⟩ := putF X12 hx hZ hown (host := "") (Or.inl (hw _ (List.mem_of_getElem? (i := 11) rfl))) Via.refl e12 F3 (E.wr W12) (Or.inr ⟨(hw _ (List.mem_of_getElem? (i := 12) rfl)), rfl, hnm⟩) (hw _ (List.mem_of_getElem? (i := 1) rfl)) (ty := (.object "java/lang/String")) (by decide) rfl rfl (g := (mkF m 11 #[.val (.ref ob), .val (.ref x1), .val (.ref x2)] [(.ref x2), (.ref ob)])) rfl rfl (hb hby d1_11)
  have F4 := (F1.same W12).other W14 (Or.inr (slot_ne (Or.inr (hw _ (List.mem_of_getElem? (i := 10) rfl))) (Or.inr (hw _ (List.mem_of_getElem? (i := 12) rfl))) (by decide) (t := (.object "java/lang/String")) (t' := (.object "java/lang/String")) (by decide) (by decide)))
  have F5 := F3.same W14
  have K15 : ∀ t, Steps p.tables e below (T14.setTop (mkF m 14 #[.val (.ref ob), .val (.ref x1), .val (.ref x2)] [])) t → Steps p.tables e below (s₁.setTop (entryFrame m #[(.ref ob), (.ref x1), (.ref x2)] 3)) t := fun t hk => K31 t (st14 _ hk)
  have N14 := Fr.snoc X14 (Fr.snoc X12 N0 gs) gs
  have KP : Keep h0 T14.heap [ob] ∧ Exa Z T14.heap ob "com/example/bertilak/bertilak/model/NameTest" ∧ Fld Z T14.heap ob "com/example/bertilak/bertilak/model/NameTest" "_namespaceUri" "Ljava/lang/String;" (.ref x1) ∧ Fld Z T14.heap ob "com/example/bertilak/bertilak/model/NameTest" "_localName" "Ljava/lang/String;" (.ref x2) := by rw [e14]; exact ⟨((Keep.refl h0 [ob]).wr W12 (Or.inl (List.mem_of_getElem? (i := 0) rfl))).wr W14 (Or.inl (List.mem_of_getElem? (i := 0) rfl)), (E.wr W12).wr W14, F4, F5⟩
  obtain ⟨fs, hr, hrun, hended, hW, hsame⟩ := X14.leave (v := none) (fun _ => rfl) Bd.notSynchronized
  exact ⟨_, _, K15 _ (X14.returnOut hx Bd.returns (hb hby d1_14) hr), hrun, hended, _, _, rfl, ⟨rfl, N14, KP⟩, ⟨_, rfl⟩, hW, hsame.mono (by decide) (by decide)⟩
def Q_rm3_rr (Z : State) (ob : Addr) (x1 : Addr) (x2 : Addr) (h0 : Heap) (n0 : Nat) (v : Option Value) (h : Heap) (L : List Loc) : Prop := v = some (.double (0 : UInt64)) ∧ Fr n0 L ∧ h = h0
set_option maxRecDepth 65536 in
set_option maxHeartbeats 40000000 in
theorem rm3_rr (l : Launch) (Z : State) (a0 : Array Value) (hw : ∀ d ∈ tables_1, d.before a0 Z = true) (ws : List Jvm.Cond) (ob : Addr) (x1 : Addr) (x2 : Addr) (h0 : Heap) (n0 : Nat) (Z0 : n0 ≤ h0.size) (F1 : Fld Z h0 ob "com/example/bertilak/bertilak/model/NameTest" "_namespaceUri" "Ljava/lang/String;" (.ref x1)) (F2 : Fld Z h0 ob "com/example/bertilak/bertilak/model/NameTest" "_localName" "Ljava/lang/String;" (.ref x2)) :
    MetFree l (⟨"com/example/bertilak/bertilak/model/NameTest", "defaultPriority", "()D"⟩ : MethodName) (head1 (Jvm.Cond.code (⟨"com/example/bertilak/bertilak/model/NameTest", "defaultPriority", "()D"⟩ : MethodName) prog_148_method_6_code 1 (some .double) :: ws) ({ frames := 0, cells := 0, slots := 0, locals := 0 } : Room)) (fun a U => a = #[(.ref ob)] ∧ Z.Warmed39 U.vm ∧ U.heap = h0) (fun _ _ _ _ _ => True) (fun _ U o U' => ∃ v L, o = .returned v ∧ Q_rm3_rr Z ob x1 x2 h0 n0 v U'.heap L ∧ FrameEnd U o U' L ({ frames := 0, cells := 0, slots := 0, locals := 0 } : Room).cells ({ frames := 0, cells := 0, slots := 0, locals := 0 } : Room).slots) := by
  refine MetFree.of_bodySF (plainFor_of_name pn_3) hisR ?_
  intro p e s m args below meth c s₁ Bd hml0 hP hK
  obtain ⟨rfl, hZ, hh⟩ := hP
  have hx := Bd.exec
  have hby := Bd.bytes
  have hml : c.maxLocals = 1 := hml0
  have hown : s.vm.findClass "com/example/bertilak/bertilak/model/NameTest" = some m.cls := findClass_of_methodNamed Bd.named
  have hnm := (name_of_methodNamed Bd.named Bd.method).1
  have X0 : Stand p l e ({ frames := 0, cells := 0, slots := 0, locals := 0 } : Room) s m #[(.ref ob)] below meth c s₁ [] 0 0 := Stand.of_body Bd
  have e0 : s₁.heap = h0 := by rw [← hh, Bd.state]; rfl
  have N0 := Fr.nil n0
  have pre0 : ∀ t, Steps p.tables e below (s₁.setTop (mkF m 0 #[.val (.ref ob)] [])) t → Steps p.tables e below (s₁.setTop (entryFrame m #[(.ref ob)] 1)) t := fun t k => castTop (ef_3 m ob) k
  have K1 : ∀ t, Steps p.tables e below (s₁.setTop (mkF m 1 #[.val (.ref ob)] [(.ref ob)])) t → Steps p.tables e below (s₁.setTop (entryFrame m #[(.ref ob)] 1)) t := by
    intro t hk
    refine pre0 t ?_
    show Steps p.tables e below (s₁.setTop (mkF m 0 #[.val (.ref ob)] [])) _
    refine XS.aloadN X0.here hx rfl (hb hby d3_0) rfl rfl ?_
    show Steps p.tables e below (s₁.setTop (mkF m 1 #[.val (.ref ob)] [(.ref ob)])) _
    exact hk
  obtain ⟨T2, X2, e2, st2⟩ := getF X0 hx hZ hown (host := "") (Or.inl (hw _ (List.mem_of_getElem? (i := 11) rfl))) Via.refl e0 F2 (g := (mkF m 1 #[.val (.ref ob)] [(.ref ob)])) rfl rfl (hb hby d3_1)
  have K2 : ∀ t, Steps p.tables e below (T2.setTop (mkF m 4 #[.val (.ref ob)] [(.ref x2)])) t → Steps p.tables e below (s₁.setTop (entryFrame m #[(.ref ob)] 1)) t := fun t hk => K1 t (st2 _ hk)
  have K3 : ∀ t, Steps p.tables e below (T2.setTop (mkF m 8 #[.val (.ref ob)] [(.ref ob)])) t → Steps p.tables e below (s₁.setTop (entryFrame m #[(.ref ob)] 1)) t := by
    intro t hk
    refine K2 t ?_
    show Steps p.tables e below (T2.setTop (mkF m 4 #[.val (.ref ob)] [(.ref x2)])) _
    refine XS.ifnullNo X2.here hx rfl (hb hby d3_4) rfl ?_
    show Steps p.tables e below (T2.setTop (mkF m 7 #[.val (.ref ob)] [])) _
    refine XS.aloadN X2.here hx rfl (hb hby d3_7) rfl rfl ?_
    show Steps p.tables e below (T2.setTop (mkF m 8 #[.val (.ref ob)] [(.ref ob)])) _
    exact hk
  obtain ⟨T4, X4, e4, st4⟩ := getF X2 hx hZ hown (host := "") (Or.inl (hw _ (List.mem_of_getElem? (i := 9) rfl))) Via.refl e2 F1 (g := (mkF m 8 #[.val (.ref ob)] [(.ref ob)])) rfl rfl (hb hby d3_8)
  have K4 : ∀ t, Steps p.tables e below (T4.setTop (mkF m 11 #[.val (.ref ob)] [(.ref x1)])) t → Steps p.tables e below (s₁.setTop (entryFrame m #[(.ref ob)] 1)) t := fun t hk => K3 t (st4 _ hk)
  have K5 : ∀ t, Steps p.tables e below (T4.setTop (mkF m 15 #[.val (.ref ob)] [(.double (0 : UInt64))])) t → Steps p.tables e below (s₁.setTop (entryFrame m #[(.ref ob)] 1)) t := by
    intro t hk
    refine K4 t ?_
    show Steps p.tables e below (T4.setTop (mkF m 11 #[.val (.ref ob)] [(.ref x1)])) _
    refine XS.ifnullNo X4.here hx rfl (hb hby d3_11) rfl ?_
    show Steps p.tables e below (T4.setTop (mkF m 14 #[.val (.ref ob)] [])) _
    refine XS.dconst0 X4.here hx rfl (v := (0 : UInt64)) (hb hby d3_14) rfl ?_
    show Steps p.tables e below (T4.setTop (mkF m 15 #[.val (.ref ob)] [(.double (0 : UInt64))])) _
    exact hk
  obtain ⟨fs, hr, hrun, hended, hW, hsame⟩ := X4.leave (v := some (.double (0 : UInt64))) (fun h => by rw [Bd.returns] at h; cases h) Bd.notSynchronized
  exact ⟨_, _, K5 _ (retOut X4 hx Bd.returns rfl (Or.inr (Or.inr (Or.inl ⟨rfl, rfl, _, rfl⟩))) (hb hby d3_15) hr), hrun, hended, _, _, rfl, ⟨rfl, N0, e4⟩, ⟨_, rfl⟩, hW, hsame.mono (by decide) (by decide)⟩
set_option maxRecDepth 65536 in
set_option maxHeartbeats 40000000 in
theorem own_tail_nn {p : Program} {l : Launch} {e : Env} {s : State} {m : MethodId} {args : Array Value} {below : List Frame} {meth : Method} {c : Code} {T : State} {locs : List Loc} {cells slots : Nat} {Z : State} {a0 : Array Value} {h0 : Heap} {n0 : Nat} {S0 : State} {vm0 : Vm} (X : Stand p l e room_1 (s.setVm vm0) m args below meth c T locs cells slots) (hx : p.tables.exec = Jvm.exec) (hby : c.code = code) (hml : c.maxLocals = 12) (hown : (s.setVm vm0).vm.findClass "com/example/bertilak/bertilak/model/NameTestDefaultPriorityPinLaw" = some m.cls) (hZ : Z.Warmed39 (s.setVm vm0).vm) (hw : ∀ d ∈ tables_1, d.before a0 Z = true) (hret : meth.sig.returnType = ret) (hlk : meth.locks = false) (p1 : Int32) (p2 : Int32) (p3 : Int32) (a3 : Int32) (a4 : Int32) (e0 : T.heap = h0) (Z0 : n0 ≤ h0.size) (N0 : Fr n0 locs) (h3 : a3 = (0 : Int32)) (h4 : a4 = (0 : Int32)) (hcb : cells ≤ 8) (hsb : slots ≤ 100) {k0 : Nat} (hS : s.Since vm0 k0) (hk0 : k0 ≤ h0.size) (K0 : ∀ t, Steps p.tables e below (T.setTop (mkF m 52 #[.val (.int p1), .val (.int p2), .val (.int p3), .val (.int a3), .val (.int a4), .val .null, .val .null, .unset, .unset, .unset, .unset, .unset] [])) t → Steps p.tables e below S0 t) :
    ∃ s₂ o, Steps p.tables e below S0 s₂ ∧ s₂.status = .running ∧ Ended s₂ below o ∧ (∃ v L, o = .returned v ∧ (v = some (.int (1 : Int32)) ∧ Fr n0 L) ∧ ReturnedEndW s o s₂ L 24 1152) := by
  obtain ⟨T40, h40, X40, e40, E40, A40, D40, -, st40⟩ := newO X hx hZ hown (hw _ (List.mem_of_getElem? (i := 0) rfl)) (hw _ (List.mem_of_getElem? (i := 1) rfl)) (hw _ (List.mem_of_getElem? (i := 2) rfl)) e0 (g := (mkF m 52 #[.val (.int p1), .val (.int p2), .val (.int p3), .val (.int a3), .val (.int a4), .val .null, .val .null, .unset, .unset, .unset, .unset, .unset] [])) rfl (hb hby at_52) (by show cells + 1 ≤ 24; omega) (by show slots + 2 ≤ 1152; omega)
  obtain ⟨ob, g40⟩ : ∃ z, z = h0.size := ⟨_, rfl⟩
  rw [← g40] at A40 D40 st40
  have F1 := D40 (Or.inr (hw _ (List.mem_of_getElem? (i := 10) rfl))) (ty := (.object "java/lang/String")) (by decide)
  have F2 := D40 (Or.inr (hw _ (List.mem_of_getElem? (i := 12) rfl))) (ty := (.object "java/lang/String")) (by decide)
  have K40 : ∀ t, Steps p.tables e below (T40.setTop (mkF m 55 #[.val (.int p1), .val (.int p2), .val (.int p3), .val (.int a3), .val (.int a4), .val .null, .val .null, .unset, .unset, .unset, .unset, .unset] [(.ref ob)])) t → Steps p.tables e below S0 t := fun t hk => K0 t (st40 _ hk)
  have sz40 : n0 ≤ h40.size := Nat.le_trans Z0 E40.1
  have K41 : ∀ t, Steps p.tables e below (T40.setTop (mkF m 60 #[.val (.int p1), .val (.int p2), .val (.int p3), .val (.int a3), .val (.int a4), .val .null, .val .null, .unset, .unset, .unset, .unset, .unset] [.null, .null, (.ref ob), (.ref ob)])) t → Steps p.tables e below S0 t := by
    intro t hk
    refine K40 t ?_
    show Steps p.tables e below (T40.setTop (mkF m 55 #[.val (.int p1), .val (.int p2), .val (.int p3), .val (.int a3), .val (.int a4), .val .null, .val .null, .unset, .unset, .unset, .unset, .unset] [(.ref ob)])) _
    refine XS.dup X40.here hx rfl (hb hby at_55) rfl rfl ?_
    show Steps p.tables e below (T40.setTop (mkF m 56 #[.val (.int p1), .val (.int p2), .val (.int p3), .val (.int a3), .val (.int a4), .val .null, .val .null, .unset, .unset, .unset, .unset, .unset] [(.ref ob), (.ref ob)])) _
    refine XS.aload X40.here hx rfl (hb hby at_56) rfl rfl ?_
    show Steps p.tables e below (T40.setTop (mkF m 58 #[.val (.int p1), .val (.int p2), .val (.int p3), .val (.int a3), .val (.int a4), .val .null, .val .null, .unset, .unset, .unset, .unset, .unset] [.null, (.ref ob), (.ref ob)])) _
    refine XS.aload X40.here hx rfl (hb hby at_58) rfl rfl ?_
    show Steps p.tables e below (T40.setTop (mkF m 60 #[.val (.int p1), .val (.int p2), .val (.int p3), .val (.int a3), .val (.int a4), .val .null, .val .null, .unset, .unset, .unset, .unset, .unset] [.null, .null, (.ref ob), (.ref ob)])) _
    exact hk
  obtain ⟨_, _, ⟨T60, L60, k60, n60⟩, -, X60, ⟨Lc60, hQ60, l60, y60, z60⟩, st60⟩ := X40.specialBack hx (y := (⟨"com/example/bertilak/bertilak/model/NameTest", "<init>", "(Ljava/lang/String;Ljava/lang/String;)V"⟩ : MethodName)) rfl hown (mvT hZ (hw _ (List.mem_of_getElem? (i := 3) rfl))) (mvT hZ (hw _ (List.mem_of_getElem? (i := 4) rfl))) (mvT hZ (hw _ (List.mem_of_getElem? (i := 5) rfl))) (by decide) (backOf (W := 1) (rm1_nn l Z a0 hw [] ob  h40 n0 sz40 A40 F1 F2 (by rw [g40]; exact Z0)) hZ (hw _ (List.mem_of_getElem? (i := 5) rfl)) (hw _ (List.mem_of_getElem? (i := 2) rfl)) (by decide) (by decide)) (g := (mkF m 60 #[.val (.int p1), .val (.int p2), .val (.int p3), .val (.int a3), .val (.int a4), .val .null, .val .null, .unset, .unset, .unset, .unset, .unset] [.null, .null, (.ref ob), (.ref ob)])) rfl (by rw [hml]; rfl) (Steps.refl _) (a := ob) (argsL := [.null, .null]) (rest := [(.ref ob)]) (lenOf (by decide +kernel : parseMethodDescriptor "(Ljava/lang/String;Ljava/lang/String;)V" = some ⟨[(.object "java/lang/String"), (.object "java/lang/String")], none⟩) rfl) rfl (by show 2 * 0 + _ ≤ _; exact Nat.le_of_eq rfl) (hb hby at_60) (fun _ _ => ⟨rfl, e40, (by show cells + 1 + 0 ≤ 24; omega), (by show slots + 2 + 0 ≤ 1152; omega)⟩)
  dsimp only [Pt.U, Pt.locs, Pt.cells, Pt.slots] at X60 l60 y60 z60 st60 hQ60
  replace y60 := y60.symm; replace z60 := z60.symm; subst l60 y60 z60
  obtain ⟨rfl, Nq60, Ki, EA, F3, F4⟩ := hQ60
  have N60 := Fr.app N0 Nq60
  have K60 : ∀ t, Steps p.tables e below (T60.setTop (mkF m 63 #[.val (.int p1), .val (.int p2), .val (.int p3), .val (.int a3), .val (.int a4), .val .null, .val .null, .unset, .unset, .unset, .unset, .unset] [(.ref ob)])) t → Steps p.tables e below S0 t := fun t hk => K41 t (st60.trans hk)
  have sz60 := Nat.le_trans sz40 Ki.1
  have K61 : ∀ t, Steps p.tables e below (T60.setTop (mkF m 67 #[.val (.int p1), .val (.int p2), .val (.int p3), .val (.int a3), .val (.int a4), .val .null, .val .null, .val (.ref ob), .unset, .unset, .unset, .unset] [(.ref ob)])) t → Steps p.tables e below S0 t := by
    intro t hk
    refine K60 t ?_
    show Steps p.tables e below (T60.setTop (mkF m 63 #[.val (.int p1), .val (.int p2), .val (.int p3), .val (.int a3), .val (.int a4), .val .null, .val .null, .unset, .unset, .unset, .unset, .unset] [(.ref ob)])) _
    refine XS.astore X60.here hx rfl (hb hby at_63) rfl rfl (l' := #[.val (.int p1), .val (.int p2), .val (.int p3), .val (.int a3), .val (.int a4), .val .null, .val .null, .val (.ref ob), .unset, .unset, .unset, .unset]) rfl ?_
    show Steps p.tables e below (T60.setTop (mkF m 65 #[.val (.int p1), .val (.int p2), .val (.int p3), .val (.int a3), .val (.int a4), .val .null, .val .null, .val (.ref ob), .unset, .unset, .unset, .unset] [])) _
    refine XS.aload X60.here hx rfl (hb hby at_65) rfl rfl ?_
    show Steps p.tables e below (T60.setTop (mkF m 67 #[.val (.int p1), .val (.int p2), .val (.int p3), .val (.int a3), .val (.int a4), .val .null, .val .null, .val (.ref ob), .unset, .unset, .unset, .unset] [(.ref ob)])) _
    exact hk
  obtain ⟨cq62, kq62, q62a, q62b, q62c⟩ := isOf hZ rfl EA
  obtain ⟨_, _, ⟨T62, L62, k62, n62⟩, -, X62, ⟨Lc62, hQ62, l62, y62, z62⟩, st62⟩ := X60.virtualBack hx (y := (⟨"com/example/bertilak/bertilak/model/NameTest", "defaultPriority", "()D"⟩ : MethodName)) (z := (⟨"com/example/bertilak/bertilak/model/NameTest", "defaultPriority", "()D"⟩ : MethodName)) hown (mvT hZ (hw _ (List.mem_of_getElem? (i := 13) rfl))) (mvT hZ (hw _ (List.mem_of_getElem? (i := 14) rfl))) (notFace_of_selects (args := #[]) (mvT hZ (hw _ (List.mem_of_getElem? (i := 16) rfl)))) (mvT hZ (hw _ (List.mem_of_getElem? (i := 16) rfl))) (mvT hZ (hw _ (List.mem_of_getElem? (i := 15) rfl))) (by decide) (backOf (W := 0) (rm3_nn l Z a0 hw [] ob  T60.heap n0 sz60 F3 F4) hZ (hw _ (List.mem_of_getElem? (i := 17) rfl)) (hw _ (List.mem_of_getElem? (i := 2) rfl)) (by decide) (by decide)) q62a q62c (g := (mkF m 67 #[.val (.int p1), .val (.int p2), .val (.int p3), .val (.int a3), .val (.int a4), .val .null, .val .null, .val (.ref ob), .unset, .unset, .unset, .unset] [(.ref ob)])) rfl (by rw [hml]; rfl) (Steps.refl _) (argsL := []) (rest := []) (lenOf (by decide +kernel : parseMethodDescriptor "()D" = some ⟨[], (some .double)⟩) rfl) rfl (by show 2 * 0 + _ ≤ _; exact Nat.le_of_eq rfl) (hb hby at_67) (fun _ _ => ⟨rfl, rfl, (by show cells + 1 + 0 + 0 ≤ 24; omega), (by show slots + 2 + 0 + 0 ≤ 1152; omega)⟩)
  dsimp only [Pt.U, Pt.locs, Pt.cells, Pt.slots] at X62 l62 y62 z62 st62 hQ62
  replace y62 := y62.symm; replace z62 := z62.symm; subst l62 y62 z62
  obtain ⟨rfl, Nq62, e62⟩ := hQ62
  have N62 := Fr.app N60 Nq62
  have K62 : ∀ t, Steps p.tables e below (T62.setTop (mkF m 70 #[.val (.int p1), .val (.int p2), .val (.int p3), .val (.int a3), .val (.int a4), .val .null, .val .null, .val (.ref ob), .unset, .unset, .unset, .unset] [(.double (13826050856027422720 : UInt64))])) t → Steps p.tables e below S0 t := fun t hk => K61 t (st62.trans hk)
  have K63 : ∀ t, Steps p.tables e below (T62.setTop (mkF m 73 #[.val (.int p1), .val (.int p2), .val (.int p3), .val (.int a3), .val (.int a4), .val .null, .val .null, .val (.ref ob), .val (.double (13826050856027422720 : UInt64)), .second, .unset, .unset] [(.int a3)])) t → Steps p.tables e below S0 t := by
    intro t hk
    refine K62 t ?_
    show Steps p.tables e below (T62.setTop (mkF m 70 #[.val (.int p1), .val (.int p2), .val (.int p3), .val (.int a3), .val (.int a4), .val .null, .val .null, .val (.ref ob), .unset, .unset, .unset, .unset] [(.double (13826050856027422720 : UInt64))])) _
    refine XS.dstore X62.here hx rfl (hb hby at_70) rfl (l' := #[.val (.int p1), .val (.int p2), .val (.int p3), .val (.int a3), .val (.int a4), .val .null, .val .null, .val (.ref ob), .val (.double (13826050856027422720 : UInt64)), .second, .unset, .unset]) rfl ?_
    show Steps p.tables e below (T62.setTop (mkF m 72 #[.val (.int p1), .val (.int p2), .val (.int p3), .val (.int a3), .val (.int a4), .val .null, .val .null, .val (.ref ob), .val (.double (13826050856027422720 : UInt64)), .second, .unset, .unset] [])) _
    refine XS.iloadN X62.here hx rfl (hb hby at_72) rfl ?_
    show Steps p.tables e below (T62.setTop (mkF m 73 #[.val (.int p1), .val (.int p2), .val (.int p3), .val (.int a3), .val (.int a4), .val .null, .val .null, .val (.ref ob), .val (.double (13826050856027422720 : UInt64)), .second, .unset, .unset] [(.int a3)])) _
    exact hk
  have hc73 : a3 = (0 : Int32) := h3
  have K64 : ∀ t, Steps p.tables e below (T62.setTop (mkF m 87 #[.val (.int p1), .val (.int p2), .val (.int p3), .val (.int a3), .val (.int a4), .val .null, .val .null, .val (.ref ob), .val (.double (13826050856027422720 : UInt64)), .second, .unset, .unset] [])) t → Steps p.tables e below S0 t := by
    intro t hk
    refine K63 t ?_
    show Steps p.tables e below (T62.setTop (mkF m 73 #[.val (.int p1), .val (.int p2), .val (.int p3), .val (.int a3), .val (.int a4), .val .null, .val .null, .val (.ref ob), .val (.double (13826050856027422720 : UInt64)), .second, .unset, .unset] [(.int a3)])) _
    refine XS.ifYes X62.here hx rfl (pc0 := 73) (pc' := 87) rfl (hb hby at_73) rfl ((if0 _ _).trans (teq hc73).1) (by decide) (by decide) ?_
    exact hk
  have K65 : ∀ t, Steps p.tables e below (T62.setTop (mkF m 88 #[.val (.int p1), .val (.int p2), .val (.int p3), .val (.int a3), .val (.int a4), .val .null, .val .null, .val (.ref ob), .val (.double (13826050856027422720 : UInt64)), .second, .unset, .unset] [(.int a3)])) t → Steps p.tables e below S0 t := by
    intro t hk
    refine K64 t ?_
    show Steps p.tables e below (T62.setTop (mkF m 87 #[.val (.int p1), .val (.int p2), .val (.int p3), .val (.int a3), .val (.int a4), .val .null, .val .null, .val (.ref ob), .val (.double (13826050856027422720 : UInt64)), .second, .unset, .unset] [])) _
    refine XS.iloadN X62.here hx rfl (hb hby at_87) rfl ?_
    show Steps p.tables e below (T62.setTop (mkF m 88 #[.val (.int p1), .val (.int p2), .val (.int p3), .val (.int a3), .val (.int a4), .val .null, .val .null, .val (.ref ob), .val (.double (13826050856027422720 : UInt64)), .second, .unset, .unset] [(.int a3)])) _
    exact hk
  have hc88 : a3 = (0 : Int32) := h3
  have K66 : ∀ t, Steps p.tables e below (T62.setTop (mkF m 91 #[.val (.int p1), .val (.int p2), .val (.int p3), .val (.int a3), .val (.int a4), .val .null, .val .null, .val (.ref ob), .val (.double (13826050856027422720 : UInt64)), .second, .unset, .unset] [])) t → Steps p.tables e below S0 t := by
    intro t hk
    refine K65 t ?_
    show Steps p.tables e below (T62.setTop (mkF m 88 #[.val (.int p1), .val (.int p2), .val (.int p3), .val (.int a3), .val (.int a4), .val .null, .val .null, .val (.ref ob), .val (.double (13826050856027422720 : UInt64)), .second, .unset, .unset] [(.int a3)])) _
    refine XS.ifNo X62.here hx rfl (hb hby at_88) rfl ((if0 _ _).trans (teq hc88).2) ?_
    exact hk
  have K67 : ∀ t, Steps p.tables e below (T62.setTop (mkF m 93 #[.val (.int p1), .val (.int p2), .val (.int p3), .val (.int a3), .val (.int a4), .val .null, .val .null, .val (.ref ob), .val (.double (13826050856027422720 : UInt64)), .second, .unset, .unset] [(.int a4)])) t → Steps p.tables e below S0 t := by
    intro t hk
    refine K66 t ?_
    show Steps p.tables e below (T62.setTop (mkF m 91 #[.val (.int p1), .val (.int p2), .val (.int p3), .val (.int a3), .val (.int a4), .val .null, .val .null, .val (.ref ob), .val (.double (13826050856027422720 : UInt64)), .second, .unset, .unset] [])) _
    refine XS.iload X62.here hx rfl (hb hby at_91) rfl ?_
    show Steps p.tables e below (T62.setTop (mkF m 93 #[.val (.int p1), .val (.int p2), .val (.int p3), .val (.int a3), .val (.int a4), .val .null, .val .null, .val (.ref ob), .val (.double (13826050856027422720 : UInt64)), .second, .unset, .unset] [(.int a4)])) _
    exact hk
  have hc93 : a4 = (0 : Int32) := h4
  have K68 : ∀ t, Steps p.tables e below (T62.setTop (mkF m 104 #[.val (.int p1), .val (.int p2), .val (.int p3), .val (.int a3), .val (.int a4), .val .null, .val .null, .val (.ref ob), .val (.double (13826050856027422720 : UInt64)), .second, .unset, .unset] [])) t → Steps p.tables e below S0 t := by
    intro t hk
    refine K67 t ?_
    show Steps p.tables e below (T62.setTop (mkF m 93 #[.val (.int p1), .val (.int p2), .val (.int p3), .val (.int a3), .val (.int a4), .val .null, .val .null, .val (.ref ob), .val (.double (13826050856027422720 : UInt64)), .second, .unset, .unset] [(.int a4)])) _
    refine XS.ifYes X62.here hx rfl (pc0 := 93) (pc' := 104) rfl (hb hby at_93) rfl ((if0 _ _).trans (teq hc93).1) (by decide) (by decide) ?_
    exact hk
  have K69 : ∀ t, Steps p.tables e below (T62.setTop (mkF m 109 #[.val (.int p1), .val (.int p2), .val (.int p3), .val (.int a3), .val (.int a4), .val .null, .val .null, .val (.ref ob), .val (.double (13826050856027422720 : UInt64)), .second, .val (.double (13826050856027422720 : UInt64)), .second] [])) t → Steps p.tables e below S0 t := by
    intro t hk
    refine K68 t ?_
    show Steps p.tables e below (T62.setTop (mkF m 104 #[.val (.int p1), .val (.int p2), .val (.int p3), .val (.int a3), .val (.int a4), .val .null, .val .null, .val (.ref ob), .val (.double (13826050856027422720 : UInt64)), .second, .unset, .unset] [])) _
    refine X62.ldc2DoubleC hx hown (mvT hZ (hw _ (List.mem_of_getElem? (i := 19) rfl))) (g := (mkF m 104 #[.val (.int p1), .val (.int p2), .val (.int p3), .val (.int a3), .val (.int a4), .val .null, .val .null, .val (.ref ob), .val (.double (13826050856027422720 : UInt64)), .second, .unset, .unset] [])) rfl (hb hby at_104) _ ?_
    show Steps p.tables e below (T62.setTop (mkF m 107 #[.val (.int p1), .val (.int p2), .val (.int p3), .val (.int a3), .val (.int a4), .val .null, .val .null, .val (.ref ob), .val (.double (13826050856027422720 : UInt64)), .second, .unset, .unset] [(.double (13826050856027422720 : UInt64))])) _
    refine XS.dstore X62.here hx rfl (hb hby at_107) rfl (l' := #[.val (.int p1), .val (.int p2), .val (.int p3), .val (.int a3), .val (.int a4), .val .null, .val .null, .val (.ref ob), .val (.double (13826050856027422720 : UInt64)), .second, .val (.double (13826050856027422720 : UInt64)), .second]) rfl ?_
    show Steps p.tables e below (T62.setTop (mkF m 109 #[.val (.int p1), .val (.int p2), .val (.int p3), .val (.int a3), .val (.int a4), .val .null, .val .null, .val (.ref ob), .val (.double (13826050856027422720 : UInt64)), .second, .val (.double (13826050856027422720 : UInt64)), .second] [])) _
    exact hk
  have K70 : ∀ t, Steps p.tables e below (T62.setTop (mkF m 114 #[.val (.int p1), .val (.int p2), .val (.int p3), .val (.int a3), .val (.int a4), .val .null, .val .null, .val (.ref ob), .val (.double (13826050856027422720 : UInt64)), .second, .val (.double (13826050856027422720 : UInt64)), .second] [(.int (0 : Int32))])) t → Steps p.tables e below S0 t := by
    intro t hk
    refine K69 t ?_
    show Steps p.tables e below (T62.setTop (mkF m 109 #[.val (.int p1), .val (.int p2), .val (.int p3), .val (.int a3), .val (.int a4), .val .null, .val .null, .val (.ref ob), .val (.double (13826050856027422720 : UInt64)), .second, .val (.double (13826050856027422720 : UInt64)), .second] [])) _
    refine XS.dload X62.here hx rfl (hb hby at_109) rfl ?_
    show Steps p.tables e below (T62.setTop (mkF m 111 #[.val (.int p1), .val (.int p2), .val (.int p3), .val (.int a3), .val (.int a4), .val .null, .val .null, .val (.ref ob), .val (.double (13826050856027422720 : UInt64)), .second, .val (.double (13826050856027422720 : UInt64)), .second] [(.double (13826050856027422720 : UInt64))])) _
    refine XS.dload X62.here hx rfl (hb hby at_111) rfl ?_
    show Steps p.tables e below (T62.setTop (mkF m 113 #[.val (.int p1), .val (.int p2), .val (.int p3), .val (.int a3), .val (.int a4), .val .null, .val .null, .val (.ref ob), .val (.double (13826050856027422720 : UInt64)), .second, .val (.double (13826050856027422720 : UInt64)), .second] [(.double (13826050856027422720 : UInt64)), (.double (13826050856027422720 : UInt64))])) _
    refine XS.dcmpS X62.here hx rfl (v := (0 : Int32)) (hb hby at_113) rfl (by decide +kernel) ?_
    show Steps p.tables e below (T62.setTop (mkF m 114 #[.val (.int p1), .val (.int p2), .val (.int p3), .val (.int a3), .val (.int a4), .val .null, .val .null, .val (.ref ob), .val (.double (13826050856027422720 : UInt64)), .second, .val (.double (13826050856027422720 : UInt64)), .second] [(.int (0 : Int32))])) _
    exact hk
  have hc114 : (0 : Int32) = (0 : Int32) := rfl
  have K71 : ∀ t, Steps p.tables e below (T62.setTop (mkF m 117 #[.val (.int p1), .val (.int p2), .val (.int p3), .val (.int a3), .val (.int a4), .val .null, .val .null, .val (.ref ob), .val (.double (13826050856027422720 : UInt64)), .second, .val (.double (13826050856027422720 : UInt64)), .second] [])) t → Steps p.tables e below S0 t := by
    intro t hk
    refine K70 t ?_
    show Steps p.tables e below (T62.setTop (mkF m 114 #[.val (.int p1), .val (.int p2), .val (.int p3), .val (.int a3), .val (.int a4), .val .null, .val .null, .val (.ref ob), .val (.double (13826050856027422720 : UInt64)), .second, .val (.double (13826050856027422720 : UInt64)), .second] [(.int (0 : Int32))])) _
    refine XS.ifNo X62.here hx rfl (hb hby at_114) rfl ((if0 _ _).trans (teq hc114).2) ?_
    exact hk
  have K72 : ∀ t, Steps p.tables e below (T62.setTop (mkF m 122 #[.val (.int p1), .val (.int p2), .val (.int p3), .val (.int a3), .val (.int a4), .val .null, .val .null, .val (.ref ob), .val (.double (13826050856027422720 : UInt64)), .second, .val (.double (13826050856027422720 : UInt64)), .second] [(.int (1 : Int32))])) t → Steps p.tables e below S0 t := by
    intro t hk
    refine K71 t ?_
    show Steps p.tables e below (T62.setTop (mkF m 117 #[.val (.int p1), .val (.int p2), .val (.int p3), .val (.int a3), .val (.int a4), .val .null, .val .null, .val (.ref ob), .val (.double (13826050856027422720 : UInt64)), .second, .val (.double (13826050856027422720 : UInt64)), .second] [])) _
    refine XS.iconst X62.here hx rfl (hb hby at_117) ?_
    show Steps p.tables e below (T62.setTop (mkF m 118 #[.val (.int p1), .val (.int p2), .val (.int p3), .val (.int a3), .val (.int a4), .val .null, .val .null, .val (.ref ob), .val (.double (13826050856027422720 : UInt64)), .second, .val (.double (13826050856027422720 : UInt64)), .second] [(.int (1 : Int32))])) _
    refine XS.goto X62.here hx rfl (pc0 := 118) (pc' := 122) rfl (hb hby at_118) (by decide) (by decide) ?_
    show Steps p.tables e below (T62.setTop (mkF m 122 #[.val (.int p1), .val (.int p2), .val (.int p3), .val (.int a3), .val (.int a4), .val .null, .val .null, .val (.ref ob), .val (.double (13826050856027422720 : UInt64)), .second, .val (.double (13826050856027422720 : UInt64)), .second] [(.int (1 : Int32))])) _
    exact hk
  have hk9 : k0 ≤ T62.heap.size := by rw [e62]; exact Nat.le_trans hk0 (Nat.le_trans E40.1 Ki.1)
  have Y9 := X62.more (by omega : _ ≤ 24) (by omega : _ ≤ 1152)
  obtain ⟨fs, hr, hrun, hended, hEnd⟩ := Y9.leaveW hS hk9 (v := some (.int (1 : Int32))) (fun h => by rw [hret] at h; cases h) hlk
  exact ⟨_, _, K72 _ (retN Y9 hx (t := .boolean) (hret.trans (rfl : ret = some .boolean)) (by simp) (hb hby at_122) hr), hrun, hended, _, _, rfl, ⟨rfl, N62⟩, hEnd⟩
set_option maxRecDepth 65536 in
set_option maxHeartbeats 40000000 in
theorem own_tail_nr {p : Program} {l : Launch} {e : Env} {s : State} {m : MethodId} {args : Array Value} {below : List Frame} {meth : Method} {c : Code} {T : State} {locs : List Loc} {cells slots : Nat} {Z : State} {a0 : Array Value} {h0 : Heap} {n0 : Nat} {S0 : State} {vm0 : Vm} (X : Stand p l e room_1 (s.setVm vm0) m args below meth c T locs cells slots) (hx : p.tables.exec = Jvm.exec) (hby : c.code = code) (hml : c.maxLocals = 12) (hown : (s.setVm vm0).vm.findClass "com/example/bertilak/bertilak/model/NameTestDefaultPriorityPinLaw" = some m.cls) (hZ : Z.Warmed39 (s.setVm vm0).vm) (hw : ∀ d ∈ tables_1, d.before a0 Z = true) (hret : meth.sig.returnType = ret) (hlk : meth.locks = false) (p1 : Int32) (p2 : Int32) (p3 : Int32) (a3 : Int32) (a4 : Int32) (x2 : Addr) (e0 : T.heap = h0) (Z0 : n0 ≤ h0.size) (N0 : Fr n0 locs) (h3 : a3 = (0 : Int32)) (h4 : ¬ a4 = (0 : Int32)) (hcb : cells ≤ 8) (hsb : slots ≤ 100) {k0 : Nat} (hS : s.Since vm0 k0) (hk0 : k0 ≤ h0.size) (K0 : ∀ t, Steps p.tables e below (T.setTop (mkF m 52 #[.val (.int p1), .val (.int p2), .val (.int p3), .val (.int a3), .val (.int a4), .val .null, .val (.ref x2), .unset, .unset, .unset, .unset, .unset] [])) t → Steps p.tables e below S0 t) :
    ∃ s₂ o, Steps p.tables e below S0 s₂ ∧ s₂.status = .running ∧ Ended s₂ below o ∧ (∃ v L, o = .returned v ∧ (v = some (.int (1 : Int32)) ∧ Fr n0 L) ∧ ReturnedEndW s o s₂ L 24 1152) := by
  obtain ⟨T40, h40, X40, e40, E40, A40, D40, -, st40⟩ := newO X hx hZ hown (hw _ (List.mem_of_getElem? (i := 0) rfl)) (hw _ (List.mem_of_getElem? (i := 1) rfl)) (hw _ (List.mem_of_getElem? (i := 2) rfl)) e0 (g := (mkF m 52 #[.val (.int p1), .val (.int p2), .val (.int p3), .val (.int a3), .val (.int a4), .val .null, .val (.ref x2), .unset, .unset, .unset, .unset, .unset] [])) rfl (hb hby at_52) (by show cells + 1 ≤ 24; omega) (by show slots + 2 ≤ 1152; omega)
  obtain ⟨ob, g40⟩ : ∃ z, z = h0.size := ⟨_, rfl⟩
  rw [← g40] at A40 D40 st40
  have F1 := D40 (Or.inr (hw _ (List.mem_of_getElem? (i := 10) rfl))) (ty := (.object "java/lang/String")) (by decide)
  have F2 := D40 (Or.inr (hw _ (List.mem_of_getElem? (i := 12) rfl))) (ty := (.object "java/lang/String")) (by decide)
  have K40 : ∀ t, Steps p.tables e below (T40.setTop (mkF m 55 #[.val (.int p1), .val (.int p2), .val (.int p3), .val (.int a3), .val (.int a4), .val .null, .val (.ref x2), .unset, .unset, .unset, .unset, .unset] [(.ref ob)])) t → Steps p.tables e below S0 t := fun t hk => K0 t (st40 _ hk)
  have sz40 : n0 ≤ h40.size := Nat.le_trans Z0 E40.1
  have K41 : ∀ t, Steps p.tables e below (T40.setTop (mkF m 60 #[.val (.int p1), .val (.int p2), .val (.int p3), .val (.int a3), .val (.int a4), .val .null, .val (.ref x2), .unset, .unset, .unset, .unset, .unset] [(.ref x2), .null, (.ref ob), (.ref ob)])) t → Steps p.tables e below S0 t := by
    intro t hk
    refine K40 t ?_
    show Steps p.tables e below (T40.setTop (mkF m 55 #[.val (.int p1), .val (.int p2), .val (.int p3), .val (.int a3), .val (.int a4), .val .null, .val (.ref x2), .unset, .unset, .unset, .unset, .unset] [(.ref ob)])) _
    refine XS.dup X40.here hx rfl (hb hby at_55) rfl rfl ?_
    show Steps p.tables e below (T40.setTop (mkF m 56 #[.val (.int p1), .val (.int p2), .val (.int p3), .val (.int a3), .val (.int a4), .val .null, .val (.ref x2), .unset, .unset, .unset, .unset, .unset] [(.ref ob), (.ref ob)])) _
    refine XS.aload X40.here hx rfl (hb hby at_56) rfl rfl ?_
    show Steps p.tables e below (T40.setTop (mkF m 58 #[.val (.int p1), .val (.int p2), .val (.int p3), .val (.int a3), .val (.int a4), .val .null, .val (.ref x2), .unset, .unset, .unset, .unset, .unset] [.null, (.ref ob), (.ref ob)])) _
    refine XS.aload X40.here hx rfl (hb hby at_58) rfl rfl ?_
    show Steps p.tables e below (T40.setTop (mkF m 60 #[.val (.int p1), .val (.int p2), .val (.int p3), .val (.int a3), .val (.int a4), .val .null, .val (.ref x2), .unset, .unset, .unset, .unset, .unset] [(.ref x2), .null, (.ref ob), (.ref ob)])) _
    exact hk
  obtain ⟨_, _, ⟨T60, L60, k60, n60⟩, -, X60, ⟨Lc60, hQ60, l60, y60, z60⟩, st60⟩ := X40.specialBack hx (y := (⟨"com/example/bertilak/bertilak/model/NameTest", "<init>", "(Ljava/lang/String;Ljava/lang/String;)V"⟩ : MethodName)) rfl hown (mvT hZ (hw _ (List.mem_of_getElem? (i := 3) rfl))) (mvT hZ (hw _ (List.mem_of_getElem? (i := 4) rfl))) (mvT hZ (hw _ (List.mem_of_getElem? (i := 5) rfl))) (by decide) (backOf (W := 1) (rm1_nr l Z a0 hw [] ob x2 h40 n0 sz40 A40 F1 F2 (by rw [g40]; exact Z0)) hZ (hw _ (List.mem_of_getElem? (i := 5) rfl)) (hw _ (List.mem_of_getElem? (i := 2) rfl)) (by decide) (by decide)) (g := (mkF m 60 #[.val (.int p1), .val (.int p2), .val (.int p3), .val (.int a3), .val (.int a4), .val .null, .val (.ref x2), .unset, .unset, .unset, .unset, .unset] [(.ref x2), .null, (.ref ob), (.ref ob)])) rfl (by rw [hml]; rfl) (Steps.refl _) (a := ob) (argsL := [.null, (.ref x2)]) (rest := [(.ref ob)]) (lenOf (by decide +kernel : parseMethodDescriptor "(Ljava/lang/String;Ljava/lang/String;)V" = some ⟨[(.object "java/lang/String"), (.object "java/lang/String")], none⟩) rfl) rfl (by show 2 * 0 + _ ≤ _; exact Nat.le_of_eq rfl) (hb hby at_60) (fun _ _ => ⟨rfl, e40, (by show cells + 1 + 0 ≤ 24; omega), (by show slots + 2 + 0 ≤ 1152; omega)⟩)
  dsimp only [Pt.U, Pt.locs, Pt.cells, Pt.slots] at X60 l60 y60 z60 st60 hQ60
  replace y60 := y60.symm; replace z60 := z60.symm; subst l60 y60 z60
  obtain ⟨rfl, Nq60, Ki, EA, F3, F4⟩ := hQ60
  have N60 := Fr.app N0 Nq60
  have K60 : ∀ t, Steps p.tables e below (T60.setTop (mkF m 63 #[.val (.int p1), .val (.int p2), .val (.int p3), .val (.int a3), .val (.int a4), .val .null, .val (.ref x2), .unset, .unset, .unset, .unset, .unset] [(.ref ob)])) t → Steps p.tables e below S0 t := fun t hk => K41 t (st60.trans hk)
  have sz60 := Nat.le_trans sz40 Ki.1
  have K61 : ∀ t, Steps p.tables e below (T60.setTop (mkF m 67 #[.val (.int p1), .val (.int p2), .val (.int p3), .val (.int a3), .val (.int a4), .val .null, .val (.ref x2), .val (.ref ob), .unset, .unset, .unset, .unset] [(.ref ob)])) t → Steps p.tables e below S0 t := by
    intro t hk
    refine K60 t ?_
    show Steps p.tables e below (T60.setTop (mkF m 63 #[.val (.int p1), .val (.int p2), .val (.int p3), .val (.int a3), .val (.int a4), .val .null, .val (.ref x2), .unset, .unset, .unset, .unset, .unset] [(.ref ob)])) _
    refine XS.astore X60.here hx rfl (hb hby at_63) rfl rfl (l' := #[.val (.int p1), .val (.int p2), .val (.int p3), .val (.int a3), .val (.int a4), .val .null, .val (.ref x2), .val (.ref ob), .unset, .unset, .unset, .unset]) rfl ?_
    show Steps p.tables e below (T60.setTop (mkF m 65 #[.val (.int p1), .val (.int p2), .val (.int p3), .val (.int a3), .val (.int a4), .val .null, .val (.ref x2), .val (.ref ob), .unset, .unset, .unset, .unset] [])) _
    refine XS.aload X60.here hx rfl (hb hby at_65) rfl rfl ?_
    show Steps p.tables e below (T60.setTop (mkF m 67 #[.val (.int p1), .val (.int p2), .val (.int p3), .val (.int a3), .val (.int a4), .val .null, .val (.ref x2), .val (.ref ob), .unset, .unset, .unset, .unset] [(.ref ob)])) _
    exact hk
  obtain ⟨cq62, kq62, q62a, q62b, q62c⟩ := isOf hZ rfl EA
  obtain ⟨_, _, ⟨T62, L62, k62, n62⟩, -, X62, ⟨Lc62, hQ62, l62, y62, z62⟩, st62⟩ := X60.virtualBack hx (y := (⟨"com/example/bertilak/bertilak/model/NameTest", "defaultPriority", "()D"⟩ : MethodName)) (z := (⟨"com/example/bertilak/bertilak/model/NameTest", "defaultPriority", "()D"⟩ : MethodName)) hown (mvT hZ (hw _ (List.mem_of_getElem? (i := 13) rfl))) (mvT hZ (hw _ (List.mem_of_getElem? (i := 14) rfl))) (notFace_of_selects (args := #[]) (mvT hZ (hw _ (List.mem_of_getElem? (i := 16) rfl)))) (mvT hZ (hw _ (List.mem_of_getElem? (i := 16) rfl))) (mvT hZ (hw _ (List.mem_of_getElem? (i := 15) rfl))) (by decide) (backOf (W := 0) (rm3_nr l Z a0 hw [] ob x2 T60.heap n0 sz60 F3 F4) hZ (hw _ (List.mem_of_getElem? (i := 17) rfl)) (hw _ (List.mem_of_getElem? (i := 2) rfl)) (by decide) (by decide)) q62a q62c (g := (mkF m 67 #[.val (.int p1), .val (.int p2), .val (.int p3), .val (.int a3), .val (.int a4), .val .null, .val (.ref x2), .val (.ref ob), .unset, .unset, .unset, .unset] [(.ref ob)])) rfl (by rw [hml]; rfl) (Steps.refl _) (argsL := []) (rest := []) (lenOf (by decide +kernel : parseMethodDescriptor "()D" = some ⟨[], (some .double)⟩) rfl) rfl (by show 2 * 0 + _ ≤ _; exact Nat.le_of_eq rfl) (hb hby at_67) (fun _ _ => ⟨rfl, rfl, (by show cells + 1 + 0 + 0 ≤ 24; omega), (by show slots + 2 + 0 + 0 ≤ 1152; omega)⟩)
  dsimp only [Pt.U, Pt.locs, Pt.cells, Pt.slots] at X62 l62 y62 z62 st62 hQ62
  replace y62 := y62.symm; replace z62 := z62.symm; subst l62 y62 z62
  obtain ⟨rfl, Nq62, e62⟩ := hQ62
  have N62 := Fr.app N60 Nq62
  have K62 : ∀ t, Steps p.tables e below (T62.setTop (mkF m 70 #[.val (.int p1), .val (.int p2), .val (.int p3), .val (.int a3), .val (.int a4), .val .null, .val (.ref x2), .val (.ref ob), .unset, .unset, .unset, .unset] [(.double (13821547256400052224 : UInt64))])) t → Steps p.tables e below S0 t := fun t hk => K61 t (st62.trans hk)
  have K63 : ∀ t, Steps p.tables e below (T62.setTop (mkF m 73 #[.val (.int p1), .val (.int p2), .val (.int p3), .val (.int a3), .val (.int a4), .val .null, .val (.ref x2), .val (.ref ob), .val (.double (13821547256400052224 : UInt64)), .second, .unset, .unset] [(.int a3)])) t → Steps p.tables e below S0 t := by
    intro t hk
    refine K62 t ?_
    show Steps p.tables e below (T62.setTop (mkF m 70 #[.val (.int p1), .val (.int p2), .val (.int p3), .val (.int a3), .val (.int a4), .val .null, .val (.ref x2), .val (.ref ob), .unset, .unset, .unset, .unset] [(.double (13821547256400052224 : UInt64))])) _
    refine XS.dstore X62.here hx rfl (hb hby at_70) rfl (l' := #[.val (.int p1), .val (.int p2), .val (.int p3), .val (.int a3), .val (.int a4), .val .null, .val (.ref x2), .val (.ref ob), .val (.double (13821547256400052224 : UInt64)), .second, .unset, .unset]) rfl ?_
    show Steps p.tables e below (T62.setTop (mkF m 72 #[.val (.int p1), .val (.int p2), .val (.int p3), .val (.int a3), .val (.int a4), .val .null, .val (.ref x2), .val (.ref ob), .val (.double (13821547256400052224 : UInt64)), .second, .unset, .unset] [])) _
    refine XS.iloadN X62.here hx rfl (hb hby at_72) rfl ?_
    show Steps p.tables e below (T62.setTop (mkF m 73 #[.val (.int p1), .val (.int p2), .val (.int p3), .val (.int a3), .val (.int a4), .val .null, .val (.ref x2), .val (.ref ob), .val (.double (13821547256400052224 : UInt64)), .second, .unset, .unset] [(.int a3)])) _
    exact hk
  have hc73 : a3 = (0 : Int32) := h3
  have K64 : ∀ t, Steps p.tables e below (T62.setTop (mkF m 87 #[.val (.int p1), .val (.int p2), .val (.int p3), .val (.int a3), .val (.int a4), .val .null, .val (.ref x2), .val (.ref ob), .val (.double (13821547256400052224 : UInt64)), .second, .unset, .unset] [])) t → Steps p.tables e below S0 t := by
    intro t hk
    refine K63 t ?_
    show Steps p.tables e below (T62.setTop (mkF m 73 #[.val (.int p1), .val (.int p2), .val (.int p3), .val (.int a3), .val (.int a4), .val .null, .val (.ref x2), .val (.ref ob), .val (.double (13821547256400052224 : UInt64)), .second, .unset, .unset] [(.int a3)])) _
    refine XS.ifYes X62.here hx rfl (pc0 := 73) (pc' := 87) rfl (hb hby at_73) rfl ((if0 _ _).trans (teq hc73).1) (by decide) (by decide) ?_
    exact hk
  have K65 : ∀ t, Steps p.tables e below (T62.setTop (mkF m 88 #[.val (.int p1), .val (.int p2), .val (.int p3), .val (.int a3), .val (.int a4), .val .null, .val (.ref x2), .val (.ref ob), .val (.double (13821547256400052224 : UInt64)), .second, .unset, .unset] [(.int a3)])) t → Steps p.tables e below S0 t := by
    intro t hk
    refine K64 t ?_
    show Steps p.tables e below (T62.setTop (mkF m 87 #[.val (.int p1), .val (.int p2), .val (.int p3), .val (.int a3), .val (.int a4), .val .null, .val (.ref x2), .val (.ref ob), .val (.double (13821547256400052224 : UInt64)), .second, .unset, .unset] [])) _
    refine XS.iloadN X62.here hx rfl (hb hby at_87) rfl ?_
    show Steps p.tables e below (T62.setTop (mkF m 88 #[.val (.int p1), .val (.int p2), .val (.int p3), .val (.int a3), .val (.int a4), .val .null, .val (.ref x2), .val (.ref ob), .val (.double (13821547256400052224 : UInt64)), .second, .unset, .unset] [(.int a3)])) _
    exact hk
  have hc88 : a3 = (0 : Int32) := h3
  have K66 : ∀ t, Steps p.tables e below (T62.setTop (mkF m 91 #[.val (.int p1), .val (.int p2), .val (.int p3), .val (.int a3), .val (.int a4), .val .null, .val (.ref x2), .val (.ref ob), .val (.double (13821547256400052224 : UInt64)), .second, .unset, .unset] [])) t → Steps p.tables e below S0 t := by
    intro t hk
    refine K65 t ?_
    show Steps p.tables e below (T62.setTop (mkF m 88 #[.val (.int p1), .val (.int p2), .val (.int p3), .val (.int a3), .val (.int a4), .val .null, .val (.ref x2), .val (.ref ob), .val (.double (13821547256400052224 : UInt64)), .second, .unset, .unset] [(.int a3)])) _
    refine XS.ifNo X62.here hx rfl (hb hby at_88) rfl ((if0 _ _).trans (teq hc88).2) ?_
    exact hk
  have K67 : ∀ t, Steps p.tables e below (T62.setTop (mkF m 93 #[.val (.int p1), .val (.int p2), .val (.int p3), .val (.int a3), .val (.int a4), .val .null, .val (.ref x2), .val (.ref ob), .val (.double (13821547256400052224 : UInt64)), .second, .unset, .unset] [(.int a4)])) t → Steps p.tables e below S0 t := by
    intro t hk
    refine K66 t ?_
    show Steps p.tables e below (T62.setTop (mkF m 91 #[.val (.int p1), .val (.int p2), .val (.int p3), .val (.int a3), .val (.int a4), .val .null, .val (.ref x2), .val (.ref ob), .val (.double (13821547256400052224 : UInt64)), .second, .unset, .unset] [])) _
    refine XS.iload X62.here hx rfl (hb hby at_91) rfl ?_
    show Steps p.tables e below (T62.setTop (mkF m 93 #[.val (.int p1), .val (.int p2), .val (.int p3), .val (.int a3), .val (.int a4), .val .null, .val (.ref x2), .val (.ref ob), .val (.double (13821547256400052224 : UInt64)), .second, .unset, .unset] [(.int a4)])) _
    exact hk
  have hc93 : ¬ (a4 = (0 : Int32)) := h4
  have K68 : ∀ t, Steps p.tables e below (T62.setTop (mkF m 96 #[.val (.int p1), .val (.int p2), .val (.int p3), .val (.int a3), .val (.int a4), .val .null, .val (.ref x2), .val (.ref ob), .val (.double (13821547256400052224 : UInt64)), .second, .unset, .unset] [])) t → Steps p.tables e below S0 t := by
    intro t hk
    refine K67 t ?_
    show Steps p.tables e below (T62.setTop (mkF m 93 #[.val (.int p1), .val (.int p2), .val (.int p3), .val (.int a3), .val (.int a4), .val .null, .val (.ref x2), .val (.ref ob), .val (.double (13821547256400052224 : UInt64)), .second, .unset, .unset] [(.int a4)])) _
    refine XS.ifNo X62.here hx rfl (hb hby at_93) rfl ((if0 _ _).trans (feq hc93).1) ?_
    exact hk
  have K69 : ∀ t, Steps p.tables e below (T62.setTop (mkF m 109 #[.val (.int p1), .val (.int p2), .val (.int p3), .val (.int a3), .val (.int a4), .val .null, .val (.ref x2), .val (.ref ob), .val (.double (13821547256400052224 : UInt64)), .second, .val (.double (13821547256400052224 : UInt64)), .second] [])) t → Steps p.tables e below S0 t := by
    intro t hk
    refine K68 t ?_
    show Steps p.tables e below (T62.setTop (mkF m 96 #[.val (.int p1), .val (.int p2), .val (.int p3), .val (.int a3), .val (.int a4), .val .null, .val (.ref x2), .val (.ref ob), .val (.double (13821547256400052224 : UInt64)), .second, .unset, .unset] [])) _
    refine X62.ldc2DoubleC hx hown (mvT hZ (hw _ (List.mem_of_getElem? (i := 49) rfl))) (g := (mkF m 96 #[.val (.int p1), .val (.int p2), .val (.int p3), .val (.int a3), .val (.int a4), .val .null, .val (.ref x2), .val (.ref ob), .val (.double (13821547256400052224 : UInt64)), .second, .unset, .unset] [])) rfl (hb hby at_96) _ ?_
    show Steps p.tables e below (T62.setTop (mkF m 99 #[.val (.int p1), .val (.int p2), .val (.int p3), .val (.int a3), .val (.int a4), .val .null, .val (.ref x2), .val (.ref ob), .val (.double (13821547256400052224 : UInt64)), .second, .unset, .unset] [(.double (13821547256400052224 : UInt64))])) _
    refine XS.dstore X62.here hx rfl (hb hby at_99) rfl (l' := #[.val (.int p1), .val (.int p2), .val (.int p3), .val (.int a3), .val (.int a4), .val .null, .val (.ref x2), .val (.ref ob), .val (.double (13821547256400052224 : UInt64)), .second, .val (.double (13821547256400052224 : UInt64)), .second]) rfl ?_
    show Steps p.tables e below (T62.setTop (mkF m 101 #[.val (.int p1), .val (.int p2), .val (.int p3), .val (.int a3), .val (.int a4), .val .null, .val (.ref x2), .val (.ref ob), .val (.double (13821547256400052224 : UInt64)), .second, .val (.double (13821547256400052224 : UInt64)), .second] [])) _
    refine XS.goto X62.here hx rfl (pc0 := 101) (pc' := 109) rfl (hb hby at_101) (by decide) (by decide) ?_
    show Steps p.tables e below (T62.setTop (mkF m 109 #[.val (.int p1), .val (.int p2), .val (.int p3), .val (.int a3), .val (.int a4), .val .null, .val (.ref x2), .val (.ref ob), .val (.double (13821547256400052224 : UInt64)), .second, .val (.double (13821547256400052224 : UInt64)), .second] [])) _
    exact hk
  have K70 : ∀ t, Steps p.tables e below (T62.setTop (mkF m 114 #[.val (.int p1), .val (.int p2), .val (.int p3), .val (.int a3), .val (.int a4), .val .null, .val (.ref x2), .val (.ref ob), .val (.double (13821547256400052224 : UInt64)), .second, .val (.double (13821547256400052224 : UInt64)), .second] [(.int (0 : Int32))])) t → Steps p.tables e below S0 t := by
    intro t hk
    refine K69 t ?_
    show Steps p.tables e below (T62.setTop (mkF m 109 #[.val (.int p1), .val (.int p2), .val (.int p3), .val (.int a3), .val (.int a4), .val .null, .val (.ref x2), .val (.ref ob), .val (.double (13821547256400052224 : UInt64)), .second, .val (.double (13821547256400052224 : UInt64)), .second] [])) _
    refine XS.dload X62.here hx rfl (hb hby at_109) rfl ?_
    show Steps p.tables e below (T62.setTop (mkF m 111 #[.val (.int p1), .val (.int p2), .val (.int p3), .val (.int a3), .val (.int a4), .val .null, .val (.ref x2), .val (.ref ob), .val (.double (13821547256400052224 : UInt64)), .second, .val (.double (13821547256400052224 : UInt64)), .second] [(.double (13821547256400052224 : UInt64))])) _
    refine XS.dload X62.here hx rfl (hb hby at_111) rfl ?_
    show Steps p.tables e below (T62.setTop (mkF m 113 #[.val (.int p1), .val (.int p2), .val (.int p3), .val (.int a3), .val (.int a4), .val .null, .val (.ref x2), .val (.ref ob), .val (.double (13821547256400052224 : UInt64)), .second, .val (.double (13821547256400052224 : UInt64)), .second] [(.double (13821547256400052224 : UInt64)), (.double (13821547256400052224 : UInt64))])) _
    refine XS.dcmpS X62.here hx rfl (v := (0 : Int32)) (hb hby at_113) rfl (by decide +kernel) ?_
    show Steps p.tables e below (T62.setTop (mkF m 114 #[.val (.int p1), .val (.int p2), .val (.int p3), .val (.int a3), .val (.int a4), .val .null, .val (.ref x2), .val (.ref ob), .val (.double (13821547256400052224 : UInt64)), .second, .val (.double (13821547256400052224 : UInt64)), .second] [(.int (0 : Int32))])) _
    exact hk
  have hc114 : (0 : Int32) = (0 : Int32) := rfl
  have K71 : ∀ t, Steps p.tables e below (T62.setTop (mkF m 117 #[.val (.int p1), .val (.int p2), .val (.int p3), .val (.int a3), .val (.int a4), .val .null, .val (.ref x2), .val (.ref ob), .val (.double (13821547256400052224 : UInt64)), .second, .val (.double (13821547256400052224 : UInt64)), .second] [])) t → Steps p.tables e below S0 t := by
    intro t hk
    refine K70 t ?_
    show Steps p.tables e below (T62.setTop (mkF m 114 #[.val (.int p1), .val (.int p2), .val (.int p3), .val (.int a3), .val (.int a4), .val .null, .val (.ref x2), .val (.ref ob), .val (.double (13821547256400052224 : UInt64)), .second, .val (.double (13821547256400052224 : UInt64)), .second] [(.int (0 : Int32))])) _
    refine XS.ifNo X62.here hx rfl (hb hby at_114) rfl ((if0 _ _).trans (teq hc114).2) ?_
    exact hk
  have K72 : ∀ t, Steps p.tables e below (T62.setTop (mkF m 122 #[.val (.int p1), .val (.int p2), .val (.int p3), .val (.int a3), .val (.int a4), .val .null, .val (.ref x2), .val (.ref ob), .val (.double (13821547256400052224 : UInt64)), .second, .val (.double (13821547256400052224 : UInt64)), .second] [(.int (1 : Int32))])) t → Steps p.tables e below S0 t := by
    intro t hk
    refine K71 t ?_
    show Steps p.tables e below (T62.setTop (mkF m 117 #[.val (.int p1), .val (.int p2), .val (.int p3), .val (.int a3), .val (.int a4), .val .null, .val (.ref x2), .val (.ref ob), .val (.double (13821547256400052224 : UInt64)), .second, .val (.double (13821547256400052224 : UInt64)), .second] [])) _
    refine XS.iconst X62.here hx rfl (hb hby at_117) ?_
    show Steps p.tables e below (T62.setTop (mkF m 118 #[.val (.int p1), .val (.int p2), .val (.int p3), .val (.int a3), .val (.int a4), .val .null, .val (.ref x2), .val (.ref ob), .val (.double (13821547256400052224 : UInt64)), .second, .val (.double (13821547256400052224 : UInt64)), .second] [(.int (1 : Int32))])) _
    refine XS.goto X62.here hx rfl (pc0 := 118) (pc' := 122) rfl (hb hby at_118) (by decide) (by decide) ?_
    show Steps p.tables e below (T62.setTop (mkF m 122 #[.val (.int p1), .val (.int p2), .val (.int p3), .val (.int a3), .val (.int a4), .val .null, .val (.ref x2), .val (.ref ob), .val (.double (13821547256400052224 : UInt64)), .second, .val (.double (13821547256400052224 : UInt64)), .second] [(.int (1 : Int32))])) _
    exact hk
  have hk9 : k0 ≤ T62.heap.size := by rw [e62]; exact Nat.le_trans hk0 (Nat.le_trans E40.1 Ki.1)
  have Y9 := X62.more (by omega : _ ≤ 24) (by omega : _ ≤ 1152)
  obtain ⟨fs, hr, hrun, hended, hEnd⟩ := Y9.leaveW hS hk9 (v := some (.int (1 : Int32))) (fun h => by rw [hret] at h; cases h) hlk
  exact ⟨_, _, K72 _ (retN Y9 hx (t := .boolean) (hret.trans (rfl : ret = some .boolean)) (by simp) (hb hby at_122) hr), hrun, hended, _, _, rfl, ⟨rfl, N62⟩, hEnd⟩
set_option maxRecDepth 65536 in
set_option maxHeartbeats 40000000 in
theorem own_tail_rn {p : Program} {l : Launch} {e : Env} {s : State} {m : MethodId} {args : Array Value} {below : List Frame} {meth : Method} {c : Code} {T : State} {locs : List Loc} {cells slots : Nat} {Z : State} {a0 : Array Value} {h0 : Heap} {n0 : Nat} {S0 : State} {vm0 : Vm} (X : Stand p l e room_1 (s.setVm vm0) m args below meth c T locs cells slots) (hx : p.tables.exec = Jvm.exec) (hby : c.code = code) (hml : c.maxLocals = 12) (hown : (s.setVm vm0).vm.findClass "com/example/bertilak/bertilak/model/NameTestDefaultPriorityPinLaw" = some m.cls) (hZ : Z.Warmed39 (s.setVm vm0).vm) (hw : ∀ d ∈ tables_1, d.before a0 Z = true) (hret : meth.sig.returnType = ret) (hlk : meth.locks = false) (p1 : Int32) (p2 : Int32) (p3 : Int32) (a3 : Int32) (a4 : Int32) (x1 : Addr) (e0 : T.heap = h0) (Z0 : n0 ≤ h0.size) (N0 : Fr n0 locs) (h3 : ¬ a3 = (0 : Int32)) (h4 : a4 = (0 : Int32)) (hcb : cells ≤ 8) (hsb : slots ≤ 100) {k0 : Nat} (hS : s.Since vm0 k0) (hk0 : k0 ≤ h0.size) (K0 : ∀ t, Steps p.tables e below (T.setTop (mkF m 52 #[.val (.int p1), .val (.int p2), .val (.int p3), .val (.int a3), .val (.int a4), .val (.ref x1), .val .null, .unset, .unset, .unset, .unset, .unset] [])) t → Steps p.tables e below S0 t) :
    ∃ s₂ o, Steps p.tables e below S0 s₂ ∧ s₂.status = .running ∧ Ended s₂ below o ∧ (∃ v L, o = .returned v ∧ (v = some (.int (1 : Int32)) ∧ Fr n0 L) ∧ ReturnedEndW s o s₂ L 24 1152) := by
  obtain ⟨T40, h40, X40, e40, E40, A40, D40, -, st40⟩ := newO X hx hZ hown (hw _ (List.mem_of_getElem? (i := 0) rfl)) (hw _ (List.mem_of_getElem? (i := 1) rfl)) (hw _ (List.mem_of_getElem? (i := 2) rfl)) e0 (g := (mkF m 52 #[.val (.int p1), .val (.int p2), .val (.int p3), .val (.int a3), .val (.int a4), .val (.ref x1), .val .null, .unset, .unset, .unset, .unset, .unset] [])) rfl (hb hby at_52) (by show cells + 1 ≤ 24; omega) (by show slots + 2 ≤ 1152; omega)
  obtain ⟨ob, g40⟩ : ∃ z, z = h0.size := ⟨_, rfl⟩
  rw [← g40] at A40 D40 st40
  have F1 := D40 (Or.inr (hw _ (List.mem_of_getElem? (i := 10) rfl))) (ty := (.object "java/lang/String")) (by decide)
  have F2 := D40 (Or.inr (hw _ (List.mem_of_getElem? (i := 12) rfl))) (ty := (.object "java/lang/String")) (by decide)
  have K40 : ∀ t, Steps p.tables e below (T40.setTop (mkF m 55 #[.val (.int p1), .val (.int p2), .val (.int p3), .val (.int a3), .val (.int a4), .val (.ref x1), .val .null, .unset, .unset, .unset, .unset, .unset] [(.ref ob)])) t → Steps p.tables e below S0 t := fun t hk => K0 t (st40 _ hk)
  have sz40 : n0 ≤ h40.size := Nat.le_trans Z0 E40.1
  have K41 : ∀ t, Steps p.tables e below (T40.setTop (mkF m 60 #[.val (.int p1), .val (.int p2), .val (.int p3), .val (.int a3), .val (.int a4), .val (.ref x1), .val .null, .unset, .unset, .unset, .unset, .unset] [.null, (.ref x1), (.ref ob), (.ref ob)])) t → Steps p.tables e below S0 t := by
    intro t hk
    refine K40 t ?_
    show Steps p.tables e below (T40.setTop (mkF m 55 #[.val (.int p1), .val (.int p2), .val (.int p3), .val (.int a3), .val (.int a4), .val (.ref x1), .val .null, .unset, .unset, .unset, .unset, .unset] [(.ref ob)])) _
    refine XS.dup X40.here hx rfl (hb hby at_55) rfl rfl ?_
    show Steps p.tables e below (T40.setTop (mkF m 56 #[.val (.int p1), .val (.int p2), .val (.int p3), .val (.int a3), .val (.int a4), .val (.ref x1), .val .null, .unset, .unset, .unset, .unset, .unset] [(.ref ob), (.ref ob)])) _
    refine XS.aload X40.here hx rfl (hb hby at_56) rfl rfl ?_
    show Steps p.tables e below (T40.setTop (mkF m 58 #[.val (.int p1), .val (.int p2), .val (.int p3), .val (.int a3), .val (.int a4), .val (.ref x1), .val .null, .unset, .unset, .unset, .unset, .unset] [(.ref x1), (.ref ob), (.ref ob)])) _
    refine XS.aload X40.here hx rfl (hb hby at_58) rfl rfl ?_
    show Steps p.tables e below (T40.setTop (mkF m 60 #[.val (.int p1), .val (.int p2), .val (.int p3), .val (.int a3), .val (.int a4), .val (.ref x1), .val .null, .unset, .unset, .unset, .unset, .unset] [.null, (.ref x1), (.ref ob), (.ref ob)])) _
    exact hk
  obtain ⟨_, _, ⟨T60, L60, k60, n60⟩, -, X60, ⟨Lc60, hQ60, l60, y60, z60⟩, st60⟩ := X40.specialBack hx (y := (⟨"com/example/bertilak/bertilak/model/NameTest", "<init>", "(Ljava/lang/String;Ljava/lang/String;)V"⟩ : MethodName)) rfl hown (mvT hZ (hw _ (List.mem_of_getElem? (i := 3) rfl))) (mvT hZ (hw _ (List.mem_of_getElem? (i := 4) rfl))) (mvT hZ (hw _ (List.mem_of_getElem? (i := 5) rfl))) (by decide) (backOf (W := 1) (rm1_rn l Z a0 hw [] ob x1 h40 n0 sz40 A40 F1 F2 (by rw [g40]; exact Z0)) hZ (hw _ (List.mem_of_getElem? (i := 5) rfl)) (hw _ (List.mem_of_getElem? (i := 2) rfl)) (by decide) (by decide)) (g := (mkF m 60 #[.val (.int p1), .val (.int p2), .val (.int p3), .val (.int a3), .val (.int a4), .val (.ref x1), .val .null, .unset, .unset, .unset, .unset, .unset] [.null, (.ref x1), (.ref ob), (.ref ob)])) rfl (by rw [hml]; rfl) (Steps.refl _) (a := ob) (argsL := [(.ref x1), .null]) (rest := [(.ref ob)]) (lenOf (by decide +kernel : parseMethodDescriptor "(Ljava/lang/String;Ljava/lang/String;)V" = some ⟨[(.object "java/lang/String"), (.object "java/lang/String")], none⟩) rfl) rfl (by show 2 * 0 + _ ≤ _; exact Nat.le_of_eq rfl) (hb hby at_60) (fun _ _ => ⟨rfl, e40, (by show cells + 1 + 0 ≤ 24; omega), (by show slots + 2 + 0 ≤ 1152; omega)⟩)
  dsimp only [Pt.U, Pt.locs, Pt.cells, Pt.slots] at X60 l60 y60 z60 st60 hQ60
  replace y60 := y60.symm; replace z60 := z60.symm; subst l60 y60 z60
  obtain ⟨rfl, Nq60, Ki, EA, F3, F4⟩ := hQ60
  have N60 := Fr.app N0 Nq60
  have K60 : ∀ t, Steps p.tables e below (T60.setTop (mkF m 63 #[.val (.int p1), .val (.int p2), .val (.int p3), .val (.int a3), .val (.int a4), .val (.ref x1), .val .null, .unset, .unset, .unset, .unset, .unset] [(.ref ob)])) t → Steps p.tables e below S0 t := fun t hk => K41 t (st60.trans hk)
  have sz60 := Nat.le_trans sz40 Ki.1
  have K61 : ∀ t, Steps p.tables e below (T60.setTop (mkF m 67 #[.val (.int p1), .val (.int p2), .val (.int p3), .val (.int a3), .val (.int a4), .val (.ref x1), .val .null, .val (.ref ob), .unset, .unset, .unset, .unset] [(.ref ob)])) t → Steps p.tables e below S0 t := by
    intro t hk
    refine K60 t ?_
    show Steps p.tables e below (T60.setTop (mkF m 63 #[.val (.int p1), .val (.int p2), .val (.int p3), .val (.int a3), .val (.int a4), .val (.ref x1), .val .null, .unset, .unset, .unset, .unset, .unset] [(.ref ob)])) _
    refine XS.astore X60.here hx rfl (hb hby at_63) rfl rfl (l' := #[.val (.int p1), .val (.int p2), .val (.int p3), .val (.int a3), .val (.int a4), .val (.ref x1), .val .null, .val (.ref ob), .unset, .unset, .unset, .unset]) rfl ?_
    show Steps p.tables e below (T60.setTop (mkF m 65 #[.val (.int p1), .val (.int p2), .val (.int p3), .val (.int a3), .val (.int a4), .val (.ref x1), .val .null, .val (.ref ob), .unset, .unset, .unset, .unset] [])) _
    refine XS.aload X60.here hx rfl (hb hby at_65) rfl rfl ?_
    show Steps p.tables e below (T60.setTop (mkF m 67 #[.val (.int p1), .val (.int p2), .val (.int p3), .val (.int a3), .val (.int a4), .val (.ref x1), .val .null, .val (.ref ob), .unset, .unset, .unset, .unset] [(.ref ob)])) _
    exact hk
  obtain ⟨cq62, kq62, q62a, q62b, q62c⟩ := isOf hZ rfl EA
  obtain ⟨_, _, ⟨T62, L62, k62, n62⟩, -, X62, ⟨Lc62, hQ62, l62, y62, z62⟩, st62⟩ := X60.virtualBack hx (y := (⟨"com/example/bertilak/bertilak/model/NameTest", "defaultPriority", "()D"⟩ : MethodName)) (z := (⟨"com/example/bertilak/bertilak/model/NameTest", "defaultPriority", "()D"⟩ : MethodName)) hown (mvT hZ (hw _ (List.mem_of_getElem? (i := 13) rfl))) (mvT hZ (hw _ (List.mem_of_getElem? (i := 14) rfl))) (notFace_of_selects (args := #[]) (mvT hZ (hw _ (List.mem_of_getElem? (i := 16) rfl)))) (mvT hZ (hw _ (List.mem_of_getElem? (i := 16) rfl))) (mvT hZ (hw _ (List.mem_of_getElem? (i := 15) rfl))) (by decide) (backOf (W := 0) (rm3_rn l Z a0 hw [] ob x1 T60.heap n0 sz60 F3 F4) hZ (hw _ (List.mem_of_getElem? (i := 17) rfl)) (hw _ (List.mem_of_getElem? (i := 2) rfl)) (by decide) (by decide)) q62a q62c (g := (mkF m 67 #[.val (.int p1), .val (.int p2), .val (.int p3), .val (.int a3), .val (.int a4), .val (.ref x1), .val .null, .val (.ref ob), .unset, .unset, .unset, .unset] [(.ref ob)])) rfl (by rw [hml]; rfl) (Steps.refl _) (argsL := []) (rest := []) (lenOf (by decide +kernel : parseMethodDescriptor "()D" = some ⟨[], (some .double)⟩) rfl) rfl (by show 2 * 0 + _ ≤ _; exact Nat.le_of_eq rfl) (hb hby at_67) (fun _ _ => ⟨rfl, rfl, (by show cells + 1 + 0 + 0 ≤ 24; omega), (by show slots + 2 + 0 + 0 ≤ 1152; omega)⟩)
  dsimp only [Pt.U, Pt.locs, Pt.cells, Pt.slots] at X62 l62 y62 z62 st62 hQ62
  replace y62 := y62.symm; replace z62 := z62.symm; subst l62 y62 z62
  obtain ⟨rfl, Nq62, e62⟩ := hQ62
  have N62 := Fr.app N60 Nq62
  have K62 : ∀ t, Steps p.tables e below (T62.setTop (mkF m 70 #[.val (.int p1), .val (.int p2), .val (.int p3), .val (.int a3), .val (.int a4), .val (.ref x1), .val .null, .val (.ref ob), .unset, .unset, .unset, .unset] [(.double (13821547256400052224 : UInt64))])) t → Steps p.tables e below S0 t := fun t hk => K61 t (st62.trans hk)
  have K63 : ∀ t, Steps p.tables e below (T62.setTop (mkF m 73 #[.val (.int p1), .val (.int p2), .val (.int p3), .val (.int a3), .val (.int a4), .val (.ref x1), .val .null, .val (.ref ob), .val (.double (13821547256400052224 : UInt64)), .second, .unset, .unset] [(.int a3)])) t → Steps p.tables e below S0 t := by
    intro t hk
    refine K62 t ?_
    show Steps p.tables e below (T62.setTop (mkF m 70 #[.val (.int p1), .val (.int p2), .val (.int p3), .val (.int a3), .val (.int a4), .val (.ref x1), .val .null, .val (.ref ob), .unset, .unset, .unset, .unset] [(.double (13821547256400052224 : UInt64))])) _
    refine XS.dstore X62.here hx rfl (hb hby at_70) rfl (l' := #[.val (.int p1), .val (.int p2), .val (.int p3), .val (.int a3), .val (.int a4), .val (.ref x1), .val .null, .val (.ref ob), .val (.double (13821547256400052224 : UInt64)), .second, .unset, .unset]) rfl ?_
    show Steps p.tables e below (T62.setTop (mkF m 72 #[.val (.int p1), .val (.int p2), .val (.int p3), .val (.int a3), .val (.int a4), .val (.ref x1), .val .null, .val (.ref ob), .val (.double (13821547256400052224 : UInt64)), .second, .unset, .unset] [])) _
    refine XS.iloadN X62.here hx rfl (hb hby at_72) rfl ?_
    show Steps p.tables e below (T62.setTop (mkF m 73 #[.val (.int p1), .val (.int p2), .val (.int p3), .val (.int a3), .val (.int a4), .val (.ref x1), .val .null, .val (.ref ob), .val (.double (13821547256400052224 : UInt64)), .second, .unset, .unset] [(.int a3)])) _
    exact hk
  have hc73 : ¬ (a3 = (0 : Int32)) := h3
  have K64 : ∀ t, Steps p.tables e below (T62.setTop (mkF m 76 #[.val (.int p1), .val (.int p2), .val (.int p3), .val (.int a3), .val (.int a4), .val (.ref x1), .val .null, .val (.ref ob), .val (.double (13821547256400052224 : UInt64)), .second, .unset, .unset] [])) t → Steps p.tables e below S0 t := by
    intro t hk
    refine K63 t ?_
    show Steps p.tables e below (T62.setTop (mkF m 73 #[.val (.int p1), .val (.int p2), .val (.int p3), .val (.int a3), .val (.int a4), .val (.ref x1), .val .null, .val (.ref ob), .val (.double (13821547256400052224 : UInt64)), .second, .unset, .unset] [(.int a3)])) _
    refine XS.ifNo X62.here hx rfl (hb hby at_73) rfl ((if0 _ _).trans (feq hc73).1) ?_
    exact hk
  have K65 : ∀ t, Steps p.tables e below (T62.setTop (mkF m 78 #[.val (.int p1), .val (.int p2), .val (.int p3), .val (.int a3), .val (.int a4), .val (.ref x1), .val .null, .val (.ref ob), .val (.double (13821547256400052224 : UInt64)), .second, .unset, .unset] [(.int a4)])) t → Steps p.tables e below S0 t := by
    intro t hk
    refine K64 t ?_
    show Steps p.tables e below (T62.setTop (mkF m 76 #[.val (.int p1), .val (.int p2), .val (.int p3), .val (.int a3), .val (.int a4), .val (.ref x1), .val .null, .val (.ref ob), .val (.double (13821547256400052224 : UInt64)), .second, .unset, .unset] [])) _
    refine XS.iload X62.here hx rfl (hb hby at_76) rfl ?_
    show Steps p.tables e below (T62.setTop (mkF m 78 #[.val (.int p1), .val (.int p2), .val (.int p3), .val (.int a3), .val (.int a4), .val (.ref x1), .val .null, .val (.ref ob), .val (.double (13821547256400052224 : UInt64)), .second, .unset, .unset] [(.int a4)])) _
    exact hk
  have hc78 : a4 = (0 : Int32) := h4
  have K66 : ∀ t, Steps p.tables e below (T62.setTop (mkF m 87 #[.val (.int p1), .val (.int p2), .val (.int p3), .val (.int a3), .val (.int a4), .val (.ref x1), .val .null, .val (.ref ob), .val (.double (13821547256400052224 : UInt64)), .second, .unset, .unset] [])) t → Steps p.tables e below S0 t := by
    intro t hk
    refine K65 t ?_
    show Steps p.tables e below (T62.setTop (mkF m 78 #[.val (.int p1), .val (.int p2), .val (.int p3), .val (.int a3), .val (.int a4), .val (.ref x1), .val .null, .val (.ref ob), .val (.double (13821547256400052224 : UInt64)), .second, .unset, .unset] [(.int a4)])) _
    refine XS.ifYes X62.here hx rfl (pc0 := 78) (pc' := 87) rfl (hb hby at_78) rfl ((if0 _ _).trans (teq hc78).1) (by decide) (by decide) ?_
    exact hk
  have K67 : ∀ t, Steps p.tables e below (T62.setTop (mkF m 88 #[.val (.int p1), .val (.int p2), .val (.int p3), .val (.int a3), .val (.int a4), .val (.ref x1), .val .null, .val (.ref ob), .val (.double (13821547256400052224 : UInt64)), .second, .unset, .unset] [(.int a3)])) t → Steps p.tables e below S0 t := by
    intro t hk
    refine K66 t ?_
    show Steps p.tables e below (T62.setTop (mkF m 87 #[.val (.int p1), .val (.int p2), .val (.int p3), .val (.int a3), .val (.int a4), .val (.ref x1), .val .null, .val (.ref ob), .val (.double (13821547256400052224 : UInt64)), .second, .unset, .unset] [])) _
    refine XS.iloadN X62.here hx rfl (hb hby at_87) rfl ?_
    show Steps p.tables e below (T62.setTop (mkF m 88 #[.val (.int p1), .val (.int p2), .val (.int p3), .val (.int a3), .val (.int a4), .val (.ref x1), .val .null, .val (.ref ob), .val (.double (13821547256400052224 : UInt64)), .second, .unset, .unset] [(.int a3)])) _
    exact hk
  have hc88 : ¬ (a3 = (0 : Int32)) := h3
  have K68 : ∀ t, Steps p.tables e below (T62.setTop (mkF m 96 #[.val (.int p1), .val (.int p2), .val (.int p3), .val (.int a3), .val (.int a4), .val (.ref x1), .val .null, .val (.ref ob), .val (.double (13821547256400052224 : UInt64)), .second, .unset, .unset] [])) t → Steps p.tables e below S0 t := by
    intro t hk
    refine K67 t ?_
    show Steps p.tables e below (T62.setTop (mkF m 88 #[.val (.int p1), .val (.int p2), .val (.int p3), .val (.int a3), .val (.int a4), .val (.ref x1), .val .null, .val (.ref ob), .val (.double (13821547256400052224 : UInt64)), .second, .unset, .unset] [(.int a3)])) _
    refine XS.ifYes X62.here hx rfl (pc0 := 88) (pc' := 96) rfl (hb hby at_88) rfl ((if0 _ _).trans (feq hc88).2) (by decide) (by decide) ?_
    exact hk
  have K69 : ∀ t, Steps p.tables e below (T62.setTop (mkF m 109 #[.val (.int p1), .val (.int p2), .val (.int p3), .val (.int a3), .val (.int a4), .val (.ref x1), .val .null, .val (.ref ob), .val (.double (13821547256400052224 : UInt64)), .second, .val (.double (13821547256400052224 : UInt64)), .second] [])) t → Steps p.tables e below S0 t := by
    intro t hk
    refine K68 t ?_
    show Steps p.tables e below (T62.setTop (mkF m 96 #[.val (.int p1), .val (.int p2), .val (.int p3), .val (.int a3), .val (.int a4), .val (.ref x1), .val .null, .val (.ref ob), .val (.double (13821547256400052224 : UInt64)), .second, .unset, .unset] [])) _
    refine X62.ldc2DoubleC hx hown (mvT hZ (hw _ (List.mem_of_getElem? (i := 49) rfl))) (g := (mkF m 96 #[.val (.int p1), .val (.int p2), .val (.int p3), .val (.int a3), .val (.int a4), .val (.ref x1), .val .null, .val (.ref ob), .val (.double (13821547256400052224 : UInt64)), .second, .unset, .unset] [])) rfl (hb hby at_96) _ ?_
    show Steps p.tables e below (T62.setTop (mkF m 99 #[.val (.int p1), .val (.int p2), .val (.int p3), .val (.int a3), .val (.int a4), .val (.ref x1), .val .null, .val (.ref ob), .val (.double (13821547256400052224 : UInt64)), .second, .unset, .unset] [(.double (13821547256400052224 : UInt64))])) _
    refine XS.dstore X62.here hx rfl (hb hby at_99) rfl (l' := #[.val (.int p1), .val (.int p2), .val (.int p3), .val (.int a3), .val (.int a4), .val (.ref x1), .val .null, .val (.ref ob), .val (.double (13821547256400052224 : UInt64)), .second, .val (.double (13821547256400052224 : UInt64)), .second]) rfl ?_
    show Steps p.tables e below (T62.setTop (mkF m 101 #[.val (.int p1), .val (.int p2), .val (.int p3), .val (.int a3), .val (.int a4), .val (.ref x1), .val .null, .val (.ref ob), .val (.double (13821547256400052224 : UInt64)), .second, .val (.double (13821547256400052224 : UInt64)), .second] [])) _
    refine XS.goto X62.here hx rfl (pc0 := 101) (pc' := 109) rfl (hb hby at_101) (by decide) (by decide) ?_
    show Steps p.tables e below (T62.setTop (mkF m 109 #[.val (.int p1), .val (.int p2), .val (.int p3), .val (.int a3), .val (.int a4), .val (.ref x1), .val .null, .val (.ref ob), .val (.double (13821547256400052224 : UInt64)), .second, .val (.double (13821547256400052224 : UInt64)), .second] [])) _
    exact hk
  have K70 : ∀ t, Steps p.tables e below (T62.setTop (mkF m 114 #[.val (.int p1), .val (.int p2), .val (.int p3), .val (.int a3), .val (.int a4), .val (.ref x1), .val .null, .val (.ref ob), .val (.double (13821547256400052224 : UInt64)), .second, .val (.double (13821547256400052224 : UInt64)), .second] [(.int (0 : Int32))])) t → Steps p.tables e below S0 t := by
    intro t hk
    refine K69 t ?_
    show Steps p.tables e below (T62.setTop (mkF m 109 #[.val (.int p1), .val (.int p2), .val (.int p3), .val (.int a3), .val (.int a4), .val (.ref x1), .val .null, .val (.ref ob), .val (.double (13821547256400052224 : UInt64)), .second, .val (.double (13821547256400052224 : UInt64)), .second] [])) _
    refine XS.dload X62.here hx rfl (hb hby at_109) rfl ?_
    show Steps p.tables e below (T62.setTop (mkF m 111 #[.val (.int p1), .val (.int p2), .val (.int p3), .val (.int a3), .val (.int a4), .val (.ref x1), .val .null, .val (.ref ob), .val (.double (13821547256400052224 : UInt64)), .second, .val (.double (13821547256400052224 : UInt64)), .second] [(.double (13821547256400052224 : UInt64))])) _
    refine XS.dload X62.here hx rfl (hb hby at_111) rfl ?_
    show Steps p.tables e below (T62.setTop (mkF m 113 #[.val (.int p1), .val (.int p2), .val (.int p3), .val (.int a3), .val (.int a4), .val (.ref x1), .val .null, .val (.ref ob), .val (.double (13821547256400052224 : UInt64)), .second, .val (.double (13821547256400052224 : UInt64)), .second] [(.double (13821547256400052224 : UInt64)), (.double (13821547256400052224 : UInt64))])) _
    refine XS.dcmpS X62.here hx rfl (v := (0 : Int32)) (hb hby at_113) rfl (by decide +kernel) ?_
    show Steps p.tables e below (T62.setTop (mkF m 114 #[.val (.int p1), .val (.int p2), .val (.int p3), .val (.int a3), .val (.int a4), .val (.ref x1), .val .null, .val (.ref ob), .val (.double (13821547256400052224 : UInt64)), .second, .val (.double (13821547256400052224 : UInt64)), .second] [(.int (0 : Int32))])) _
    exact hk
  have hc114 : (0 : Int32) = (0 : Int32) := rfl
  have K71 : ∀ t, Steps p.tables e below (T62.setTop (mkF m 117 #[.val (.int p1), .val (.int p2), .val (.int p3), .val (.int a3), .val (.int a4), .val (.ref x1), .val .null, .val (.ref ob), .val (.double (13821547256400052224 : UInt64)), .second, .val (.double (13821547256400052224 : UInt64)), .second] [])) t → Steps p.tables e below S0 t := by
    intro t hk
    refine K70 t ?_
    show Steps p.tables e below (T62.setTop (mkF m 114 #[.val (.int p1), .val (.int p2), .val (.int p3), .val (.int a3), .val (.int a4), .val (.ref x1), .val .null, .val (.ref ob), .val (.double (13821547256400052224 : UInt64)), .second, .val (.double (13821547256400052224 : UInt64)), .second] [(.int (0 : Int32))])) _
    refine XS.ifNo X62.here hx rfl (hb hby at_114) rfl ((if0 _ _).trans (teq hc114).2) ?_
    exact hk
  have K72 : ∀ t, Steps p.tables e below (T62.setTop (mkF m 122 #[.val (.int p1), .val (.int p2), .val (.int p3), .val (.int a3), .val (.int a4), .val (.ref x1), .val .null, .val (.ref ob), .val (.double (13821547256400052224 : UInt64)), .second, .val (.double (13821547256400052224 : UInt64)), .second] [(.int (1 : Int32))])) t → Steps p.tables e below S0 t := by
    intro t hk
    refine K71 t ?_
    show Steps p.tables e below (T62.setTop (mkF m 117 #[.val (.int p1), .val (.int p2), .val (.int p3), .val (.int a3), .val (.int a4), .val (.ref x1), .val .null, .val (.ref ob), .val (.double (13821547256400052224 : UInt64)), .second, .val (.double (13821547256400052224 : UInt64)), .second] [])) _
    refine XS.iconst X62.here hx rfl (hb hby at_117) ?_
    show Steps p.tables e below (T62.setTop (mkF m 118 #[.val (.int p1), .val (.int p2), .val (.int p3), .val (.int a3), .val (.int a4), .val (.ref x1), .val .null, .val (.ref ob), .val (.double (13821547256400052224 : UInt64)), .second, .val (.double (13821547256400052224 : UInt64)), .second] [(.int (1 : Int32))])) _
    refine XS.goto X62.here hx rfl (pc0 := 118) (pc' := 122) rfl (hb hby at_118) (by decide) (by decide) ?_
    show Steps p.tables e below (T62.setTop (mkF m 122 #[.val (.int p1), .val (.int p2), .val (.int p3), .val (.int a3), .val (.int a4), .val (.ref x1), .val .null, .val (.ref ob), .val (.double (13821547256400052224 : UInt64)), .second, .val (.double (13821547256400052224 : UInt64)), .second] [(.int (1 : Int32))])) _
    exact hk
  have hk9 : k0 ≤ T62.heap.size := by rw [e62]; exact Nat.le_trans hk0 (Nat.le_trans E40.1 Ki.1)
  have Y9 := X62.more (by omega : _ ≤ 24) (by omega : _ ≤ 1152)
  obtain ⟨fs, hr, hrun, hended, hEnd⟩ := Y9.leaveW hS hk9 (v := some (.int (1 : Int32))) (fun h => by rw [hret] at h; cases h) hlk
  exact ⟨_, _, K72 _ (retN Y9 hx (t := .boolean) (hret.trans (rfl : ret = some .boolean)) (by simp) (hb hby at_122) hr), hrun, hended, _, _, rfl, ⟨rfl, N62⟩, hEnd⟩
set_option maxRecDepth 65536 in
set_option maxHeartbeats 40000000 in
theorem own_tail_rr {p : Program} {l : Launch} {e : Env} {s : State} {m : MethodId} {args : Array Value} {below : List Frame} {meth : Method} {c : Code} {T : State} {locs : List Loc} {cells slots : Nat} {Z : State} {a0 : Array Value} {h0 : Heap} {n0 : Nat} {S0 : State} {vm0 : Vm} (X : Stand p l e room_1 (s.setVm vm0) m args below meth c T locs cells slots) (hx : p.tables.exec = Jvm.exec) (hby : c.code = code) (hml : c.maxLocals = 12) (hown : (s.setVm vm0).vm.findClass "com/example/bertilak/bertilak/model/NameTestDefaultPriorityPinLaw" = some m.cls) (hZ : Z.Warmed39 (s.setVm vm0).vm) (hw : ∀ d ∈ tables_1, d.before a0 Z = true) (hret : meth.sig.returnType = ret) (hlk : meth.locks = false) (p1 : Int32) (p2 : Int32) (p3 : Int32) (a3 : Int32) (a4 : Int32) (x1 : Addr) (x2 : Addr) (e0 : T.heap = h0) (Z0 : n0 ≤ h0.size) (N0 : Fr n0 locs) (h3 : ¬ a3 = (0 : Int32)) (h4 : ¬ a4 = (0 : Int32)) (hcb : cells ≤ 8) (hsb : slots ≤ 100) {k0 : Nat} (hS : s.Since vm0 k0) (hk0 : k0 ≤ h0.size) (K0 : ∀ t, Steps p.tables e below (T.setTop (mkF m 52 #[.val (.int p1), .val (.int p2), .val (.int p3), .val (.int a3), .val (.int a4), .val (.ref x1), .val (.ref x2), .unset, .unset, .unset, .unset, .unset] [])) t → Steps p.tables e below S0 t) :
    ∃ s₂ o, Steps p.tables e below S0 s₂ ∧ s₂.status = .running ∧ Ended s₂ below o ∧ (∃ v L, o = .returned v ∧ (v = some (.int (1 : Int32)) ∧ Fr n0 L) ∧ ReturnedEndW s o s₂ L 24 1152) := by
  obtain ⟨T40, h40, X40, e40, E40, A40, D40, -, st40⟩ := newO X hx hZ hown (hw _ (List.mem_of_getElem? (i := 0) rfl)) (hw _ (List.mem_of_getElem? (i := 1) rfl)) (hw _ (List.mem_of_getElem? (i := 2) rfl)) e0 (g := (mkF m 52 #[.val (.int p1), .val (.int p2), .val (.int p3), .val (.int a3), .val (.int a4), .val (.ref x1), .val (.ref x2), .unset, .unset, .unset, .unset, .unset] [])) rfl (hb hby at_52) (by show cells + 1 ≤ 24; omega) (by show slots + 2 ≤ 1152; omega)
  obtain ⟨ob, g40⟩ : ∃ z, z = h0.size := ⟨_, rfl⟩
  rw [← g40] at A40 D40 st40
  have F1 := D40 (Or.inr (hw _ (List.mem_of_getElem? (i := 10) rfl))) (ty := (.object "java/lang/String")) (by decide)
  have F2 := D40 (Or.inr (hw _ (List.mem_of_getElem? (i := 12) rfl))) (ty := (.object "java/lang/String")) (by decide)
  have K40 : ∀ t, Steps p.tables e below (T40.setTop (mkF m 55 #[.val (.int p1), .val (.int p2), .val (.int p3), .val (.int a3), .val (.int a4), .val (.ref x1), .val (.ref x2), .unset, .unset, .unset, .unset, .unset] [(.ref ob)])) t → Steps p.tables e below S0 t := fun t hk => K0 t (st40 _ hk)
  have sz40 : n0 ≤ h40.size := Nat.le_trans Z0 E40.1
  have K41 : ∀ t, Steps p.tables e below (T40.setTop (mkF m 60 #[.val (.int p1), .val (.int p2), .val (.int p3), .val (.int a3), .val (.int a4), .val (.ref x1), .val (.ref x2), .unset, .unset, .unset, .unset, .unset] [(.ref x2), (.ref x1), (.ref ob), (.ref ob)])) t → Steps p.tables e below S0 t := by
    intro t hk
    refine K40 t ?_
    show Steps p.tables e below (T40.setTop (mkF m 55 #[.val (.int p1), .val (.int p2), .val (.int p3), .val (.int a3), .val (.int a4), .val (.ref x1), .val (.ref x2), .unset, .unset, .unset, .unset, .unset] [(.ref ob)])) _
    refine XS.dup X40.here hx rfl (hb hby at_55) rfl rfl ?_
    show Steps p.tables e below (T40.setTop (mkF m 56 #[.val (.int p1), .val (.int p2), .val (.int p3), .val (.int a3), .val (.int a4), .val (.ref x1), .val (.ref x2), .unset, .unset, .unset, .unset, .unset] [(.ref ob), (.ref ob)])) _
    refine XS.aload X40.here hx rfl (hb hby at_56) rfl rfl ?_
    show Steps p.tables e below (T40.setTop (mkF m 58 #[.val (.int p1), .val (.int p2), .val (.int p3), .val (.int a3), .val (.int a4), .val (.ref x1), .val (.ref x2), .unset, .unset, .unset, .unset, .unset] [(.ref x1), (.ref ob), (.ref ob)])) _
    refine XS.aload X40.here hx rfl (hb hby at_58) rfl rfl ?_
    show Steps p.tables e below (T40.setTop (mkF m 60 #[.val (.int p1), .val (.int p2), .val (.int p3), .val (.int a3), .val (.int a4), .val (.ref x1), .val (.ref x2), .unset, .unset, .unset, .unset, .unset] [(.ref x2), (.ref x1), (.ref ob), (.ref ob)])) _
    exact hk
  obtain ⟨_, _, ⟨T60, L60, k60, n60⟩, -, X60, ⟨Lc60, hQ60, l60, y60, z60⟩, st60⟩ := X40.specialBack hx (y := (⟨"com/example/bertilak/bertilak/model/NameTest", "<init>", "(Ljava/lang/String;Ljava/lang/String;)V"⟩ : MethodName)) rfl hown (mvT hZ (hw _ (List.mem_of_getElem? (i := 3) rfl))) (mvT hZ (hw _ (List.mem_of_getElem? (i := 4) rfl))) (mvT hZ (hw _ (List.mem_of_getElem? (i := 5) rfl))) (by decide) (backOf (W := 1) (rm1_rr l Z a0 hw [] ob x1 x2 h40 n0 sz40 A40 F1 F2 (by rw [g40]; exact Z0)) hZ (hw _ (List.mem_of_getElem? (i := 5) rfl)) (hw _ (List.mem_of_getElem? (i := 2) rfl)) (by decide) (by decide)) (g := (mkF m 60 #[.val (.int p1), .val (.int p2), .val (.int p3), .val (.int a3), .val (.int a4), .val (.ref x1), .val (.ref x2), .unset, .unset, .unset, .unset, .unset] [(.ref x2), (.ref x1), (.ref ob), (.ref ob)])) rfl (by rw [hml]; rfl) (Steps.refl _) (a := ob) (argsL := [(.ref x1), (.ref x2)]) (rest := [(.ref ob)]) (lenOf (by decide +kernel : parseMethodDescriptor "(Ljava/lang/String;Ljava/lang/String;)V" = some ⟨[(.object "java/lang/String"), (.object "java/lang/String")], none⟩) rfl) rfl (by show 2 * 0 + _ ≤ _; exact Nat.le_of_eq rfl) (hb hby at_60) (fun _ _ => ⟨rfl, e40, (by show cells + 1 + 0 ≤ 24; omega), (by show slots + 2 + 0 ≤ 1152; omega)⟩)
  dsimp only [Pt.U, Pt.locs, Pt.cells, Pt.slots] at X60 l60 y60 z60 st60 hQ60
  replace y60 := y60.symm; replace z60 := z60.symm; subst l60 y60 z60
  obtain ⟨rfl, Nq60, Ki, EA, F3, F4⟩ := hQ60
  have N60 := Fr.app N0 Nq60
  have K60 : ∀ t, Steps p.tables e below (T60.setTop (mkF m 63 #[.val (.int p1), .val (.int p2), .val (.int p3), .val (.int a3), .val (.int a4), .val (.ref x1), .val (.ref x2), .unset, .unset, .unset, .unset, .unset] [(.ref ob)])) t → Steps p.tables e below S0 t := fun t hk => K41 t (st60.trans hk)
  have sz60 := Nat.le_trans sz40 Ki.1
  have K61 : ∀ t, Steps p.tables e below (T60.setTop (mkF m 67 #[.val (.int p1), .val (.int p2), .val (.int p3), .val (.int a3), .val (.int a4), .val (.ref x1), .val (.ref x2), .val (.ref ob), .unset, .unset, .unset, .unset] [(.ref ob)])) t → Steps p.tables e below S0 t := by
    intro t hk
    refine K60 t ?_
    show Steps p.tables e below (T60.setTop (mkF m 63 #[.val (.int p1), .val (.int p2), .val (.int p3), .val (.int a3), .val (.int a4), .val (.ref x1), .val (.ref x2), .unset, .unset, .unset, .unset, .unset] [(.ref ob)])) _
    refine XS.astore X60.here hx rfl (hb hby at_63) rfl rfl (l' := #[.val (.int p1), .val (.int p2), .val (.int p3), .val (.int a3), .val (.int a4), .val (.ref x1), .val (.ref x2), .val (.ref ob), .unset, .unset, .unset, .unset]) rfl ?_
    show Steps p.tables e below (T60.setTop (mkF m 65 #[.val (.int p1), .val (.int p2), .val (.int p3), .val (.int a3), .val (.int a4), .val (.ref x1), .val (.ref x2), .val (.ref ob), .unset, .unset, .unset, .unset] [])) _
    refine XS.aload X60.here hx rfl (hb hby at_65) rfl rfl ?_
    show Steps p.tables e below (T60.setTop (mkF m 67 #[.val (.int p1), .val (.int p2), .val (.int p3), .val (.int a3), .val (.int a4), .val (.ref x1), .val (.ref x2), .val (.ref ob), .unset, .unset, .unset, .unset] [(.ref ob)])) _
    exact hk
  obtain ⟨cq62, kq62, q62a, q62b, q62c⟩ := isOf hZ rfl EA
  obtain ⟨_, _, ⟨T62, L62, k62, n62⟩, -, X62, ⟨Lc62, hQ62, l62, y62, z62⟩, st62⟩ := X60.virtualBack hx (y := (⟨"com/example/bertilak/bertilak/model/NameTest", "defaultPriority", "()D"⟩ : MethodName)) (z := (⟨"com/example/bertilak/bertilak/model/NameTest", "defaultPriority", "()D"⟩ : MethodName)) hown (mvT hZ (hw _ (List.mem_of_getElem? (i := 13) rfl))) (mvT hZ (hw _ (List.mem_of_getElem? (i := 14) rfl))) (notFace_of_selects (args := #[]) (mvT hZ (hw _ (List.mem_of_getElem? (i := 16) rfl)))) (mvT hZ (hw _ (List.mem_of_getElem? (i := 16) rfl))) (mvT hZ (hw _ (List.mem_of_getElem? (i := 15) rfl))) (by decide) (backOf (W := 0) (rm3_rr l Z a0 hw [] ob x1 x2 T60.heap n0 sz60 F3 F4) hZ (hw _ (List.mem_of_getElem? (i := 17) rfl)) (hw _ (List.mem_of_getElem? (i := 2) rfl)) (by decide) (by decide)) q62a q62c (g := (mkF m 67 #[.val (.int p1), .val (.int p2), .val (.int p3), .val (.int a3), .val (.int a4), .val (.ref x1), .val (.ref x2), .val (.ref ob), .unset, .unset, .unset, .unset] [(.ref ob)])) rfl (by rw [hml]; rfl) (Steps.refl _) (argsL := []) (rest := []) (lenOf (by decide +kernel : parseMethodDescriptor "()D" = some ⟨[], (some .double)⟩) rfl) rfl (by show 2 * 0 + _ ≤ _; exact Nat.le_of_eq rfl) (hb hby at_67) (fun _ _ => ⟨rfl, rfl, (by show cells + 1 + 0 + 0 ≤ 24; omega), (by show slots + 2 + 0 + 0 ≤ 1152; omega)⟩)
  dsimp only [Pt.U, Pt.locs, Pt.cells, Pt.slots] at X62 l62 y62 z62 st62 hQ62
  replace y62 := y62.symm; replace z62 := z62.symm; subst l62 y62 z62
  obtain ⟨rfl, Nq62, e62⟩ := hQ62
  have N62 := Fr.app N60 Nq62
  have K62 : ∀ t, Steps p.tables e below (T62.setTop (mkF m 70 #[.val (.int p1), .val (.int p2), .val (.int p3), .val (.int a3), .val (.int a4), .val (.ref x1), .val (.ref x2), .val (.ref ob), .unset, .unset, .unset, .unset] [(.double (0 : UInt64))])) t → Steps p.tables e below S0 t := fun t hk => K61 t (st62.trans hk)
  have K63 : ∀ t, Steps p.tables e below (T62.setTop (mkF m 73 #[.val (.int p1), .val (.int p2), .val (.int p3), .val (.int a3), .val (.int a4), .val (.ref x1), .val (.ref x2), .val (.ref ob), .val (.double (0 : UInt64)), .second, .unset, .unset] [(.int a3)])) t → Steps p.tables e below S0 t := by
    intro t hk
    refine K62 t ?_
    show Steps p.tables e below (T62.setTop (mkF m 70 #[.val (.int p1), .val (.int p2), .val (.int p3), .val (.int a3), .val (.int a4), .val (.ref x1), .val (.ref x2), .val (.ref ob), .unset, .unset, .unset, .unset] [(.double (0 : UInt64))])) _
    refine XS.dstore X62.here hx rfl (hb hby at_70) rfl (l' := #[.val (.int p1), .val (.int p2), .val (.int p3), .val (.int a3), .val (.int a4), .val (.ref x1), .val (.ref x2), .val (.ref ob), .val (.double (0 : UInt64)), .second, .unset, .unset]) rfl ?_
    show Steps p.tables e below (T62.setTop (mkF m 72 #[.val (.int p1), .val (.int p2), .val (.int p3), .val (.int a3), .val (.int a4), .val (.ref x1), .val (.ref x2), .val (.ref ob), .val (.double (0 : UInt64)), .second, .unset, .unset] [])) _
    refine XS.iloadN X62.here hx rfl (hb hby at_72) rfl ?_
    show Steps p.tables e below (T62.setTop (mkF m 73 #[.val (.int p1), .val (.int p2), .val (.int p3), .val (.int a3), .val (.int a4), .val (.ref x1), .val (.ref x2), .val (.ref ob), .val (.double (0 : UInt64)), .second, .unset, .unset] [(.int a3)])) _
    exact hk
  have hc73 : ¬ (a3 = (0 : Int32)) := h3
  have K64 : ∀ t, Steps p.tables e below (T62.setTop (mkF m 76 #[.val (.int p1), .val (.int p2), .val (.int p3), .val (.int a3), .val (.int a4), .val (.ref x1), .val (.ref x2), .val (.ref ob), .val (.double (0 : UInt64)), .second, .unset, .unset] [])) t → Steps p.tables e below S0 t := by
    intro t hk
    refine K63 t ?_
    show Steps p.tables e below (T62.setTop (mkF m 73 #[.val (.int p1), .val (.int p2), .val (.int p3), .val (.int a3), .val (.int a4), .val (.ref x1), .val (.ref x2), .val (.ref ob), .val (.double (0 : UInt64)), .second, .unset, .unset] [(.int a3)])) _
    refine XS.ifNo X62.here hx rfl (hb hby at_73) rfl ((if0 _ _).trans (feq hc73).1) ?_
    exact hk
  have K65 : ∀ t, Steps p.tables e below (T62.setTop (mkF m 78 #[.val (.int p1), .val (.int p2), .val (.int p3), .val (.int a3), .val (.int a4), .val (.ref x1), .val (.ref x2), .val (.ref ob), .val (.double (0 : UInt64)), .second, .unset, .unset] [(.int a4)])) t → Steps p.tables e below S0 t := by
    intro t hk
    refine K64 t ?_
    show Steps p.tables e below (T62.setTop (mkF m 76 #[.val (.int p1), .val (.int p2), .val (.int p3), .val (.int a3), .val (.int a4), .val (.ref x1), .val (.ref x2), .val (.ref ob), .val (.double (0 : UInt64)), .second, .unset, .unset] [])) _
    refine XS.iload X62.here hx rfl (hb hby at_76) rfl ?_
    show Steps p.tables e below (T62.setTop (mkF m 78 #[.val (.int p1), .val (.int p2), .val (.int p3), .val (.int a3), .val (.int a4), .val (.ref x1), .val (.ref x2), .val (.ref ob), .val (.double (0 : UInt64)), .second, .unset, .unset] [(.int a4)])) _
    exact hk
  have hc78 : ¬ (a4 = (0 : Int32)) := h4
  have K66 : ∀ t, Steps p.tables e below (T62.setTop (mkF m 81 #[.val (.int p1), .val (.int p2), .val (.int p3), .val (.int a3), .val (.int a4), .val (.ref x1), .val (.ref x2), .val (.ref ob), .val (.double (0 : UInt64)), .second, .unset, .unset] [])) t → Steps p.tables e below S0 t := by
    intro t hk
    refine K65 t ?_
    show Steps p.tables e below (T62.setTop (mkF m 78 #[.val (.int p1), .val (.int p2), .val (.int p3), .val (.int a3), .val (.int a4), .val (.ref x1), .val (.ref x2), .val (.ref ob), .val (.double (0 : UInt64)), .second, .unset, .unset] [(.int a4)])) _
    refine XS.ifNo X62.here hx rfl (hb hby at_78) rfl ((if0 _ _).trans (feq hc78).1) ?_
    exact hk
  have K67 : ∀ t, Steps p.tables e below (T62.setTop (mkF m 109 #[.val (.int p1), .val (.int p2), .val (.int p3), .val (.int a3), .val (.int a4), .val (.ref x1), .val (.ref x2), .val (.ref ob), .val (.double (0 : UInt64)), .second, .val (.double (0 : UInt64)), .second] [])) t → Steps p.tables e below S0 t := by
    intro t hk
    refine K66 t ?_
    show Steps p.tables e below (T62.setTop (mkF m 81 #[.val (.int p1), .val (.int p2), .val (.int p3), .val (.int a3), .val (.int a4), .val (.ref x1), .val (.ref x2), .val (.ref ob), .val (.double (0 : UInt64)), .second, .unset, .unset] [])) _
    refine XS.dconst0 X62.here hx rfl (v := (0 : UInt64)) (hb hby at_81) rfl ?_
    show Steps p.tables e below (T62.setTop (mkF m 82 #[.val (.int p1), .val (.int p2), .val (.int p3), .val (.int a3), .val (.int a4), .val (.ref x1), .val (.ref x2), .val (.ref ob), .val (.double (0 : UInt64)), .second, .unset, .unset] [(.double (0 : UInt64))])) _
    refine XS.dstore X62.here hx rfl (hb hby at_82) rfl (l' := #[.val (.int p1), .val (.int p2), .val (.int p3), .val (.int a3), .val (.int a4), .val (.ref x1), .val (.ref x2), .val (.ref ob), .val (.double (0 : UInt64)), .second, .val (.double (0 : UInt64)), .second]) rfl ?_
    show Steps p.tables e below (T62.setTop (mkF m 84 #[.val (.int p1), .val (.int p2), .val (.int p3), .val (.int a3), .val (.int a4), .val (.ref x1), .val (.ref x2), .val (.ref ob), .val (.double (0 : UInt64)), .second, .val (.double (0 : UInt64)), .second] [])) _
    refine XS.goto X62.here hx rfl (pc0 := 84) (pc' := 109) rfl (hb hby at_84) (by decide) (by decide) ?_
    show Steps p.tables e below (T62.setTop (mkF m 109 #[.val (.int p1), .val (.int p2), .val (.int p3), .val (.int a3), .val (.int a4), .val (.ref x1), .val (.ref x2), .val (.ref ob), .val (.double (0 : UInt64)), .second, .val (.double (0 : UInt64)), .second] [])) _
    exact hk
  have K68 : ∀ t, Steps p.tables e below (T62.setTop (mkF m 114 #[.val (.int p1), .val (.int p2), .val (.int p3), .val (.int a3), .val (.int a4), .val (.ref x1), .val (.ref x2), .val (.ref ob), .val (.double (0 : UInt64)), .second, .val (.double (0 : UInt64)), .second] [(.int (0 : Int32))])) t → Steps p.tables e below S0 t := by
    intro t hk
    refine K67 t ?_
    show Steps p.tables e below (T62.setTop (mkF m 109 #[.val (.int p1), .val (.int p2), .val (.int p3), .val (.int a3), .val (.int a4), .val (.ref x1), .val (.ref x2), .val (.ref ob), .val (.double (0 : UInt64)), .second, .val (.double (0 : UInt64)), .second] [])) _
    refine XS.dload X62.here hx rfl (hb hby at_109) rfl ?_
    show Steps p.tables e below (T62.setTop (mkF m 111 #[.val (.int p1), .val (.int p2), .val (.int p3), .val (.int a3), .val (.int a4), .val (.ref x1), .val (.ref x2), .val (.ref ob), .val (.double (0 : UInt64)), .second, .val (.double (0 : UInt64)), .second] [(.double (0 : UInt64))])) _
    refine XS.dload X62.here hx rfl (hb hby at_111) rfl ?_
    show Steps p.tables e below (T62.setTop (mkF m 113 #[.val (.int p1), .val (.int p2), .val (.int p3), .val (.int a3), .val (.int a4), .val (.ref x1), .val (.ref x2), .val (.ref ob), .val (.double (0 : UInt64)), .second, .val (.double (0 : UInt64)), .second] [(.double (0 : UInt64)), (.double (0 : UInt64))])) _
    refine XS.dcmpS X62.here hx rfl (v := (0 : Int32)) (hb hby at_113) rfl (by decide +kernel) ?_
    show Steps p.tables e below (T62.setTop (mkF m 114 #[.val (.int p1), .val (.int p2), .val (.int p3), .val (.int a3), .val (.int a4), .val (.ref x1), .val (.ref x2), .val (.ref ob), .val (.double (0 : UInt64)), .second, .val (.double (0 : UInt64)), .second] [(.int (0 : Int32))])) _
    exact hk
  have hc114 : (0 : Int32) = (0 : Int32) := rfl
  have K69 : ∀ t, Steps p.tables e below (T62.setTop (mkF m 117 #[.val (.int p1), .val (.int p2), .val (.int p3), .val (.int a3), .val (.int a4), .val (.ref x1), .val (.ref x2), .val (.ref ob), .val (.double (0 : UInt64)), .second, .val (.double (0 : UInt64)), .second] [])) t → Steps p.tables e below S0 t := by
    intro t hk
    refine K68 t ?_
    show Steps p.tables e below (T62.setTop (mkF m 114 #[.val (.int p1), .val (.int p2), .val (.int p3), .val (.int a3), .val (.int a4), .val (.ref x1), .val (.ref x2), .val (.ref ob), .val (.double (0 : UInt64)), .second, .val (.double (0 : UInt64)), .second] [(.int (0 : Int32))])) _
    refine XS.ifNo X62.here hx rfl (hb hby at_114) rfl ((if0 _ _).trans (teq hc114).2) ?_
    exact hk
  have K70 : ∀ t, Steps p.tables e below (T62.setTop (mkF m 122 #[.val (.int p1), .val (.int p2), .val (.int p3), .val (.int a3), .val (.int a4), .val (.ref x1), .val (.ref x2), .val (.ref ob), .val (.double (0 : UInt64)), .second, .val (.double (0 : UInt64)), .second] [(.int (1 : Int32))])) t → Steps p.tables e below S0 t := by
    intro t hk
    refine K69 t ?_
    show Steps p.tables e below (T62.setTop (mkF m 117 #[.val (.int p1), .val (.int p2), .val (.int p3), .val (.int a3), .val (.int a4), .val (.ref x1), .val (.ref x2), .val (.ref ob), .val (.double (0 : UInt64)), .second, .val (.double (0 : UInt64)), .second] [])) _
    refine XS.iconst X62.here hx rfl (hb hby at_117) ?_
    show Steps p.tables e below (T62.setTop (mkF m 118 #[.val (.int p1), .val (.int p2), .val (.int p3), .val (.int a3), .val (.int a4), .val (.ref x1), .val (.ref x2), .val (.ref ob), .val (.double (0 : UInt64)), .second, .val (.double (0 : UInt64)), .second] [(.int (1 : Int32))])) _
    refine XS.goto X62.here hx rfl (pc0 := 118) (pc' := 122) rfl (hb hby at_118) (by decide) (by decide) ?_
    show Steps p.tables e below (T62.setTop (mkF m 122 #[.val (.int p1), .val (.int p2), .val (.int p3), .val (.int a3), .val (.int a4), .val (.ref x1), .val (.ref x2), .val (.ref ob), .val (.double (0 : UInt64)), .second, .val (.double (0 : UInt64)), .second] [(.int (1 : Int32))])) _
    exact hk
  have hk9 : k0 ≤ T62.heap.size := by rw [e62]; exact Nat.le_trans hk0 (Nat.le_trans E40.1 Ki.1)
  have Y9 := X62.more (by omega : _ ≤ 24) (by omega : _ ≤ 1152)
  obtain ⟨fs, hr, hrun, hended, hEnd⟩ := Y9.leaveW hS hk9 (v := some (.int (1 : Int32))) (fun h => by rw [hret] at h; cases h) hlk
  exact ⟨_, _, K70 _ (retN Y9 hx (t := .boolean) (hret.trans (rfl : ret = some .boolean)) (by simp) (hb hby at_122) hr), hrun, hended, _, _, rfl, ⟨rfl, N62⟩, hEnd⟩
def own_h1 (p1 : Int32) (p2 : Int32) (p3 : Int32) : Int32 := (if (p1 &&& (1 : Int32)) = (0 : Int32) then (0 : Int32) else (1 : Int32))
set_option maxRecDepth 65536 in
set_option maxHeartbeats 4000000 in
theorem own_h1_s {p : Program} {l : Launch} {e : Env} {R : Room} {s : State} {m : MethodId} {args : Array Value} {below : List Frame} {meth : Method} {c : Code} {T : State} {locs : List Loc} {cells slots : Nat} {Z : State} {a0 : Array Value} (X : Stand p l e R s m args below meth c T locs cells slots) (hx : p.tables.exec = Jvm.exec) (hby : c.code = code) (hown : s.vm.findClass "com/example/bertilak/bertilak/model/NameTestDefaultPriorityPinLaw" = some m.cls) (hZ : Z.Warmed39 s.vm) (hw : ∀ d ∈ tables_1, d.before a0 Z = true) (p1 : Int32) (p2 : Int32) (p3 : Int32) (v : Int32) (hv : own_h1 p1 p2 p3 = v) {target : State} (hk : Steps p.tables e below (T.setTop (mkF m 11 #[.val (.int p1), .val (.int p2), .val (.int p3), .unset, .unset, .unset, .unset, .unset, .unset, .unset, .unset, .unset] [(.int v)])) target) :
    Steps p.tables e below (T.setTop (mkF m 0 #[.val (.int p1), .val (.int p2), .val (.int p3), .unset, .unset, .unset, .unset, .unset, .unset, .unset, .unset, .unset] [])) target := by
  unfold own_h1 at hv
  show Steps p.tables e below (T.setTop (mkF m 0 #[.val (.int p1), .val (.int p2), .val (.int p3), .unset, .unset, .unset, .unset, .unset, .unset, .unset, .unset, .unset] [])) _
  refine XS.iloadN X.here hx rfl (hb hby at_0) rfl ?_
  show Steps p.tables e below (T.setTop (mkF m 1 #[.val (.int p1), .val (.int p2), .val (.int p3), .unset, .unset, .unset, .unset, .unset, .unset, .unset, .unset, .unset] [(.int p1)])) _
  refine XS.iconst X.here hx rfl (hb hby at_1) ?_
  show Steps p.tables e below (T.setTop (mkF m 2 #[.val (.int p1), .val (.int p2), .val (.int p3), .unset, .unset, .unset, .unset, .unset, .unset, .unset, .unset, .unset] [(.int (1 : Int32)), (.int p1)])) _
  refine XS.iand X.here hx rfl (hb hby at_2) rfl ?_
  show Steps p.tables e below (T.setTop (mkF m 3 #[.val (.int p1), .val (.int p2), .val (.int p3), .unset, .unset, .unset, .unset, .unset, .unset, .unset, .unset, .unset] [(.int (p1 &&& (1 : Int32)))])) _
  by_cases hc3 : (p1 &&& (1 : Int32)) = (0 : Int32)
  · rw [if_pos hc3] at hv
    refine XS.ifYes X.here hx rfl (pc0 := 3) (pc' := 10) rfl (hb hby at_3) rfl ((if0 _ _).trans (teq hc3).1) (by decide) (by decide) ?_
    show Steps p.tables e below (T.setTop (mkF m 10 #[.val (.int p1), .val (.int p2), .val (.int p3), .unset, .unset, .unset, .unset, .unset, .unset, .unset, .unset, .unset] [])) _
    refine XS.iconst X.here hx rfl (hb hby at_10) ?_
    show Steps p.tables e below (T.setTop (mkF m 11 #[.val (.int p1), .val (.int p2), .val (.int p3), .unset, .unset, .unset, .unset, .unset, .unset, .unset, .unset, .unset] [(.int (0 : Int32))])) _
    subst hv
    exact hk
  · rw [if_neg hc3] at hv
    refine XS.ifNo X.here hx rfl (hb hby at_3) rfl ((if0 _ _).trans (feq hc3).1) ?_
    show Steps p.tables e below (T.setTop (mkF m 6 #[.val (.int p1), .val (.int p2), .val (.int p3), .unset, .unset, .unset, .unset, .unset, .unset, .unset, .unset, .unset] [])) _
    refine XS.iconst X.here hx rfl (hb hby at_6) ?_
    show Steps p.tables e below (T.setTop (mkF m 7 #[.val (.int p1), .val (.int p2), .val (.int p3), .unset, .unset, .unset, .unset, .unset, .unset, .unset, .unset, .unset] [(.int (1 : Int32))])) _
    refine XS.goto X.here hx rfl (pc0 := 7) (pc' := 11) rfl (hb hby at_7) (by decide) (by decide) ?_
    show Steps p.tables e below (T.setTop (mkF m 11 #[.val (.int p1), .val (.int p2), .val (.int p3), .unset, .unset, .unset, .unset, .unset, .unset, .unset, .unset, .unset] [(.int (1 : Int32))])) _
    subst hv
    exact hk
def own_h2 (p1 : Int32) (p2 : Int32) (p3 : Int32) (a3 : Int32) : Int32 := (if (p1 &&& (2 : Int32)) = (0 : Int32) then (0 : Int32) else (1 : Int32))
set_option maxRecDepth 65536 in
set_option maxHeartbeats 4000000 in
theorem own_h2_s {p : Program} {l : Launch} {e : Env} {R : Room} {s : State} {m : MethodId} {args : Array Value} {below : List Frame} {meth : Method} {c : Code} {T : State} {locs : List Loc} {cells slots : Nat} {Z : State} {a0 : Array Value} (X : Stand p l e R s m args below meth c T locs cells slots) (hx : p.tables.exec = Jvm.exec) (hby : c.code = code) (hown : s.vm.findClass "com/example/bertilak/bertilak/model/NameTestDefaultPriorityPinLaw" = some m.cls) (hZ : Z.Warmed39 s.vm) (hw : ∀ d ∈ tables_1, d.before a0 Z = true) (p1 : Int32) (p2 : Int32) (p3 : Int32) (a3 : Int32) (v : Int32) (hv : own_h2 p1 p2 p3 a3 = v) {target : State} (hk : Steps p.tables e below (T.setTop (mkF m 23 #[.val (.int p1), .val (.int p2), .val (.int p3), .val (.int a3), .unset, .unset, .unset, .unset, .unset, .unset, .unset, .unset] [(.int v)])) target) :
    Steps p.tables e below (T.setTop (mkF m 12 #[.val (.int p1), .val (.int p2), .val (.int p3), .val (.int a3), .unset, .unset, .unset, .unset, .unset, .unset, .unset, .unset] [])) target := by
  unfold own_h2 at hv
  show Steps p.tables e below (T.setTop (mkF m 12 #[.val (.int p1), .val (.int p2), .val (.int p3), .val (.int a3), .unset, .unset, .unset, .unset, .unset, .unset, .unset, .unset] [])) _
  refine XS.iloadN X.here hx rfl (hb hby at_12) rfl ?_
  show Steps p.tables e below (T.setTop (mkF m 13 #[.val (.int p1), .val (.int p2), .val (.int p3), .val (.int a3), .unset, .unset, .unset, .unset, .unset, .unset, .unset, .unset] [(.int p1)])) _
  refine XS.iconst X.here hx rfl (hb hby at_13) ?_
  show Steps p.tables e below (T.setTop (mkF m 14 #[.val (.int p1), .val (.int p2), .val (.int p3), .val (.int a3), .unset, .unset, .unset, .unset, .unset, .unset, .unset, .unset] [(.int (2 : Int32)), (.int p1)])) _
  refine XS.iand X.here hx rfl (hb hby at_14) rfl ?_
  show Steps p.tables e below (T.setTop (mkF m 15 #[.val (.int p1), .val (.int p2), .val (.int p3), .val (.int a3), .unset, .unset, .unset, .unset, .unset, .unset, .unset, .unset] [(.int (p1 &&& (2 : Int32)))])) _
  by_cases hc15 : (p1 &&& (2 : Int32)) = (0 : Int32)
  · rw [if_pos hc15] at hv
    refine XS.ifYes X.here hx rfl (pc0 := 15) (pc' := 22) rfl (hb hby at_15) rfl ((if0 _ _).trans (teq hc15).1) (by decide) (by decide) ?_
    show Steps p.tables e below (T.setTop (mkF m 22 #[.val (.int p1), .val (.int p2), .val (.int p3), .val (.int a3), .unset, .unset, .unset, .unset, .unset, .unset, .unset, .unset] [])) _
    refine XS.iconst X.here hx rfl (hb hby at_22) ?_
    show Steps p.tables e below (T.setTop (mkF m 23 #[.val (.int p1), .val (.int p2), .val (.int p3), .val (.int a3), .unset, .unset, .unset, .unset, .unset, .unset, .unset, .unset] [(.int (0 : Int32))])) _
    subst hv
    exact hk
  · rw [if_neg hc15] at hv
    refine XS.ifNo X.here hx rfl (hb hby at_15) rfl ((if0 _ _).trans (feq hc15).1) ?_
    show Steps p.tables e below (T.setTop (mkF m 18 #[.val (.int p1), .val (.int p2), .val (.int p3), .val (.int a3), .unset, .unset, .unset, .unset, .unset, .unset, .unset, .unset] [])) _
    refine XS.iconst X.here hx rfl (hb hby at_18) ?_
    show Steps p.tables e below (T.setTop (mkF m 19 #[.val (.int p1), .val (.int p2), .val (.int p3), .val (.int a3), .unset, .unset, .unset, .unset, .unset, .unset, .unset, .unset] [(.int (1 : Int32))])) _
    refine XS.goto X.here hx rfl (pc0 := 19) (pc' := 23) rfl (hb hby at_19) (by decide) (by decide) ?_
    show Steps p.tables e below (T.setTop (mkF m 23 #[.val (.int p1), .val (.int p2), .val (.int p3), .val (.int a3), .unset, .unset, .unset, .unset, .unset, .unset, .unset, .unset] [(.int (1 : Int32))])) _
    subst hv
    exact hk
theorem ef_0 (m : MethodId) (x0 : Int32) (x1 : Int32) (x2 : Int32) : entryFrame m #[(.int x0), (.int x1), (.int x2)] maxLocals = mkF m 0 #[.val (.int x0), .val (.int x1), .val (.int x2), .unset, .unset, .unset, .unset, .unset, .unset, .unset, .unset, .unset] [] := by first | (simp [entryFrame, mkF, argsToLocals, Value.category, maxLocals]; done) | rfl
theorem pn_0 : plainName "com/example/bertilak/bertilak/model/NameTestDefaultPriorityPinLaw" = true := by first | (simp [plainName, overriddenIn]; done) | decide +kernel
def Q_rm0 (Z : State) (p1 : Int32) (p2 : Int32) (p3 : Int32)  (h0 : Heap) (n0 : Nat) (v : Option Value) (h : Heap) (L : List Loc) : Prop := v = some (.int (1 : Int32)) ∧ Fr n0 L
set_option maxRecDepth 65536 in
set_option maxHeartbeats 40000000 in
theorem rm0 (l : Launch) (Z : State) (a0 : Array Value) (hw : ∀ d ∈ tables_1, d.before a0 Z = true) (ws : List Jvm.Cond) (p1 : Int32) (p2 : Int32) (p3 : Int32)  (h0 : Heap) (n0 : Nat) (Z0 : n0 ≤ h0.size) (cs : Int32) (SC : Sta Z h0 "java/lang/String" "COMPACT_STRINGS" "Z" (.int cs)) (hcs : ¬ cs = (0 : Int32)) :
    MetFree l x (head1 (Jvm.Cond.code x code maxLocals ret :: ws) room_1) (fun a U => a = #[(.int p1), (.int p2), (.int p3)] ∧ Z.Warmed39 U.vm ∧ U.heap = h0) (fun _ _ _ _ _ => True) (fun _ U o U' => ∃ v L, o = .returned v ∧ Q_rm0 Z p1 p2 p3  h0 n0 v U'.heap L ∧ ReturnedEndW U o U' L 24 1152) := by
  refine MetFree.of_bodySF (plainFor_of_name pn_0) hisR ?_
  intro p e s m args below meth c s₁ Bd hml0 hP hK
  obtain ⟨rfl, hZ, hh⟩ := hP
  have hx := Bd.exec
  have hby := Bd.bytes
  have hml : c.maxLocals = 12 := hml0
  have hown : s.vm.findClass "com/example/bertilak/bertilak/model/NameTestDefaultPriorityPinLaw" = some m.cls := findClass_of_methodNamed Bd.named
  have hnm := (name_of_methodNamed Bd.named Bd.method).1
  have X0 : Stand p l e room_1 s m #[(.int p1), (.int p2), (.int p3)] below meth c s₁ [] 0 0 := Stand.of_body Bd
  have e0 : s₁.heap = h0 := by rw [← hh, Bd.state]; rfl
  have N0 := Fr.nil n0
  have pre0 : ∀ t, Steps p.tables e below (s₁.setTop (mkF m 0 #[.val (.int p1), .val (.int p2), .val (.int p3), .unset, .unset, .unset, .unset, .unset, .unset, .unset, .unset, .unset] [])) t → Steps p.tables e below (s₁.setTop (entryFrame m #[(.int p1), (.int p2), (.int p3)] maxLocals)) t := fun t k => castTop (ef_0 m p1 p2 p3) k
  have K1 : ∀ t, Steps p.tables e below (s₁.setTop (mkF m 11 #[.val (.int p1), .val (.int p2), .val (.int p3), .unset, .unset, .unset, .unset, .unset, .unset, .unset, .unset, .unset] [(.int (own_h1 p1 p2 p3))])) t → Steps p.tables e below (s₁.setTop (entryFrame m #[(.int p1), (.int p2), (.int p3)] maxLocals)) t := fun t hk => pre0 t (own_h1_s X0 hx hby hown hZ hw p1 p2 p3 _ rfl hk)
  obtain ⟨a3, ha3⟩ : ∃ z, z = (own_h1 p1 p2 p3) := ⟨_, rfl⟩
  have K2 : ∀ t, Steps p.tables e below (s₁.setTop (mkF m 11 #[.val (.int p1), .val (.int p2), .val (.int p3), .unset, .unset, .unset, .unset, .unset, .unset, .unset, .unset, .unset] [(.int a3)])) t → Steps p.tables e below (s₁.setTop (entryFrame m #[(.int p1), (.int p2), (.int p3)] maxLocals)) t := by rw [ha3]; exact K1
  have K3 : ∀ t, Steps p.tables e below (s₁.setTop (mkF m 12 #[.val (.int p1), .val (.int p2), .val (.int p3), .val (.int a3), .unset, .unset, .unset, .unset, .unset, .unset, .unset, .unset] [])) t → Steps p.tables e below (s₁.setTop (entryFrame m #[(.int p1), (.int p2), (.int p3)] maxLocals)) t := by
    intro t hk
    refine K2 t ?_
    show Steps p.tables e below (s₁.setTop (mkF m 11 #[.val (.int p1), .val (.int p2), .val (.int p3), .unset, .unset, .unset, .unset, .unset, .unset, .unset, .unset, .unset] [(.int a3)])) _
    refine XS.istoreN X0.here hx rfl (hb hby at_11) rfl (l' := #[.val (.int p1), .val (.int p2), .val (.int p3), .val (.int a3), .unset, .unset, .unset, .unset, .unset, .unset, .unset, .unset]) rfl ?_
    show Steps p.tables e below (s₁.setTop (mkF m 12 #[.val (.int p1), .val (.int p2), .val (.int p3), .val (.int a3), .unset, .unset, .unset, .unset, .unset, .unset, .unset, .unset] [])) _
    exact hk
  have K4 : ∀ t, Steps p.tables e below (s₁.setTop (mkF m 23 #[.val (.int p1), .val (.int p2), .val (.int p3), .val (.int a3), .unset, .unset, .unset, .unset, .unset, .unset, .unset, .unset] [(.int (own_h2 p1 p2 p3 a3))])) t → Steps p.tables e below (s₁.setTop (entryFrame m #[(.int p1), (.int p2), (.int p3)] maxLocals)) t := fun t hk => K3 t (own_h2_s X0 hx hby hown hZ hw p1 p2 p3 a3 _ rfl hk)
  obtain ⟨a4, ha4⟩ : ∃ z, z = (own_h2 p1 p2 p3 a3) := ⟨_, rfl⟩
  have K5 : ∀ t, Steps p.tables e below (s₁.setTop (mkF m 23 #[.val (.int p1), .val (.int p2), .val (.int p3), .val (.int a3), .unset, .unset, .unset, .unset, .unset, .unset, .unset, .unset] [(.int a4)])) t → Steps p.tables e below (s₁.setTop (entryFrame m #[(.int p1), (.int p2), (.int p3)] maxLocals)) t := by rw [ha4]; exact K4
  have K6 : ∀ t, Steps p.tables e below (s₁.setTop (mkF m 29 #[.val (.int p1), .val (.int p2), .val (.int p3), .val (.int a3), .val (.int a4), .val .null, .unset, .unset, .unset, .unset, .unset, .unset] [(.int a3)])) t → Steps p.tables e below (s₁.setTop (entryFrame m #[(.int p1), (.int p2), (.int p3)] maxLocals)) t := by
    intro t hk
    refine K5 t ?_
    show Steps p.tables e below (s₁.setTop (mkF m 23 #[.val (.int p1), .val (.int p2), .val (.int p3), .val (.int a3), .unset, .unset, .unset, .unset, .unset, .unset, .unset, .unset] [(.int a4)])) _
    refine XS.istore X0.here hx rfl (hb hby at_23) rfl (l' := #[.val (.int p1), .val (.int p2), .val (.int p3), .val (.int a3), .val (.int a4), .unset, .unset, .unset, .unset, .unset, .unset, .unset]) rfl ?_
    show Steps p.tables e below (s₁.setTop (mkF m 25 #[.val (.int p1), .val (.int p2), .val (.int p3), .val (.int a3), .val (.int a4), .unset, .unset, .unset, .unset, .unset, .unset, .unset] [])) _
    refine XS.aconstNull X0.here hx rfl (hb hby at_25) ?_
    show Steps p.tables e below (s₁.setTop (mkF m 26 #[.val (.int p1), .val (.int p2), .val (.int p3), .val (.int a3), .val (.int a4), .unset, .unset, .unset, .unset, .unset, .unset, .unset] [.null])) _
    refine XS.astore X0.here hx rfl (hb hby at_26) rfl rfl (l' := #[.val (.int p1), .val (.int p2), .val (.int p3), .val (.int a3), .val (.int a4), .val .null, .unset, .unset, .unset, .unset, .unset, .unset]) rfl ?_
    show Steps p.tables e below (s₁.setTop (mkF m 28 #[.val (.int p1), .val (.int p2), .val (.int p3), .val (.int a3), .val (.int a4), .val .null, .unset, .unset, .unset, .unset, .unset, .unset] [])) _
    refine XS.iloadN X0.here hx rfl (hb hby at_28) rfl ?_
    show Steps p.tables e below (s₁.setTop (mkF m 29 #[.val (.int p1), .val (.int p2), .val (.int p3), .val (.int a3), .val (.int a4), .val .null, .unset, .unset, .unset, .unset, .unset, .unset] [(.int a3)])) _
    exact hk
  by_cases hc29 : a3 = (0 : Int32)
  · have K7 : ∀ t, Steps p.tables e below (s₁.setTop (mkF m 38 #[.val (.int p1), .val (.int p2), .val (.int p3), .val (.int a3), .val (.int a4), .val .null, .unset, .unset, .unset, .unset, .unset, .unset] [])) t → Steps p.tables e below (s₁.setTop (entryFrame m #[(.int p1), (.int p2), (.int p3)] maxLocals)) t := by
      intro t hk
      refine K6 t ?_
      show Steps p.tables e below (s₁.setTop (mkF m 29 #[.val (.int p1), .val (.int p2), .val (.int p3), .val (.int a3), .val (.int a4), .val .null, .unset, .unset, .unset, .unset, .unset, .unset] [(.int a3)])) _
      refine XS.ifYes X0.here hx rfl (pc0 := 29) (pc' := 38) rfl (hb hby at_29) rfl ((if0 _ _).trans (teq hc29).1) (by decide) (by decide) ?_
      exact hk
    have K8 : ∀ t, Steps p.tables e below (s₁.setTop (mkF m 43 #[.val (.int p1), .val (.int p2), .val (.int p3), .val (.int a3), .val (.int a4), .val .null, .val .null, .unset, .unset, .unset, .unset, .unset] [(.int a4)])) t → Steps p.tables e below (s₁.setTop (entryFrame m #[(.int p1), (.int p2), (.int p3)] maxLocals)) t := by
      intro t hk
      refine K7 t ?_
      show Steps p.tables e below (s₁.setTop (mkF m 38 #[.val (.int p1), .val (.int p2), .val (.int p3), .val (.int a3), .val (.int a4), .val .null, .unset, .unset, .unset, .unset, .unset, .unset] [])) _
      refine XS.aconstNull X0.here hx rfl (hb hby at_38) ?_
      show Steps p.tables e below (s₁.setTop (mkF m 39 #[.val (.int p1), .val (.int p2), .val (.int p3), .val (.int a3), .val (.int a4), .val .null, .unset, .unset, .unset, .unset, .unset, .unset] [.null])) _
      refine XS.astore X0.here hx rfl (hb hby at_39) rfl rfl (l' := #[.val (.int p1), .val (.int p2), .val (.int p3), .val (.int a3), .val (.int a4), .val .null, .val .null, .unset, .unset, .unset, .unset, .unset]) rfl ?_
      show Steps p.tables e below (s₁.setTop (mkF m 41 #[.val (.int p1), .val (.int p2), .val (.int p3), .val (.int a3), .val (.int a4), .val .null, .val .null, .unset, .unset, .unset, .unset, .unset] [])) _
      refine XS.iload X0.here hx rfl (hb hby at_41) rfl ?_
      show Steps p.tables e below (s₁.setTop (mkF m 43 #[.val (.int p1), .val (.int p2), .val (.int p3), .val (.int a3), .val (.int a4), .val .null, .val .null, .unset, .unset, .unset, .unset, .unset] [(.int a4)])) _
      exact hk
    by_cases hc43 : a4 = (0 : Int32)
    · have K9 : ∀ t, Steps p.tables e below (s₁.setTop (mkF m 52 #[.val (.int p1), .val (.int p2), .val (.int p3), .val (.int a3), .val (.int a4), .val .null, .val .null, .unset, .unset, .unset, .unset, .unset] [])) t → Steps p.tables e below (s₁.setTop (entryFrame m #[(.int p1), (.int p2), (.int p3)] maxLocals)) t := by
        intro t hk
        refine K8 t ?_
        show Steps p.tables e below (s₁.setTop (mkF m 43 #[.val (.int p1), .val (.int p2), .val (.int p3), .val (.int a3), .val (.int a4), .val .null, .val .null, .unset, .unset, .unset, .unset, .unset] [(.int a4)])) _
        refine XS.ifYes X0.here hx rfl (pc0 := 43) (pc' := 52) rfl (hb hby at_43) rfl ((if0 _ _).trans (teq hc43).1) (by decide) (by decide) ?_
        exact hk
      exact own_tail_nn X0 hx hby hml hown hZ hw Bd.returns Bd.notSynchronized p1 p2 p3 a3 a4  e0 Z0 N0 hc29 hc43 (by decide) (by decide) ((State.WarmedH.refl s).since h0.size) (Nat.le_refl _) K9
    · have K10 : ∀ t, Steps p.tables e below (s₁.setTop (mkF m 46 #[.val (.int p1), .val (.int p2), .val (.int p3), .val (.int a3), .val (.int a4), .val .null, .val .null, .unset, .unset, .unset, .unset, .unset] [])) t → Steps p.tables e below (s₁.setTop (entryFrame m #[(.int p1), (.int p2), (.int p3)] maxLocals)) t := by
        intro t hk
        refine K8 t ?_
        show Steps p.tables e below (s₁.setTop (mkF m 43 #[.val (.int p1), .val (.int p2), .val (.int p3), .val (.int a3), .val (.int a4), .val .null, .val .null, .unset, .unset, .unset, .unset, .unset] [(.int a4)])) _
        refine XS.ifNo X0.here hx rfl (hb hby at_43) rfl ((if0 _ _).trans (feq hc43).1) ?_
        exact hk
      have K11 : ∀ t, Steps p.tables e below (s₁.setTop (mkF m 47 #[.val (.int p1), .val (.int p2), .val (.int p3), .val (.int a3), .val (.int a4), .val .null, .val .null, .unset, .unset, .unset, .unset, .unset] [(.int p3)])) t → Steps p.tables e below (s₁.setTop (entryFrame m #[(.int p1), (.int p2), (.int p3)] maxLocals)) t := by
        intro t hk
        refine K10 t ?_
        show Steps p.tables e below (s₁.setTop (mkF m 46 #[.val (.int p1), .val (.int p2), .val (.int p3), .val (.int a3), .val (.int a4), .val .null, .val .null, .unset, .unset, .unset, .unset, .unset] [])) _
        refine XS.iloadN X0.here hx rfl (hb hby at_46) rfl ?_
        show Steps p.tables e below (s₁.setTop (mkF m 47 #[.val (.int p1), .val (.int p2), .val (.int p3), .val (.int a3), .val (.int a4), .val .null, .val .null, .unset, .unset, .unset, .unset, .unset] [(.int p3)])) _
        exact hk
      obtain ⟨_, _, ⟨T22, L22, k22, n22⟩, -, X22', S22', g22', ⟨Lc22, hQ22, l22, y22, z22⟩, st22⟩ := callSS X0 hx (y := (⟨"com/example/bertilak/bertilak/model/NameTestDefaultPriorityPinLaw", "drawn", "(I)Ljava/lang/String;"⟩ : MethodName)) hown (mvT hZ (hw _ (List.mem_of_getElem? (i := 20) rfl))) (mvT hZ (hw _ (List.mem_of_getElem? (i := 21) rfl))) (mvT hZ (hw _ (List.mem_of_getElem? (i := 22) rfl))) (mvT hZ (hw _ (List.mem_of_getElem? (i := 23) rfl))) (by decide) (backOfS (W := 0) (rm4 l Z a0 hw [] p3 h0 n0 Z0 cs SC hcs) hZ (hw _ (List.mem_of_getElem? (i := 23) rfl)) (hw _ (List.mem_of_getElem? (i := 22) rfl)) (by decide) (by decide)) (g := (mkF m 47 #[.val (.int p1), .val (.int p2), .val (.int p3), .val (.int a3), .val (.int a4), .val .null, .val .null, .unset, .unset, .unset, .unset, .unset] [(.int p3)])) rfl (by rw [hml]; rfl) (argsL := [(.int p3)]) (rest := []) (lenOf (by decide +kernel : parseMethodDescriptor "(I)Ljava/lang/String;" = some ⟨[.int], (some (.object "java/lang/String"))⟩) rfl) rfl (by show 2 * 0 + _ ≤ _; exact Nat.le_of_eq rfl) (hb hby at_47) (fun _ _ => ⟨rfl, e0, (by decide : 0 + 2 ≤ _), (by decide : 0 + 5 ≤ _)⟩)
      dsimp only [Pt.U, Pt.locs, Pt.cells, Pt.slots] at X22' S22' g22' l22 y22 z22 st22 hQ22
      replace y22 := y22.symm; replace z22 := z22.symm; subst l22 y22 z22
      obtain ⟨⟨x22, rfl⟩, Nq22, Ex22⟩ := hQ22
      have N22 := Fr.app N0 Nq22
      have hZ22 : Z.Warmed39 (s.setVm T22.vm).vm := State.Warmed39.trans hZ S22'.1
      have hown22 : (s.setVm T22.vm).vm.findClass "com/example/bertilak/bertilak/model/NameTestDefaultPriorityPinLaw" = some m.cls := (S22'.1.alike.findClass _ _).trans hown
      have X22 := X22'
      have S22 := S22'
      have K22 : ∀ t, Steps p.tables e below (T22.setTop (mkF m 50 #[.val (.int p1), .val (.int p2), .val (.int p3), .val (.int a3), .val (.int a4), .val .null, .val .null, .unset, .unset, .unset, .unset, .unset] [(.ref x22)])) t → Steps p.tables e below (s₁.setTop (entryFrame m #[(.int p1), (.int p2), (.int p3)] maxLocals)) t := fun t hk => K11 t (st22.trans hk)
      have sz22 := Nat.le_trans Z0 Ex22.1
      have SC22 := SC.ext Ex22
      clear hZ hown
      have hZ := hZ22
      have hown := hown22
      have K12 : ∀ t, Steps p.tables e below (T22.setTop (mkF m 52 #[.val (.int p1), .val (.int p2), .val (.int p3), .val (.int a3), .val (.int a4), .val .null, .val (.ref x22), .unset, .unset, .unset, .unset, .unset] [])) t → Steps p.tables e below (s₁.setTop (entryFrame m #[(.int p1), (.int p2), (.int p3)] maxLocals)) t := by
        intro t hk
        refine K22 t ?_
        show Steps p.tables e below (T22.setTop (mkF m 50 #[.val (.int p1), .val (.int p2), .val (.int p3), .val (.int a3), .val (.int a4), .val .null, .val .null, .unset, .unset, .unset, .unset, .unset] [(.ref x22)])) _
        refine XS.astore X22.here hx rfl (hb hby at_50) rfl rfl (l' := #[.val (.int p1), .val (.int p2), .val (.int p3), .val (.int a3), .val (.int a4), .val .null, .val (.ref x22), .unset, .unset, .unset, .unset, .unset]) rfl ?_
        show Steps p.tables e below (T22.setTop (mkF m 52 #[.val (.int p1), .val (.int p2), .val (.int p3), .val (.int a3), .val (.int a4), .val .null, .val (.ref x22), .unset, .unset, .unset, .unset, .unset] [])) _
        exact hk
      exact own_tail_nr X22 hx hby hml hown hZ hw Bd.returns Bd.notSynchronized p1 p2 p3 a3 a4 x22 rfl sz22 N22 hc29 hc43 (by decide) (by decide) S22 (Nat.le_refl _) K12
  · have K13 : ∀ t, Steps p.tables e below (s₁.setTop (mkF m 32 #[.val (.int p1), .val (.int p2), .val (.int p3), .val (.int a3), .val (.int a4), .val .null, .unset, .unset, .unset, .unset, .unset, .unset] [])) t → Steps p.tables e below (s₁.setTop (entryFrame m #[(.int p1), (.int p2), (.int p3)] maxLocals)) t := by
      intro t hk
      refine K6 t ?_
      show Steps p.tables e below (s₁.setTop (mkF m 29 #[.val (.int p1), .val (.int p2), .val (.int p3), .val (.int a3), .val (.int a4), .val .null, .unset, .unset, .unset, .unset, .unset, .unset] [(.int a3)])) _
      refine XS.ifNo X0.here hx rfl (hb hby at_29) rfl ((if0 _ _).trans (feq hc29).1) ?_
      exact hk
    have K14 : ∀ t, Steps p.tables e below (s₁.setTop (mkF m 33 #[.val (.int p1), .val (.int p2), .val (.int p3), .val (.int a3), .val (.int a4), .val .null, .unset, .unset, .unset, .unset, .unset, .unset] [(.int p2)])) t → Steps p.tables e below (s₁.setTop (entryFrame m #[(.int p1), (.int p2), (.int p3)] maxLocals)) t := by
      intro t hk
      refine K13 t ?_
      show Steps p.tables e below (s₁.setTop (mkF m 32 #[.val (.int p1), .val (.int p2), .val (.int p3), .val (.int a3), .val (.int a4), .val .null, .unset, .unset, .unset, .unset, .unset, .unset] [])) _
      refine XS.iloadN X0.here hx rfl (hb hby at_32) rfl ?_
      show Steps p.tables e below (s₁.setTop (mkF m 33 #[.val (.int p1), .val (.int p2), .val (.int p3), .val (.int a3), .val (.int a4), .val .null, .unset, .unset, .unset, .unset, .unset, .unset] [(.int p2)])) _
      exact hk
    obtain ⟨_, _, ⟨T21, L21, k21, n21⟩, -, X21', S21', g21', ⟨Lc21, hQ21, l21, y21, z21⟩, st21⟩ := callSS X0 hx (y := (⟨"com/example/bertilak/bertilak/model/NameTestDefaultPriorityPinLaw", "drawn", "(I)Ljava/lang/String;"⟩ : MethodName)) hown (mvT hZ (hw _ (List.mem_of_getElem? (i := 20) rfl))) (mvT hZ (hw _ (List.mem_of_getElem? (i := 21) rfl))) (mvT hZ (hw _ (List.mem_of_getElem? (i := 22) rfl))) (mvT hZ (hw _ (List.mem_of_getElem? (i := 23) rfl))) (by decide) (backOfS (W := 0) (rm4 l Z a0 hw [] p2 h0 n0 Z0 cs SC hcs) hZ (hw _ (List.mem_of_getElem? (i := 23) rfl)) (hw _ (List.mem_of_getElem? (i := 22) rfl)) (by decide) (by decide)) (g := (mkF m 33 #[.val (.int p1), .val (.int p2), .val (.int p3), .val (.int a3), .val (.int a4), .val .null, .unset, .unset, .unset, .unset, .unset, .unset] [(.int p2)])) rfl (by rw [hml]; rfl) (argsL := [(.int p2)]) (rest := []) (lenOf (by decide +kernel : parseMethodDescriptor "(I)Ljava/lang/String;" = some ⟨[.int], (some (.object "java/lang/String"))⟩) rfl) rfl (by show 2 * 0 + _ ≤ _; exact Nat.le_of_eq rfl) (hb hby at_33) (fun _ _ => ⟨rfl, e0, (by decide : 0 + 2 ≤ _), (by decide : 0 + 5 ≤ _)⟩)
    dsimp only [Pt.U, Pt.locs, Pt.cells, Pt.slots] at X21' S21' g21' l21 y21 z21 st21 hQ21
    replace y21 := y21.symm; replace z21 := z21.symm; subst l21 y21 z21
    obtain ⟨⟨x21, rfl⟩, Nq21, Ex21⟩ := hQ21
    have N21 := Fr.app N0 Nq21
    have hZ21 : Z.Warmed39 (s.setVm T21.vm).vm := State.Warmed39.trans hZ S21'.1
    have hown21 : (s.setVm T21.vm).vm.findClass "com/example/bertilak/bertilak/model/NameTestDefaultPriorityPinLaw" = some m.cls := (S21'.1.alike.findClass _ _).trans hown
    have X21 := X21'
    have S21 := S21'
    have K21 : ∀ t, Steps p.tables e below (T21.setTop (mkF m 36 #[.val (.int p1), .val (.int p2), .val (.int p3), .val (.int a3), .val (.int a4), .val .null, .unset, .unset, .unset, .unset, .unset, .unset] [(.ref x21)])) t → Steps p.tables e below (s₁.setTop (entryFrame m #[(.int p1), (.int p2), (.int p3)] maxLocals)) t := fun t hk => K14 t (st21.trans hk)
    have sz21 := Nat.le_trans Z0 Ex21.1
    have SC21 := SC.ext Ex21
    clear hZ hown
    have hZ := hZ21
    have hown := hown21
    have K15 : ∀ t, Steps p.tables e below (T21.setTop (mkF m 43 #[.val (.int p1), .val (.int p2), .val (.int p3), .val (.int a3), .val (.int a4), .val (.ref x21), .val .null, .unset, .unset, .unset, .unset, .unset] [(.int a4)])) t → Steps p.tables e below (s₁.setTop (entryFrame m #[(.int p1), (.int p2), (.int p3)] maxLocals)) t := by
      intro t hk
      refine K21 t ?_
      show Steps p.tables e below (T21.setTop (mkF m 36 #[.val (.int p1), .val (.int p2), .val (.int p3), .val (.int a3), .val (.int a4), .val .null, .unset, .unset, .unset, .unset, .unset, .unset] [(.ref x21)])) _
      refine XS.astore X21.here hx rfl (hb hby at_36) rfl rfl (l' := #[.val (.int p1), .val (.int p2), .val (.int p3), .val (.int a3), .val (.int a4), .val (.ref x21), .unset, .unset, .unset, .unset, .unset, .unset]) rfl ?_
      show Steps p.tables e below (T21.setTop (mkF m 38 #[.val (.int p1), .val (.int p2), .val (.int p3), .val (.int a3), .val (.int a4), .val (.ref x21), .unset, .unset, .unset, .unset, .unset, .unset] [])) _
      refine XS.aconstNull X21.here hx rfl (hb hby at_38) ?_
      show Steps p.tables e below (T21.setTop (mkF m 39 #[.val (.int p1), .val (.int p2), .val (.int p3), .val (.int a3), .val (.int a4), .val (.ref x21), .unset, .unset, .unset, .unset, .unset, .unset] [.null])) _
      refine XS.astore X21.here hx rfl (hb hby at_39) rfl rfl (l' := #[.val (.int p1), .val (.int p2), .val (.int p3), .val (.int a3), .val (.int a4), .val (.ref x21), .val .null, .unset, .unset, .unset, .unset, .unset]) rfl ?_
      show Steps p.tables e below (T21.setTop (mkF m 41 #[.val (.int p1), .val (.int p2), .val (.int p3), .val (.int a3), .val (.int a4), .val (.ref x21), .val .null, .unset, .unset, .unset, .unset, .unset] [])) _
      refine XS.iload X21.here hx rfl (hb hby at_41) rfl ?_
      show Steps p.tables e below (T21.setTop (mkF m 43 #[.val (.int p1), .val (.int p2), .val (.int p3), .val (.int a3), .val (.int a4), .val (.ref x21), .val .null, .unset, .unset, .unset, .unset, .unset] [(.int a4)])) _
      exact hk
    by_cases hc43 : a4 = (0 : Int32)
    · have K16 : ∀ t, Steps p.tables e below (T21.setTop (mkF m 52 #[.val (.int p1), .val (.int p2), .val (.int p3), .val (.int a3), .val (.int a4), .val (.ref x21), .val .null, .unset, .unset, .unset, .unset, .unset] [])) t → Steps p.tables e below (s₁.setTop (entryFrame m #[(.int p1), (.int p2), (.int p3)] maxLocals)) t := by
        intro t hk
        refine K15 t ?_
        show Steps p.tables e below (T21.setTop (mkF m 43 #[.val (.int p1), .val (.int p2), .val (.int p3), .val (.int a3), .val (.int a4), .val (.ref x21), .val .null, .unset, .unset, .unset, .unset, .unset] [(.int a4)])) _
        refine XS.ifYes X21.here hx rfl (pc0 := 43) (pc' := 52) rfl (hb hby at_43) rfl ((if0 _ _).trans (teq hc43).1) (by decide) (by decide) ?_
        exact hk
      exact own_tail_rn X21 hx hby hml hown hZ hw Bd.returns Bd.notSynchronized p1 p2 p3 a3 a4 x21 rfl sz21 N21 hc29 hc43 (by decide) (by decide) S21 (Nat.le_refl _) K16
    · have K17 : ∀ t, Steps p.tables e below (T21.setTop (mkF m 46 #[.val (.int p1), .val (.int p2), .val (.int p3), .val (.int a3), .val (.int a4), .val (.ref x21), .val .null, .unset, .unset, .unset, .unset, .unset] [])) t → Steps p.tables e below (s₁.setTop (entryFrame m #[(.int p1), (.int p2), (.int p3)] maxLocals)) t := by
        intro t hk
        refine K15 t ?_
        show Steps p.tables e below (T21.setTop (mkF m 43 #[.val (.int p1), .val (.int p2), .val (.int p3), .val (.int a3), .val (.int a4), .val (.ref x21), .val .null, .unset, .unset, .unset, .unset, .unset] [(.int a4)])) _
        refine XS.ifNo X21.here hx rfl (hb hby at_43) rfl ((if0 _ _).trans (feq hc43).1) ?_
        exact hk
      have K18 : ∀ t, Steps p.tables e below (T21.setTop (mkF m 47 #[.val (.int p1), .val (.int p2), .val (.int p3), .val (.int a3), .val (.int a4), .val (.ref x21), .val .null, .unset, .unset, .unset, .unset, .unset] [(.int p3)])) t → Steps p.tables e below (s₁.setTop (entryFrame m #[(.int p1), (.int p2), (.int p3)] maxLocals)) t := by
        intro t hk
        refine K17 t ?_
        show Steps p.tables e below (T21.setTop (mkF m 46 #[.val (.int p1), .val (.int p2), .val (.int p3), .val (.int a3), .val (.int a4), .val (.ref x21), .val .null, .unset, .unset, .unset, .unset, .unset] [])) _
        refine XS.iloadN X21.here hx rfl (hb hby at_46) rfl ?_
        show Steps p.tables e below (T21.setTop (mkF m 47 #[.val (.int p1), .val (.int p2), .val (.int p3), .val (.int a3), .val (.int a4), .val (.ref x21), .val .null, .unset, .unset, .unset, .unset, .unset] [(.int p3)])) _
        exact hk
      obtain ⟨_, _, ⟨T22, L22, k22, n22⟩, -, X22', S22', g22', ⟨Lc22, hQ22, l22, y22, z22⟩, st22⟩ := callSS X21 hx (y := (⟨"com/example/bertilak/bertilak/model/NameTestDefaultPriorityPinLaw", "drawn", "(I)Ljava/lang/String;"⟩ : MethodName)) hown (mvT hZ (hw _ (List.mem_of_getElem? (i := 20) rfl))) (mvT hZ (hw _ (List.mem_of_getElem? (i := 21) rfl))) (mvT hZ (hw _ (List.mem_of_getElem? (i := 22) rfl))) (mvT hZ (hw _ (List.mem_of_getElem? (i := 23) rfl))) (by decide) (backOfS (W := 0) (rm4 l Z a0 hw [] p3 T21.heap n0 sz21 cs SC21 hcs) hZ (hw _ (List.mem_of_getElem? (i := 23) rfl)) (hw _ (List.mem_of_getElem? (i := 22) rfl)) (by decide) (by decide)) (g := (mkF m 47 #[.val (.int p1), .val (.int p2), .val (.int p3), .val (.int a3), .val (.int a4), .val (.ref x21), .val .null, .unset, .unset, .unset, .unset, .unset] [(.int p3)])) rfl (by rw [hml]; rfl) (argsL := [(.int p3)]) (rest := []) (lenOf (by decide +kernel : parseMethodDescriptor "(I)Ljava/lang/String;" = some ⟨[.int], (some (.object "java/lang/String"))⟩) rfl) rfl (by show 2 * 0 + _ ≤ _; exact Nat.le_of_eq rfl) (hb hby at_47) (fun _ _ => ⟨rfl, rfl, (by decide : 0 + 2 + 2 ≤ _), (by decide : 0 + 5 + 5 ≤ _)⟩)
      dsimp only [Pt.U, Pt.locs, Pt.cells, Pt.slots] at X22' S22' g22' l22 y22 z22 st22 hQ22
      replace y22 := y22.symm; replace z22 := z22.symm; subst l22 y22 z22
      obtain ⟨⟨x22, rfl⟩, Nq22, Ex22⟩ := hQ22
      have N22 := Fr.app N21 Nq22
      obtain ⟨X22, S22, hZ22, hown22⟩ := rebS S21 (Nat.le_refl _) X22' S22' g22' hZ hown
      have K22 : ∀ t, Steps p.tables e below (T22.setTop (mkF m 50 #[.val (.int p1), .val (.int p2), .val (.int p3), .val (.int a3), .val (.int a4), .val (.ref x21), .val .null, .unset, .unset, .unset, .unset, .unset] [(.ref x22)])) t → Steps p.tables e below (s₁.setTop (entryFrame m #[(.int p1), (.int p2), (.int p3)] maxLocals)) t := fun t hk => K18 t (st22.trans hk)
      have sz22 := Nat.le_trans sz21 Ex22.1
      have SC22 := SC21.ext Ex22
      clear hZ hown
      have hZ := hZ22
      have hown := hown22
      have K19 : ∀ t, Steps p.tables e below (T22.setTop (mkF m 52 #[.val (.int p1), .val (.int p2), .val (.int p3), .val (.int a3), .val (.int a4), .val (.ref x21), .val (.ref x22), .unset, .unset, .unset, .unset, .unset] [])) t → Steps p.tables e below (s₁.setTop (entryFrame m #[(.int p1), (.int p2), (.int p3)] maxLocals)) t := by
        intro t hk
        refine K22 t ?_
        show Steps p.tables e below (T22.setTop (mkF m 50 #[.val (.int p1), .val (.int p2), .val (.int p3), .val (.int a3), .val (.int a4), .val (.ref x21), .val .null, .unset, .unset, .unset, .unset, .unset] [(.ref x22)])) _
        refine XS.astore X22.here hx rfl (hb hby at_50) rfl rfl (l' := #[.val (.int p1), .val (.int p2), .val (.int p3), .val (.int a3), .val (.int a4), .val (.ref x21), .val (.ref x22), .unset, .unset, .unset, .unset, .unset]) rfl ?_
        show Steps p.tables e below (T22.setTop (mkF m 52 #[.val (.int p1), .val (.int p2), .val (.int p3), .val (.int a3), .val (.int a4), .val (.ref x21), .val (.ref x22), .unset, .unset, .unset, .unset, .unset] [])) _
        exact hk
      exact own_tail_rr X22 hx hby hml hown hZ hw Bd.returns Bd.notSynchronized p1 p2 p3 a3 a4 x21 x22 rfl sz22 N22 hc29 hc43 (by decide) (by decide) S22 (Nat.le_refl _) K19
theorem own_nz {args : Array Value} {first s : State} {o : Option Outcome} {idx : List Nat} {t : Term} {n : Int32} (ht : t.eval args first o idx s = some (.int n)) (h : (Jvm.Cond.not (Jvm.Cond.eq t (Term.int 0))).value args first o s idx = some true) : ¬ n = (0 : Int32) := by
  intro q
  subst q
  simp [Cond.value, ht, Term.eval] at h
set_option maxRecDepth 65536 in
set_option maxHeartbeats 40000000 in
theorem comes_1 {Post : Tables → Env → Array Value → State → Outcome → State → Prop} (hpost : ∀ tb e args s v u, (limb_1_1.after args s (.returned v) u = true ∧ limb_1_2.after args s (.returned v) u = true ∧ True) → FramedW s (.returned v) u (Jvm.fieldLocs frame_1_writes args s ++ Jvm.arrayLocs frame_1_arrays args s ++ Jvm.staticLocs frame_1_statics s) 24 1152 → Post tb e args s (.returned v) u) :
    ArmFor flags0 classFile x code maxLocals ret World_1 tables_1 room_1 Calls_1 rest_1 Pre_1 Post := by
  intro l hfl _ _ p e ha hc hk s m args below hf hA hF happ hP
  obtain ⟨hcalls, hrest, hpre⟩ := hP
  obtain ⟨-, -, -, hnamed, -, -, -, hat⟩ := (Spec.applies_iff hf).mp happ
  obtain ⟨hg, hn⟩ := and_e (Cond.before_iff.mp (show (Jvm.Cond.and given_1 narrow_1).before args s = true from hpre))
  obtain ⟨gc, gr⟩ := and_e hg
  obtain ⟨ga0, gr⟩ := and_e gr
  obtain ⟨ga1, gr⟩ := and_e gr
  obtain ⟨w0, w1, w2, rfl⟩ : ∃ w0 w1 w2 : Value, args = #[w0, w1, w2] := by
    have hs : args.size = 3 := by simpa [Cond.value, given_1] using gc
    obtain ⟨L⟩ := args
    match L, hs with
    | [w0, w1, w2], _ => exact ⟨w0, w1, w2, rfl⟩
  have hw := fun d (hd : d ∈ tables_1) => atoms_spec (ws := Jvm.Cond.code x code maxLocals ret :: tables_1) hat d (List.mem_cons_of_mem _ hd)
  have hfit : Fit s := fun {y c} hc i hi => by
    obtain ⟨ha, rfl⟩ := Array.getElem?_eq_some_iff.mp hc
    have q := List.all_eq_true.mp ((Array.all_eq_true_iff_forall_mem.mp hF) _ (Array.getElem_mem ha)) i (List.mem_range.mpr hi)
    simpa [Array.getElem?_eq_getElem hi] using q
  obtain ⟨i0, ei0⟩ := is_v ga0
  obtain rfl : w0 = (.int i0) := Option.some.inj ei0
  obtain ⟨i1, ei1⟩ := is_v ga1
  obtain rfl : w1 = (.int i1) := Option.some.inj ei1
  obtain ⟨i2, ei2⟩ := is_v gr
  obtain rfl : w2 = (.int i2) := Option.some.inj ei2
  obtain ⟨hsets, hown0⟩ := atoms_of _ (rest_1_c_eq ▸ (show rest_1_c.before _ s = true from hrest))
  obtain ⟨cs, ecs⟩ := is_v (Cond.before_iff.mp (hsets _ (List.mem_of_getElem? (i := 1) rfl)))
  have SC := Sta.start ecs (Or.inl (hsets _ (List.mem_of_getElem? (i := 0) rfl)))
  have hcs : ¬ cs = (0 : Int32) := own_nz ecs (Cond.before_iff.mp (hsets _ (List.mem_of_getElem? (i := 2) rfl)))
  obtain ⟨n, o, h1, h2, h3, _, L, rfl, ⟨rfl, N⟩, hq⟩ := rm0 l s _ hw tables_1 i0 i1 i2  s.heap s.heap.size (Nat.le_refl _) cs SC hcs p e ha hc hk s m _ below hf ((Spec.applies_iff_loose hf).mp happ).1 ⟨rfl, State.Warmed39.refl s, rfl⟩ trivial
  refine ⟨n, _, h1, h2, h3, hpost _ _ _ _ _ _ ⟨Cond.after_iff.mpr rfl, Cond.after_iff.mpr (eq_i res_at (Term.int_eval (1)) rfl), trivial⟩ ⟨hq.1, hq.2.1, hq.2.2.1, (hq.2.2.2.sift fun y hy => Or.inr (N y hy)).mono (by decide) (by decide)⟩⟩
theorem main_1_1 : Claimed_1_1 := comes_1 fun _ _ _ _ _ _ h hF => ⟨h.1, hF⟩
theorem main_1_2 : Claimed_1_2 := comes_1 fun _ _ _ _ _ _ h hF => ⟨h.2.1, hF⟩
end Jvm.Pilot.@@N@@
namespace Jvm.Pilot.@@N@@
open Jvm Jvm.ClassFile Sem Op Lib Jvm.Free Jvm.Stand Jvm.Pilot.@@N@@.Jvm.D
/-! MADE BY PROGRAM (witnessworld.py) out of the Statement's table words and the real class files: 18 classes; the members and pool entries that the words name. The judged class is class 1, her method 1. -/
namespace start1
open Jvm.ClassFile
def u (s : String) : CpInfo := .utf8 (stringToUtf16 s)
/-- a pool by its gaps: so many unusable entries, then the entry; so many at the end -/
def gap : Nat → List CpInfo → List CpInfo
  | 0, r => r
  | n + 1, r => .unusable :: gap n r
def poolList (es : List (Nat × CpInfo)) (last : Nat) : List CpInfo := es.foldr (fun e r => gap e.1 (e.2 :: r)) (gap last [])
def pool (es : List (Nat × CpInfo)) (last : Nat) : Array CpInfo := ⟨poolList es last⟩
def fileOf (pool : Array CpInfo) (this : Nat) (attrs : Array Attribute := #[]) (ms : Array MethodInfo := #[]) (fl : Nat := 33) (sup : Nat := 0) (ifs : Array Nat := #[]) (fds : Array FieldInfo := #[]) : ClassFile where
  minorVersion := 0
  majorVersion := 65
  constantPool := pool
  accessFlags := fl
  thisClass := this
  superClass := sup
  interfaces := ifs
  fields := fds
  methods := ms
  attributes := attrs
def plain (name : String) (sup : Option ClassId) : Class where
  name := name
  kind := .ordinary
  loader := none
  accessFlags := 33
  super := sup
  interfaces := #[]
  cf := none
  fields := #[]
  methods := #[]
  instanceTypes := #[]
  staticTypes := #[]
  resolved := #[]
  callSites := []
  init := .initialized
  statics := none
  mirror := none

def pool0 : Array CpInfo := pool [(5, u "<init>"), (0, u "()V"), (1, .class_ 10), (1, u "java/lang/Object")] 113

def k0c0 : Code := { maxStack := 0, maxLocals := 1, code := object_method_1_code, exceptionTable := #[], attributes := #[] }
def k0m0 : Method := { name := "<init>", desc := "()V", sig := { parameters := [], returnType := none }, accessFlags := 1, code := some k0c0 }
/-- java/lang/Object -/
def k0 : Class := { plain "java/lang/Object" none with
  accessFlags := 33
  interfaces := #[]
  cf := some (fileOf pool0 8 #[] #[{ accessFlags := 1, nameIndex := 5, descriptorIndex := 6, attributes := #[] }] 33 0 #[] #[])
  fields := #[]
  methods := #[k0m0]
  instanceTypes := #[]
  staticTypes := #[]
  resolved := Array.replicate 124 none
  statics := none }

def pool1 : Array CpInfo := pool [(2, .class_ 4), (1, u "java/lang/Object"), (0, u "<init>"), (0, u "()V"), (0, .methodref 8 9), (0, .class_ 10), (0, .nameAndType 11 12), (0, u "com/example/bertilak/bertilak/model/NameTestDefaultPriorityPinLaw"), (0, u "drawn"), (0, u "(I)Ljava/lang/String;"), (0, .class_ 14), (0, u "com/example/bertilak/bertilak/model/NameTest"), (0, .methodref 13 16), (0, .nameAndType 5 17), (0, u "(Ljava/lang/String;Ljava/lang/String;)V"), (0, .methodref 13 19), (0, .nameAndType 20 21), (0, u "defaultPriority"), (0, u "()D"), (0, .double 13821547256400052224), (1, .double 13826050856027422720), (1, .string 27), (0, u ""), (0, .methodref 29 30), (0, .class_ 31), (0, .nameAndType 32 33), (0, u "java/lang/String"), (0, u "valueOf"), (0, u "(C)Ljava/lang/String;"), (2, u "law"), (0, u "(III)Z")] 3

def k1m0 : Method := { name := "<init>", desc := "()V", sig := { parameters := [], returnType := none }, accessFlags := 1, code := none }
def k1c1 : Code := { maxStack := 4, maxLocals := 12, code := code, exceptionTable := #[], attributes := #[] }
def k1m1 : Method := { name := "law", desc := "(III)Z", sig := { parameters := [.int, .int, .int], returnType := some .boolean }, accessFlags := 9, code := some k1c1 }
def k1c2 : Code := { maxStack := 2, maxLocals := 1, code := method_3_code, exceptionTable := #[], attributes := #[] }
def k1m2 : Method := { name := "drawn", desc := "(I)Ljava/lang/String;", sig := { parameters := [.int], returnType := some (.object "java/lang/String") }, accessFlags := 10, code := some k1c2 }
/-- com/example/bertilak/bertilak/model/NameTestDefaultPriorityPinLaw -/
def k1 : Class := { plain "com/example/bertilak/bertilak/model/NameTestDefaultPriorityPinLaw" (some 0) with
  accessFlags := 49
  interfaces := #[]
  cf := some (fileOf pool1 8 #[] #[{ accessFlags := 1, nameIndex := 5, descriptorIndex := 6, attributes := #[] }, { accessFlags := 9, nameIndex := 36, descriptorIndex := 37, attributes := #[] }, { accessFlags := 10, nameIndex := 11, descriptorIndex := 12, attributes := #[] }] 49 2 #[] #[])
  fields := #[]
  methods := #[k1m0, k1m1, k1m2]
  instanceTypes := #[]
  staticTypes := #[]
  resolved := Array.replicate 41 none
  statics := none }

def pool2 : Array CpInfo := pool [(1, .class_ 2), (0, u "com/example/bertilak/bertilak/model/NodeTest"), (0, .class_ 4), (0, u "java/lang/Object")] 13

/-- com/example/bertilak/bertilak/model/NodeTest -/
def k2 : Class := { plain "com/example/bertilak/bertilak/model/NodeTest" (some 0) with
  accessFlags := 1537
  interfaces := #[]
  cf := some (fileOf pool2 1 #[] #[] 1537 3 #[] #[])
  fields := #[]
  methods := #[]
  instanceTypes := #[]
  staticTypes := #[]
  resolved := Array.replicate 18 none
  statics := none }

def pool3 : Array CpInfo := pool [(1, .methodref 2 3), (0, .class_ 4), (0, .nameAndType 5 6), (0, u "java/lang/Object"), (0, u "<init>"), (0, u "()V"), (0, .fieldref 8 9), (0, .class_ 10), (0, .nameAndType 11 12), (0, u "com/example/bertilak/bertilak/model/NameTest"), (0, u "_namespaceUri"), (0, u "Ljava/lang/String;"), (0, .fieldref 8 14), (0, .nameAndType 15 12), (0, u "_localName"), (36, .double 13821547256400052224), (1, .double 13826050856027422720), (1, .class_ 57), (0, u "com/example/bertilak/bertilak/model/NodeTest"), (0, u "(Ljava/lang/String;Ljava/lang/String;)V"), (8, u "defaultPriority"), (0, u "()D")] 17

def k3c0 : Code := { maxStack := 2, maxLocals := 3, code := prog_148_method_1_code, exceptionTable := #[], attributes := #[] }
def k3m0 : Method := { name := "<init>", desc := "(Ljava/lang/String;Ljava/lang/String;)V", sig := { parameters := [(.object "java/lang/String"), (.object "java/lang/String")], returnType := none }, accessFlags := 1, code := some k3c0 }
def k3c1 : Code := { maxStack := 2, maxLocals := 1, code := prog_148_method_6_code, exceptionTable := #[], attributes := #[] }
def k3m1 : Method := { name := "defaultPriority", desc := "()D", sig := { parameters := [], returnType := some .double }, accessFlags := 1, code := some k3c1 }
/-- com/example/bertilak/bertilak/model/NameTest -/
def k3 : Class := { plain "com/example/bertilak/bertilak/model/NameTest" (some 0) with
  accessFlags := 49
  interfaces := #[2]
  cf := some (fileOf pool3 8 #[] #[{ accessFlags := 1, nameIndex := 5, descriptorIndex := 58, attributes := #[] }, { accessFlags := 1, nameIndex := 67, descriptorIndex := 68, attributes := #[] }] 49 2 #[56] #[{ accessFlags := 18, nameIndex := 11, descriptorIndex := 12, attributes := #[] }, { accessFlags := 18, nameIndex := 15, descriptorIndex := 12, attributes := #[] }])
  fields := #[{ name := "_namespaceUri", type := (.object "java/lang/String"), accessFlags := 18, slot := 0, constantValue := 0 }, { name := "_localName", type := (.object "java/lang/String"), accessFlags := 18, slot := 1, constantValue := 0 }]
  methods := #[k3m0, k3m1]
  instanceTypes := #[(.object "java/lang/String"), (.object "java/lang/String")]
  staticTypes := #[]
  resolved := Array.replicate 86 none
  statics := none }

def pool4 : Array CpInfo := pool [(1, .class_ 2), (0, u "java/io/Serializable"), (0, .class_ 4), (0, u "java/lang/Object")] 2

/-- java/io/Serializable -/
def k4 : Class := { plain "java/io/Serializable" (some 0) with
  accessFlags := 1537
  interfaces := #[]
  cf := some (fileOf pool4 1 #[] #[] 1537 3 #[] #[])
  fields := #[]
  methods := #[]
  instanceTypes := #[]
  staticTypes := #[]
  resolved := Array.replicate 7 none
  statics := none }

def pool5 : Array CpInfo := pool [(1, .class_ 2), (0, u "java/lang/Comparable"), (0, .class_ 4), (0, u "java/lang/Object")] 7

/-- java/lang/Comparable -/
def k5 : Class := { plain "java/lang/Comparable" (some 0) with
  accessFlags := 1537
  interfaces := #[]
  cf := some (fileOf pool5 1 #[] #[] 1537 3 #[] #[])
  fields := #[]
  methods := #[]
  instanceTypes := #[]
  staticTypes := #[]
  resolved := Array.replicate 12 none
  statics := none }

def pool6 : Array CpInfo := pool [(2, .class_ 4), (1, u "java/lang/CharSequence"), (42, .class_ 48), (0, u "java/lang/CharSequence$1CodePointIterator"), (10, .class_ 60), (0, u "java/lang/CharSequence$1CharIterator"), (5, .class_ 67), (0, u "java/lang/Object")] 63

/-- java/lang/CharSequence -/
def k6 : Class := { plain "java/lang/CharSequence" (some 0) with
  accessFlags := 1537
  interfaces := #[]
  cf := some (fileOf pool6 2 #[.nestMembers #[47, 59]] #[] 1537 66 #[] #[])
  fields := #[]
  methods := #[]
  instanceTypes := #[]
  staticTypes := #[]
  resolved := Array.replicate 131 none
  statics := none }

def pool7 : Array CpInfo := pool [(1, .class_ 2), (0, u "java/lang/constant/Constable"), (0, .class_ 4), (0, u "java/lang/Object")] 6

/-- java/lang/constant/Constable -/
def k7 : Class := { plain "java/lang/constant/Constable" (some 0) with
  accessFlags := 1537
  interfaces := #[]
  cf := some (fileOf pool7 1 #[] #[] 1537 3 #[] #[])
  fields := #[]
  methods := #[]
  instanceTypes := #[]
  staticTypes := #[]
  resolved := Array.replicate 11 none
  statics := none }

def pool8 : Array CpInfo := pool [(1, .class_ 2), (0, u "java/lang/constant/ConstantDesc"), (0, .class_ 4), (0, u "java/lang/Object")] 32

/-- java/lang/constant/ConstantDesc -/
def k8 : Class := { plain "java/lang/constant/ConstantDesc" (some 0) with
  accessFlags := 1537
  interfaces := #[]
  cf := some (fileOf pool8 1 #[] #[] 1537 3 #[] #[])
  fields := #[]
  methods := #[]
  instanceTypes := #[]
  staticTypes := #[]
  resolved := Array.replicate 37 none
  statics := none }

def pool9 : Array CpInfo := pool [(1, .methodref 2 3), (0, .class_ 4), (0, .nameAndType 5 6), (0, u "java/lang/Object"), (0, u "<init>"), (0, u "()V"), (2, .fieldref 10 11), (0, .class_ 12), (0, .nameAndType 13 14), (0, u "java/lang/String"), (0, u "value"), (0, u "[B"), (0, .fieldref 10 16), (0, .nameAndType 17 18), (0, u "coder"), (0, u "B"), (2, u "hash"), (0, u "I"), (2, u "hashIsZero"), (0, u "Z"), (11, .fieldref 10 39), (0, .nameAndType 40 26), (0, u "COMPACT_STRINGS"), (12, u "toBytes"), (53, .class_ 109), (1, u "java/lang/StringLatin1"), (99, .methodref 10 210), (0, .nameAndType 5 211), (0, u "([BB)V"), (157, u "(C)Z"), (205, .class_ 576), (0, u "java/lang/CharSequence"), (22, u "CASE_INSENSITIVE_ORDER"), (0, u "Ljava/util/Comparator;"), (181, u "valueOf"), (0, u "(C)Ljava/lang/String;"), (231, .methodref 107 1016), (0, .nameAndType 1017 369), (0, u "canEncode"), (0, .methodref 107 1019), (0, .nameAndType 53 1020), (0, u "(C)[B"), (80, u "serialPersistentFields"), (0, u "[Ljava/io/ObjectStreamField;"), (0, .class_ 1104), (0, u "java/lang/String$CaseInsensitiveComparator"), (1, .class_ 1107), (0, u "java/io/Serializable"), (0, .class_ 1109), (0, u "java/lang/Comparable"), (0, .class_ 1111), (0, u "java/lang/constant/Constable"), (0, .class_ 1113), (0, u "java/lang/constant/ConstantDesc"), (2, u "serialVersionUID"), (0, u "J"), (3, u "REPL"), (0, u "C"), (2, u "LATIN1"), (1, u "UTF16")] 323

def k9m0 : Method := { name := "<init>", desc := "()V", sig := { parameters := [], returnType := none }, accessFlags := 1, code := none }
def k9c1 : Code := { maxStack := 4, maxLocals := 1, code := jdk_42_method_139_code, exceptionTable := #[], attributes := #[] }
def k9m1 : Method := { name := "valueOf", desc := "(C)Ljava/lang/String;", sig := { parameters := [.char], returnType := some (.object "java/lang/String") }, accessFlags := 9, code := some k9c1 }
def k9c2 : Code := { maxStack := 2, maxLocals := 3, code := jdk_42_method_151_code, exceptionTable := #[], attributes := #[] }
def k9m2 : Method := { name := "<init>", desc := "([BB)V", sig := { parameters := [(.array .byte), .byte], returnType := none }, accessFlags := 0, code := some k9c2 }
/-- java/lang/String -/
def k9 : Class := { plain "java/lang/String" (some 0) with
  accessFlags := 49
  interfaces := #[4, 5, 6, 7, 8]
  cf := some (fileOf pool9 10 #[.nestMembers #[1103]] #[{ accessFlags := 1, nameIndex := 5, descriptorIndex := 6, attributes := #[] }, { accessFlags := 9, nameIndex := 782, descriptorIndex := 783, attributes := #[] }, { accessFlags := 0, nameIndex := 5, descriptorIndex := 211, attributes := #[] }] 49 2 #[1106, 1108, 575, 1110, 1112] #[{ accessFlags := 18, nameIndex := 13, descriptorIndex := 14, attributes := #[] }, { accessFlags := 18, nameIndex := 17, descriptorIndex := 18, attributes := #[] }, { accessFlags := 2, nameIndex := 21, descriptorIndex := 22, attributes := #[] }, { accessFlags := 2, nameIndex := 25, descriptorIndex := 26, attributes := #[] }, { accessFlags := 26, nameIndex := 1116, descriptorIndex := 1117, attributes := #[] }, { accessFlags := 24, nameIndex := 40, descriptorIndex := 26, attributes := #[] }, { accessFlags := 26, nameIndex := 1101, descriptorIndex := 1102, attributes := #[] }, { accessFlags := 26, nameIndex := 1121, descriptorIndex := 1122, attributes := #[] }, { accessFlags := 25, nameIndex := 599, descriptorIndex := 600, attributes := #[] }, { accessFlags := 24, nameIndex := 1125, descriptorIndex := 18, attributes := #[] }, { accessFlags := 24, nameIndex := 1127, descriptorIndex := 18, attributes := #[] }])
  fields := #[{ name := "value", type := (.array .byte), accessFlags := 18, slot := 0, constantValue := 0 }, { name := "coder", type := .byte, accessFlags := 18, slot := 1, constantValue := 0 }, { name := "hash", type := .int, accessFlags := 2, slot := 2, constantValue := 0 }, { name := "hashIsZero", type := .boolean, accessFlags := 2, slot := 3, constantValue := 0 }, { name := "serialVersionUID", type := .long, accessFlags := 26, slot := 0, constantValue := 0 }, { name := "COMPACT_STRINGS", type := .boolean, accessFlags := 24, slot := 1, constantValue := 0 }, { name := "serialPersistentFields", type := (.array (.object "java/io/ObjectStreamField")), accessFlags := 26, slot := 2, constantValue := 0 }, { name := "REPL", type := .char, accessFlags := 26, slot := 3, constantValue := 0 }, { name := "CASE_INSENSITIVE_ORDER", type := (.object "java/util/Comparator"), accessFlags := 25, slot := 4, constantValue := 0 }, { name := "LATIN1", type := .byte, accessFlags := 24, slot := 5, constantValue := 0 }, { name := "UTF16", type := .byte, accessFlags := 24, slot := 6, constantValue := 0 }]
  methods := #[k9m0, k9m1, k9m2]
  instanceTypes := #[(.array .byte), .byte, .int, .boolean]
  staticTypes := #[.long, .boolean, (.array (.object "java/io/ObjectStreamField")), .char, (.object "java/util/Comparator"), .byte, .byte]
  resolved := Array.replicate 1451 none
  statics := some 0 }

def pool10 : Array CpInfo := pool [(4, .class_ 6), (1, u "java/lang/Object"), (0, u "<init>"), (0, u "()V"), (5, .class_ 16), (1, u "java/lang/StringLatin1"), (73, u "canEncode"), (14, u "(C)Z"), (15, u "$assertionsDisabled"), (0, u "Z"), (98, .class_ 223), (1, u "java/lang/StringLatin1$LinesSpliterator"), (156, u "toBytes"), (1, u "(C)[B"), (7, .class_ 391), (0, u "java/lang/StringLatin1$CharsSpliterator")] 3

def k10m0 : Method := { name := "<init>", desc := "()V", sig := { parameters := [], returnType := none }, accessFlags := 0, code := none }
def k10c1 : Code := { maxStack := 2, maxLocals := 1, code := jdk_43_method_3_code, exceptionTable := #[], attributes := #[] }
def k10m1 : Method := { name := "canEncode", desc := "(C)Z", sig := { parameters := [.char], returnType := some .boolean }, accessFlags := 9, code := some k10c1 }
def k10c2 : Code := { maxStack := 4, maxLocals := 1, code := jdk_43_method_46_code, exceptionTable := #[], attributes := #[] }
def k10m2 : Method := { name := "toBytes", desc := "(C)[B", sig := { parameters := [.char], returnType := some (.array .byte) }, accessFlags := 9, code := some k10c2 }
/-- java/lang/StringLatin1 -/
def k10 : Class := { plain "java/lang/StringLatin1" (some 0) with
  accessFlags := 48
  interfaces := #[]
  cf := some (fileOf pool10 14 #[.nestMembers #[390, 221]] #[{ accessFlags := 0, nameIndex := 7, descriptorIndex := 8, attributes := #[] }, { accessFlags := 9, nameIndex := 90, descriptorIndex := 105, attributes := #[] }, { accessFlags := 9, nameIndex := 380, descriptorIndex := 382, attributes := #[] }] 48 4 #[] #[{ accessFlags := 4120, nameIndex := 121, descriptorIndex := 122, attributes := #[] }])
  fields := #[{ name := "$assertionsDisabled", type := .boolean, accessFlags := 4120, slot := 0, constantValue := 0 }]
  methods := #[k10m0, k10m1, k10m2]
  instanceTypes := #[]
  staticTypes := #[.boolean]
  resolved := Array.replicate 395 none
  statics := none }

def pool11 : Array CpInfo := pool [(2, .class_ 4), (1, u "java/lang/Object"), (0, u "<init>"), (0, u "()V"), (17, .class_ 26), (1, u "jdk/internal/util/Preconditions"), (28, .class_ 56), (0, u "jdk/internal/util/Preconditions$4"), (57, .class_ 115), (0, u "jdk/internal/util/Preconditions$1"), (7, u "SIOOBE_FORMATTER"), (0, u "Ljava/util/function/BiFunction;"), (0, .class_ 126), (0, u "jdk/internal/util/Preconditions$2"), (3, u "AIOOBE_FORMATTER"), (0, .class_ 132), (0, u "jdk/internal/util/Preconditions$3"), (3, u "IOOBE_FORMATTER")] 57

def k11m0 : Method := { name := "<init>", desc := "()V", sig := { parameters := [], returnType := none }, accessFlags := 1, code := none }
/-- jdk/internal/util/Preconditions -/
def k11 : Class := { plain "jdk/internal/util/Preconditions" (some 0) with
  accessFlags := 33
  interfaces := #[]
  cf := some (fileOf pool11 24 #[.nestMembers #[55, 131, 125, 114]] #[{ accessFlags := 1, nameIndex := 5, descriptorIndex := 6, attributes := #[] }] 33 2 #[] #[{ accessFlags := 25, nameIndex := 123, descriptorIndex := 124, attributes := #[] }, { accessFlags := 25, nameIndex := 130, descriptorIndex := 124, attributes := #[] }, { accessFlags := 25, nameIndex := 136, descriptorIndex := 124, attributes := #[] }])
  fields := #[{ name := "SIOOBE_FORMATTER", type := (.object "java/util/function/BiFunction"), accessFlags := 25, slot := 0, constantValue := 0 }, { name := "AIOOBE_FORMATTER", type := (.object "java/util/function/BiFunction"), accessFlags := 25, slot := 1, constantValue := 0 }, { name := "IOOBE_FORMATTER", type := (.object "java/util/function/BiFunction"), accessFlags := 25, slot := 2, constantValue := 0 }]
  methods := #[k11m0]
  instanceTypes := #[]
  staticTypes := #[(.object "java/util/function/BiFunction"), (.object "java/util/function/BiFunction"), (.object "java/util/function/BiFunction")]
  resolved := Array.replicate 194 none
  statics := some 1 }

def pool12 : Array CpInfo := pool [(9, u "<init>"), (6, .class_ 18), (1, u "java/lang/Object"), (0, u "()V"), (1, .class_ 23), (1, u "jdk/internal/util/ArraysSupport"), (0, u "LOG2_ARRAY_LONG_INDEX_SCALE"), (0, u "I"), (2, u "U"), (0, u "Ljdk/internal/misc/Unsafe;"), (8, u "BIG_ENDIAN"), (0, u "Z"), (8, u "LOG2_BYTE_BIT_SIZE"), (4, u "LOG2_ARRAY_INT_INDEX_SCALE"), (54, u "JLA"), (0, u "Ljdk/internal/access/JavaLangAccess;"), (11, u "LOG2_ARRAY_BOOLEAN_INDEX_SCALE"), (9, u "LOG2_ARRAY_BYTE_INDEX_SCALE"), (5, u "LOG2_ARRAY_CHAR_INDEX_SCALE"), (5, u "LOG2_ARRAY_SHORT_INDEX_SCALE"), (18, u "LOG2_ARRAY_FLOAT_INDEX_SCALE"), (24, u "LOG2_ARRAY_DOUBLE_INDEX_SCALE"), (89, u "T_BOOLEAN"), (2, u "T_CHAR"), (1, u "T_FLOAT"), (1, u "T_DOUBLE"), (1, u "T_BYTE"), (1, u "T_SHORT"), (1, u "T_INT"), (1, u "T_LONG"), (1, u "SOFT_MAX_ARRAY_LENGTH")] 83

def k12m0 : Method := { name := "<init>", desc := "()V", sig := { parameters := [], returnType := none }, accessFlags := 2, code := none }
/-- jdk/internal/util/ArraysSupport -/
def k12 : Class := { plain "jdk/internal/util/ArraysSupport" (some 0) with
  accessFlags := 33
  interfaces := #[]
  cf := some (fileOf pool12 21 #[] #[{ accessFlags := 2, nameIndex := 9, descriptorIndex := 19, attributes := #[] }] 33 16 #[] #[{ accessFlags := 24, nameIndex := 28, descriptorIndex := 29, attributes := #[] }, { accessFlags := 26, nameIndex := 38, descriptorIndex := 39, attributes := #[] }, { accessFlags := 25, nameIndex := 121, descriptorIndex := 25, attributes := #[] }, { accessFlags := 25, nameIndex := 131, descriptorIndex := 25, attributes := #[] }, { accessFlags := 25, nameIndex := 137, descriptorIndex := 25, attributes := #[] }, { accessFlags := 25, nameIndex := 143, descriptorIndex := 25, attributes := #[] }, { accessFlags := 25, nameIndex := 53, descriptorIndex := 25, attributes := #[] }, { accessFlags := 25, nameIndex := 24, descriptorIndex := 25, attributes := #[] }, { accessFlags := 25, nameIndex := 162, descriptorIndex := 25, attributes := #[] }, { accessFlags := 25, nameIndex := 187, descriptorIndex := 25, attributes := #[] }, { accessFlags := 26, nameIndex := 48, descriptorIndex := 25, attributes := #[] }, { accessFlags := 25, nameIndex := 277, descriptorIndex := 25, attributes := #[] }, { accessFlags := 25, nameIndex := 280, descriptorIndex := 25, attributes := #[] }, { accessFlags := 25, nameIndex := 282, descriptorIndex := 25, attributes := #[] }, { accessFlags := 25, nameIndex := 284, descriptorIndex := 25, attributes := #[] }, { accessFlags := 25, nameIndex := 286, descriptorIndex := 25, attributes := #[] }, { accessFlags := 25, nameIndex := 288, descriptorIndex := 25, attributes := #[] }, { accessFlags := 25, nameIndex := 290, descriptorIndex := 25, attributes := #[] }, { accessFlags := 25, nameIndex := 292, descriptorIndex := 25, attributes := #[] }, { accessFlags := 26, nameIndex := 108, descriptorIndex := 109, attributes := #[] }, { accessFlags := 25, nameIndex := 294, descriptorIndex := 25, attributes := #[] }])
  fields := #[{ name := "U", type := (.object "jdk/internal/misc/Unsafe"), accessFlags := 24, slot := 0, constantValue := 0 }, { name := "BIG_ENDIAN", type := .boolean, accessFlags := 26, slot := 1, constantValue := 0 }, { name := "LOG2_ARRAY_BOOLEAN_INDEX_SCALE", type := .int, accessFlags := 25, slot := 2, constantValue := 0 }, { name := "LOG2_ARRAY_BYTE_INDEX_SCALE", type := .int, accessFlags := 25, slot := 3, constantValue := 0 }, { name := "LOG2_ARRAY_CHAR_INDEX_SCALE", type := .int, accessFlags := 25, slot := 4, constantValue := 0 }, { name := "LOG2_ARRAY_SHORT_INDEX_SCALE", type := .int, accessFlags := 25, slot := 5, constantValue := 0 }, { name := "LOG2_ARRAY_INT_INDEX_SCALE", type := .int, accessFlags := 25, slot := 6, constantValue := 0 }, { name := "LOG2_ARRAY_LONG_INDEX_SCALE", type := .int, accessFlags := 25, slot := 7, constantValue := 0 }, { name := "LOG2_ARRAY_FLOAT_INDEX_SCALE", type := .int, accessFlags := 25, slot := 8, constantValue := 0 }, { name := "LOG2_ARRAY_DOUBLE_INDEX_SCALE", type := .int, accessFlags := 25, slot := 9, constantValue := 0 }, { name := "LOG2_BYTE_BIT_SIZE", type := .int, accessFlags := 26, slot := 10, constantValue := 0 }, { name := "T_BOOLEAN", type := .int, accessFlags := 25, slot := 11, constantValue := 0 }, { name := "T_CHAR", type := .int, accessFlags := 25, slot := 12, constantValue := 0 }, { name := "T_FLOAT", type := .int, accessFlags := 25, slot := 13, constantValue := 0 }, { name := "T_DOUBLE", type := .int, accessFlags := 25, slot := 14, constantValue := 0 }, { name := "T_BYTE", type := .int, accessFlags := 25, slot := 15, constantValue := 0 }, { name := "T_SHORT", type := .int, accessFlags := 25, slot := 16, constantValue := 0 }, { name := "T_INT", type := .int, accessFlags := 25, slot := 17, constantValue := 0 }, { name := "T_LONG", type := .int, accessFlags := 25, slot := 18, constantValue := 0 }, { name := "JLA", type := (.object "jdk/internal/access/JavaLangAccess"), accessFlags := 26, slot := 19, constantValue := 0 }, { name := "SOFT_MAX_ARRAY_LENGTH", type := .int, accessFlags := 25, slot := 20, constantValue := 0 }]
  methods := #[k12m0]
  instanceTypes := #[]
  staticTypes := #[(.object "jdk/internal/misc/Unsafe"), .boolean, .int, .int, .int, .int, .int, .int, .int, .int, .int, .int, .int, .int, .int, .int, .int, .int, .int, (.object "jdk/internal/access/JavaLangAccess"), .int]
  resolved := Array.replicate 378 none
  statics := none }

def pool13 : Array CpInfo := pool [(1, u "java/lang/Cloneable"), (0, .class_ 1), (0, u "java/lang/Object"), (0, .class_ 3)] 3

/-- java/lang/Cloneable -/
def k13 : Class := { plain "java/lang/Cloneable" (some 0) with
  accessFlags := 1537
  interfaces := #[]
  cf := some (fileOf pool13 2 #[] #[] 1537 4 #[] #[])
  fields := #[]
  methods := #[]
  instanceTypes := #[]
  staticTypes := #[]
  resolved := Array.replicate 8 none
  statics := none }

/-- the primitive byte -/
def k14 : Class := { plain "byte" none with kind := .primitive 'B', accessFlags := 0x411 }
/-- [B -/
def k15 : Class := { plain "[B" (some 0) with kind := .array 14 .byte, interfaces := #[13, 4], accessFlags := 1041 }

/-- the primitive int -/
def k16 : Class := { plain "int" none with kind := .primitive 'I', accessFlags := 0x411 }
/-- [I -/
def k17 : Class := { plain "[I" (some 0) with kind := .array 16 .int, interfaces := #[13, 4], accessFlags := 1041 }

def heap : Heap := #[{ cls := 9, slots := #[.long 0, .int 1, .null, .int 0, .null, .int 0, .int 0], vm := .statics 9 },
  { cls := 11, slots := #[.null, .null, .null], vm := .statics 11 }]
def classes : Array Class := #[k0, k1, k2, k3, k4, k5, k6, k7, k8, k9, k10, k11, k12, k13, k14, k15, k16, k17]
def interned : List (Array UInt16 × Addr) := []
def slotsUsed : Nat := 10
def theMethod : MethodId := ⟨1, 1⟩
def args0 : Array Value := #[.int 3, .int 1, .int 2]
def aboutOver (below : List Frame) : State where
  vm := { classes := classes, interned := interned.toArray }
  heap := heap
  slotsUsed := slotsUsed
  threads := #[{ frames := .invoking theMethod args0 :: below }]
def below0 : List Frame := [.native { method := ⟨0, 0⟩, args := #[] }]
def about1 : State := aboutOver below0
def p0 : Program := .bare "" "" ""
def e0 : Env := launch0.env 0 0 0
theorem w_frames : about1.frames = Frame.invoking theMethod args0 :: below0 := rfl
set_option maxRecDepth 65536 in
theorem w_args : argsFit about1.vm theMethod args0 = true := by decide +kernel
set_option maxRecDepth 65536 in
theorem w_heap : heapFits about1 = true := by decide +kernel
set_option maxRecDepth 65536 in
theorem w_runnable : about1.curStatus? = some .runnable := by decide +kernel
set_option maxRecDepth 65536 in
theorem w_alone : about1.alone = true := by decide +kernel
set_option maxRecDepth 65536 in
theorem w_named : about1.methodNamed? x = some theMethod := by decide +kernel
set_option maxRecDepth 65536 in
theorem w_hears : about1.hears theMethod below0 = true := by decide +kernel
set_option maxRecDepth 65536 in
theorem w_ripe : about1.ripe theMethod args0 below0 = true := by decide +kernel
theorem w_running : about1.status = .running := rfl
set_option maxRecDepth 65536 in
theorem w_room : about1.hasRoom e0.platform room_1 = true :=
  launch0.hasRoom_least _ room_1 (by decide +kernel) (by decide +kernel) (by decide +kernel) (by decide +kernel) (by decide +kernel) (by decide +kernel)
theorem allAtoms_all (ts : List Jvm.Cond) (a : Array Jvm.Value) (st : Jvm.State) : (allAtoms ts).before a st = ts.all (fun c => c.before a st) := by
  induction ts with
  | nil => rfl
  | cons c t ih =>
    show (Jvm.Cond.and c (allAtoms t)).before a st = _
    rw [Jvm.Cond.before_and, ih, List.all_cons]
def words1 : List Jvm.Cond := Jvm.Cond.code x code maxLocals ret :: tables_1
/-- a 'code' word, met by the world's own term for the bytes: nothing is compared byte by byte -/
theorem code_word {y : MethodName} {bytes : ByteArray} {mx : Nat} {rt : Option FieldType} {a : Array Value} {s : State} {m : MethodId} {meth : Method} {c : Code} (h1 : s.methodNamed? y = some m) (h2 : s.vm.method? m = some meth) (h3 : meth.code = some c) (h4 : c.code = bytes)
    (h5 : (c.maxLocals == mx && c.exceptionTable.isEmpty && decide (c.maxStack ≤ mostOperands) && decide (meth.sig.returnType = rt) && !meth.locks && decide (parseMethodDescriptor y.desc = some meth.sig)) = true) : (Jvm.Cond.code y bytes mx rt).before a s = true := by
  simp only [Bool.and_eq_true, beq_iff_eq, Bool.not_eq_true', decide_eq_true_eq] at h5
  obtain ⟨⟨⟨⟨⟨g1, g2⟩, g3⟩, g4⟩, g5⟩, g6⟩ := h5
  simp [Cond.before, Cond.holds, Cond.value, h1, h2, h3, h4, g1, g2, g3, g4, g5, g6]
def isCode : Jvm.Cond → Bool
  | .code _ _ _ _ => true
  | _ => false
theorem all_split {L : List Jvm.Cond} {P : Jvm.Cond → Bool} (h1 : L.all (fun c => isCode c || P c) = true) (h2 : ∀ c ∈ L.filter isCode, P c = true) : L.all P = true := by
  refine List.all_eq_true.mpr fun c hc => ?_
  have h := List.all_eq_true.mp h1 c hc
  rcases Bool.eq_false_or_eq_true (isCode c) with hi | hi
  · exact h2 c (List.mem_filter.mpr ⟨hc, hi⟩)
  · simpa [hi] using h
set_option maxRecDepth 65536 in
theorem w_c0 : (Jvm.Cond.code x code maxLocals ret).before args0 about1 = true := code_word (m := ⟨1, 1⟩) (meth := k1m1) (c := k1c1) (by decide +kernel) rfl rfl rfl (by decide +kernel)
set_option maxRecDepth 65536 in
theorem w_c1 : (Jvm.Cond.code ({ cls := "com/example/bertilak/bertilak/model/NameTest", name := "<init>", desc := "(Ljava/lang/String;Ljava/lang/String;)V" } : Jvm.MethodName) prog_148_method_1_code (3 : Nat) (Option.none : Option Jvm.ClassFile.FieldType)).before args0 about1 = true := code_word (m := ⟨3, 0⟩) (meth := k3m0) (c := k3c0) (by decide +kernel) rfl rfl rfl (by decide +kernel)
set_option maxRecDepth 65536 in
theorem w_c2 : (Jvm.Cond.code ({ cls := "java/lang/Object", name := "<init>", desc := "()V" } : Jvm.MethodName) object_method_1_code (1 : Nat) (Option.none : Option Jvm.ClassFile.FieldType)).before args0 about1 = true := code_word (m := ⟨0, 0⟩) (meth := k0m0) (c := k0c0) (by decide +kernel) rfl rfl rfl (by decide +kernel)
set_option maxRecDepth 65536 in
theorem w_c3 : (Jvm.Cond.code ({ cls := "com/example/bertilak/bertilak/model/NameTest", name := "defaultPriority", desc := "()D" } : Jvm.MethodName) prog_148_method_6_code (1 : Nat) (Option.some Jvm.ClassFile.FieldType.double)).before args0 about1 = true := code_word (m := ⟨3, 1⟩) (meth := k3m1) (c := k3c1) (by decide +kernel) rfl rfl rfl (by decide +kernel)
set_option maxRecDepth 65536 in
theorem w_c4 : (Jvm.Cond.code ({ cls := "com/example/bertilak/bertilak/model/NameTestDefaultPriorityPinLaw", name := "drawn", desc := "(I)Ljava/lang/String;" } : Jvm.MethodName) method_3_code (1 : Nat) (Option.some (Jvm.ClassFile.FieldType.object "java/lang/String"))).before args0 about1 = true := code_word (m := ⟨1, 2⟩) (meth := k1m2) (c := k1c2) (by decide +kernel) rfl rfl rfl (by decide +kernel)
set_option maxRecDepth 65536 in
theorem w_c5 : (Jvm.Cond.code ({ cls := "java/lang/String", name := "valueOf", desc := "(C)Ljava/lang/String;" } : Jvm.MethodName) jdk_42_method_139_code (1 : Nat) (Option.some (Jvm.ClassFile.FieldType.object "java/lang/String"))).before args0 about1 = true := code_word (m := ⟨9, 1⟩) (meth := k9m1) (c := k9c1) (by decide +kernel) rfl rfl rfl (by decide +kernel)
set_option maxRecDepth 65536 in
theorem w_c6 : (Jvm.Cond.code ({ cls := "java/lang/StringLatin1", name := "canEncode", desc := "(C)Z" } : Jvm.MethodName) jdk_43_method_3_code (1 : Nat) (Option.some Jvm.ClassFile.FieldType.boolean)).before args0 about1 = true := code_word (m := ⟨10, 1⟩) (meth := k10m1) (c := k10c1) (by decide +kernel) rfl rfl rfl (by decide +kernel)
set_option maxRecDepth 65536 in
theorem w_c7 : (Jvm.Cond.code ({ cls := "java/lang/StringLatin1", name := "toBytes", desc := "(C)[B" } : Jvm.MethodName) jdk_43_method_46_code (1 : Nat) (Option.some (Jvm.ClassFile.FieldType.array Jvm.ClassFile.FieldType.byte))).before args0 about1 = true := code_word (m := ⟨10, 2⟩) (meth := k10m2) (c := k10c2) (by decide +kernel) rfl rfl rfl (by decide +kernel)
set_option maxRecDepth 65536 in
theorem w_c8 : (Jvm.Cond.code ({ cls := "java/lang/String", name := "<init>", desc := "([BB)V" } : Jvm.MethodName) jdk_42_method_151_code (3 : Nat) (Option.none : Option Jvm.ClassFile.FieldType)).before args0 about1 = true := code_word (m := ⟨9, 2⟩) (meth := k9m2) (c := k9c2) (by decide +kernel) rfl rfl rfl (by decide +kernel)
def codes1 : List Jvm.Cond := [Jvm.Cond.code x code maxLocals ret, Jvm.Cond.code ({ cls := "com/example/bertilak/bertilak/model/NameTest", name := "<init>", desc := "(Ljava/lang/String;Ljava/lang/String;)V" } : Jvm.MethodName) prog_148_method_1_code (3 : Nat) (Option.none : Option Jvm.ClassFile.FieldType), Jvm.Cond.code ({ cls := "java/lang/Object", name := "<init>", desc := "()V" } : Jvm.MethodName) object_method_1_code (1 : Nat) (Option.none : Option Jvm.ClassFile.FieldType), Jvm.Cond.code ({ cls := "com/example/bertilak/bertilak/model/NameTest", name := "defaultPriority", desc := "()D" } : Jvm.MethodName) prog_148_method_6_code (1 : Nat) (Option.some Jvm.ClassFile.FieldType.double), Jvm.Cond.code ({ cls := "com/example/bertilak/bertilak/model/NameTestDefaultPriorityPinLaw", name := "drawn", desc := "(I)Ljava/lang/String;" } : Jvm.MethodName) method_3_code (1 : Nat) (Option.some (Jvm.ClassFile.FieldType.object "java/lang/String")), Jvm.Cond.code ({ cls := "java/lang/String", name := "valueOf", desc := "(C)Ljava/lang/String;" } : Jvm.MethodName) jdk_42_method_139_code (1 : Nat) (Option.some (Jvm.ClassFile.FieldType.object "java/lang/String")), Jvm.Cond.code ({ cls := "java/lang/StringLatin1", name := "canEncode", desc := "(C)Z" } : Jvm.MethodName) jdk_43_method_3_code (1 : Nat) (Option.some Jvm.ClassFile.FieldType.boolean), Jvm.Cond.code ({ cls := "java/lang/StringLatin1", name := "toBytes", desc := "(C)[B" } : Jvm.MethodName) jdk_43_method_46_code (1 : Nat) (Option.some (Jvm.ClassFile.FieldType.array Jvm.ClassFile.FieldType.byte)), Jvm.Cond.code ({ cls := "java/lang/String", name := "<init>", desc := "([BB)V" } : Jvm.MethodName) jdk_42_method_151_code (3 : Nat) (Option.none : Option Jvm.ClassFile.FieldType)]
set_option maxRecDepth 65536 in
theorem codes_eq : words1.filter isCode = codes1 := rfl
theorem w_codes : ∀ c ∈ words1.filter isCode, c.before args0 about1 = true := by
  rw [codes_eq]
  intro c hc
  simp only [codes1, List.mem_cons, List.not_mem_nil, or_false] at hc
  rcases hc with rfl | rfl | rfl | rfl | rfl | rfl | rfl | rfl | rfl
  · exact w_c0
  · exact w_c1
  · exact w_c2
  · exact w_c3
  · exact w_c4
  · exact w_c5
  · exact w_c6
  · exact w_c7
  · exact w_c8
set_option maxRecDepth 65536 in
theorem w_t1 : (words1.take 24).all (fun c => isCode c || c.before args0 about1) = true := by decide +kernel
set_option maxRecDepth 65536 in
theorem w_t2 : ((words1.drop 24).take 24).all (fun c => isCode c || c.before args0 about1) = true := by decide +kernel
set_option maxRecDepth 65536 in
theorem w_t3 : ((words1.drop 24).drop 24).all (fun c => isCode c || c.before args0 about1) = true := by decide +kernel
theorem w_tables : (allAtoms (Jvm.Cond.code x code maxLocals ret :: tables_1)).before args0 about1 = true := by
  rw [allAtoms_all]
  show words1.all (fun c => c.before args0 about1) = true
  refine all_split ?_ w_codes
  rw [← List.take_append_drop 24 words1, List.all_append, w_t1, ← List.take_append_drop 24 (words1.drop 24), List.all_append, w_t2, w_t3]
  rfl
set_option maxRecDepth 65536 in
theorem w_rest : rest_1_c.before args0 about1 = true := by decide +kernel
set_option maxRecDepth 65536 in
theorem w_case : (Jvm.Cond.and given_1 narrow_1).before args0 about1 = true := by decide +kernel
theorem w_applies : (headSpec (Jvm.Cond.code x code maxLocals ret :: tables_1) room_1).applies x e0.platform about1 = true :=
  (Spec.applies_iff w_frames).mpr ⟨w_running, w_runnable, w_alone, w_named, w_hears, w_ripe, w_room, w_tables⟩
theorem atStart : AtStart classFile x code maxLocals ret World_1 tables_1 room_1 Calls_1 rest_1 Pre_1 launch0 p0 e0 about1 theMethod args0 below0 :=
  ⟨lists_1, trivial, launch0.admits_env _ _ _, launch0.least_env, fairChoices_fair.cas, fairChoices_fair.clock, w_frames, w_args, w_heap, w_applies, trivial, w_rest, w_case⟩
end start1
theorem witness_1 : WitnessClaimed_1 := ⟨start1.p0, start1.e0, start1.about1, start1.theMethod, start1.args0, start1.below0, start1.atStart⟩
end Jvm.Pilot.@@N@@
