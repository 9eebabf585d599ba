import JvmDerived
import JvmDerived.Pilot.@@N@@Statement
import JvmDerived.Pilot.@@N@@Code
set_option linter.unusedVariables false
set_option linter.unusedSimpArgs false
namespace Jvm.RoadKit
open Sem ClassFile Op Lib Jvm.Stand Jvm.Free Jvm.LawKit
section New
variable {p : Program} {l : Launch} {e : Env} {R : Room} {s : State} {m : MethodId} {args : Array Value} {below : List Frame} {meth : Method} {c : Code} {T : State} {locs : List Loc} {cells slots : Nat}
theorem retI (X : Stand p l e R s m args below meth c T locs cells slots) (hx : p.tables.exec = Jvm.exec) {pc : Nat} {Ls : Array Slot} {z : Int32} {rest : List Value} (hret : meth.sig.returnType = some .int) (hd : decode c.code pc = .ok (.ireturn, 1)) {fs : List Frame}
    (hl : ∀ (f : JFrame) (acts : List Action), f.method = m → f.locked = none → f.entered = [] → (doReturn e (T.setTop f) acts (some (.int z))).1 = T.setFrames fs) : Steps p.tables e below (T.setTop (mkF m pc Ls (.int z :: rest))) (T.setFrames fs) := by
  have hm' : T.vm.method? m = some meth := X.method'
  have hn : narrow .int (.int z) = .int z := rfl
  show Steps p.tables e below (T.setTop { method := m, pc := pc, locals := Ls, stack := _ :: rest, locked := none }) _
  jvm_step X.here [X.here.top, hx, hd, hm', hret, hn]
  first | (intro acts; rw [hl _ acts rfl rfl rfl]) | rw [hl _ _ rfl rfl rfl]
  exact Steps.refl _
end New
end Jvm.RoadKit
namespace Jvm.Pilot.@@N@@
open Jvm Jvm.ClassFile Sem Op Lib Jvm.Free Jvm.Stand Jvm.LawKit Jvm.RoadKit Bundle Jvm.Pilot.@@N@@.Jvm.D
theorem d1_0 : decode prog_50_method_4_code 0 = .ok (.aload_n 0, 1) := by decide +kernel
theorem d1_1 : decode prog_50_method_4_code 1 = .ok (.getstatic 3, 3) := by decide +kernel
theorem d1_4 : decode prog_50_method_4_code 4 = .ok (.if_acmp .ne 16, 3) := by decide +kernel
theorem d1_7 : decode prog_50_method_4_code 7 = .ok (.iload_n 1, 1) := by decide +kernel
theorem d1_8 : decode prog_50_method_4_code 8 = .ok (.ifCond .ne 7, 3) := by decide +kernel
theorem d1_11 : decode prog_50_method_4_code 11 = .ok (.iconst 1, 1) := by decide +kernel
theorem d1_12 : decode prog_50_method_4_code 12 = .ok (.goto 4, 3) := by decide +kernel
theorem d1_15 : decode prog_50_method_4_code 15 = .ok (.iconst 0, 1) := by decide +kernel
theorem d1_16 : decode prog_50_method_4_code 16 = .ok (.istore_n 2, 1) := by decide +kernel
theorem d1_17 : decode prog_50_method_4_code 17 = .ok (.goto 33, 3) := by decide +kernel
theorem d1_20 : decode prog_50_method_4_code 20 = .ok (.aload_n 0, 1) := by decide +kernel
theorem d1_21 : decode prog_50_method_4_code 21 = .ok (.getstatic 7, 3) := by decide +kernel
theorem d1_24 : decode prog_50_method_4_code 24 = .ok (.if_acmp .ne 16, 3) := by decide +kernel
theorem d1_27 : decode prog_50_method_4_code 27 = .ok (.iload_n 1, 1) := by decide +kernel
theorem d1_28 : decode prog_50_method_4_code 28 = .ok (.ifCond .ge 7, 3) := by decide +kernel
theorem d1_31 : decode prog_50_method_4_code 31 = .ok (.iconst 1, 1) := by decide +kernel
theorem d1_32 : decode prog_50_method_4_code 32 = .ok (.goto 4, 3) := by decide +kernel
theorem d1_35 : decode prog_50_method_4_code 35 = .ok (.iconst 0, 1) := by decide +kernel
theorem d1_36 : decode prog_50_method_4_code 36 = .ok (.istore_n 2, 1) := by decide +kernel
theorem d1_37 : decode prog_50_method_4_code 37 = .ok (.goto 13, 3) := by decide +kernel
theorem d1_40 : decode prog_50_method_4_code 40 = .ok (.iload_n 1, 1) := by decide +kernel
theorem d1_41 : decode prog_50_method_4_code 41 = .ok (.ifCond .le 7, 3) := by decide +kernel
theorem d1_44 : decode prog_50_method_4_code 44 = .ok (.iconst 1, 1) := by decide +kernel
theorem d1_45 : decode prog_50_method_4_code 45 = .ok (.goto 4, 3) := by decide +kernel
theorem d1_48 : decode prog_50_method_4_code 48 = .ok (.iconst 0, 1) := by decide +kernel
theorem d1_49 : decode prog_50_method_4_code 49 = .ok (.istore_n 2, 1) := by decide +kernel
theorem d1_50 : decode prog_50_method_4_code 50 = .ok (.iload_n 2, 1) := by decide +kernel
theorem d1_51 : decode prog_50_method_4_code 51 = .ok (.ireturn, 1) := by decide +kernel
def own_hold (r ai ap : Addr) (p1 : Int32) : Int32 := (if r = ai then (if p1 = (0 : Int32) then (1 : Int32) else (0 : Int32)) else (if r = ap then (if p1 < (0 : Int32) then (1 : Int32) else (0 : Int32)) else (if (0 : Int32) < p1 then (1 : Int32) else (0 : Int32))))
theorem ef_1 (m : MethodId) (x0 : Addr) (x1 : Int32) : entryFrame m #[(.ref x0), (.int x1)] 3 = mkF m 0 #[.val (.ref x0), .val (.int x1), .unset] [] := by first | (simp [entryFrame, mkF, argsToLocals, Value.category, maxLocals]; done) | rfl
theorem pn_1 : plainName "com/example/querent/querent/expr/NodeComparisonExpr$Operator" = true := by first | (simp [plainName, overriddenIn]; done) | decide +kernel
def Q_rm1 (Z : State) (r : Addr) (p1 : Int32) (ai ap : Addr) (h0 : Heap) (n0 : Nat) (v : Option Value) (h : Heap) (L : List Loc) : Prop := v = some (.int (own_hold r ai ap p1)) ∧ Fr n0 L ∧ h = h0
set_option maxRecDepth 65536 in
set_option maxHeartbeats 40000000 in
theorem rm1 (l : Launch) (Z : State) (a0 : Array Value) (hw : ∀ d ∈ tables_1, d.before a0 Z = true) (ws : List Jvm.Cond) (r : Addr) (p1 : Int32) (ai ap : Addr) (h0 : Heap) (n0 : Nat) (Z0 : n0 ≤ h0.size) (SI : Sta Z h0 "com/example/querent/querent/expr/NodeComparisonExpr$Operator" "IS" "Lcom/example/querent/querent/expr/NodeComparisonExpr$Operator;" (.ref ai)) (SP : Sta Z h0 "com/example/querent/querent/expr/NodeComparisonExpr$Operator" "PRECEDES" "Lcom/example/querent/querent/expr/NodeComparisonExpr$Operator;" (.ref ap)) :
    MetFree l (⟨"com/example/querent/querent/expr/NodeComparisonExpr$Operator", "holdsFor", "(I)Z"⟩ : MethodName) (head1 (Jvm.Cond.code (⟨"com/example/querent/querent/expr/NodeComparisonExpr$Operator", "holdsFor", "(I)Z"⟩ : MethodName) prog_50_method_4_code 3 (some .boolean) :: ws) ({ frames := 0, cells := 0, slots := 0, locals := 0 } : Room)) (fun a U => a = #[(.ref r), (.int p1)] ∧ Z.Warmed39 U.vm ∧ U.heap = h0) (fun _ _ _ _ _ => True) (fun _ U o U' => ∃ v L, o = .returned v ∧ Q_rm1 Z r p1 ai ap h0 n0 v U'.heap L ∧ FrameEnd U o U' L ({ frames := 0, cells := 0, slots := 0, locals := 0 } : Room).cells ({ frames := 0, cells := 0, slots := 0, locals := 0 } : Room).slots) := by
  refine MetFree.of_bodySF (plainFor_of_name pn_1) hisR ?_
  intro p e s m args below meth c s₁ Bd hml0 hP hK
  obtain ⟨rfl, hZ, hh⟩ := hP
  have hx := Bd.exec
  have hby := Bd.bytes
  have hml : c.maxLocals = 3 := hml0
  have hown : s.vm.findClass "com/example/querent/querent/expr/NodeComparisonExpr$Operator" = some m.cls := findClass_of_methodNamed Bd.named
  have hnm := (name_of_methodNamed Bd.named Bd.method).1
  have X0 : Stand p l e ({ frames := 0, cells := 0, slots := 0, locals := 0 } : Room) s m #[(.ref r), (.int p1)] below meth c s₁ [] 0 0 := Stand.of_body Bd
  have e0 : s₁.heap = h0 := by rw [← hh, Bd.state]; rfl
  have N0 := Fr.nil n0
  have pre0 : ∀ t, Steps p.tables e below (s₁.setTop (mkF m 0 #[.val (.ref r), .val (.int p1), .unset] [])) t → Steps p.tables e below (s₁.setTop (entryFrame m #[(.ref r), (.int p1)] 3)) t := fun t k => castTop (ef_1 m r p1) k
  have K1 : ∀ t, Steps p.tables e below (s₁.setTop (mkF m 1 #[.val (.ref r), .val (.int p1), .unset] [(.ref r)])) t → Steps p.tables e below (s₁.setTop (entryFrame m #[(.ref r), (.int p1)] 3)) t := by
    intro t hk
    refine pre0 t ?_
    show Steps p.tables e below (s₁.setTop (mkF m 0 #[.val (.ref r), .val (.int p1), .unset] [])) _
    refine XS.aloadN X0.here hx rfl (hb hby d1_0) rfl rfl ?_
    show Steps p.tables e below (s₁.setTop (mkF m 1 #[.val (.ref r), .val (.int p1), .unset] [(.ref r)])) _
    exact hk
  obtain ⟨T2, X2, e2, st2⟩ := getS2 X0 hx hZ hown (host := "") (Or.inl (hw _ (List.mem_of_getElem? (i := 8) rfl))) Via.refl e0 SI (g := (mkF m 1 #[.val (.ref r), .val (.int p1), .unset] [(.ref r)])) rfl (hb hby d1_1)
  have K2 : ∀ t, Steps p.tables e below (T2.setTop (mkF m 4 #[.val (.ref r), .val (.int p1), .unset] [(.ref ai), (.ref r)])) t → Steps p.tables e below (s₁.setTop (entryFrame m #[(.ref r), (.int p1)] 3)) t := fun t hk => K1 t (st2 _ hk)
  by_cases hc4 : r = ai
  · have K3 : ∀ t, Steps p.tables e below (T2.setTop (mkF m 7 #[.val (.ref r), .val (.int p1), .unset] [])) t → Steps p.tables e below (s₁.setTop (entryFrame m #[(.ref r), (.int p1)] 3)) t := by
      intro t hk
      refine K2 t ?_
      refine Jvm.RoadKit.acmp (g := (mkF m 4 #[.val (.ref r), .val (.int p1), .unset] [(.ref ai), (.ref r)])) X2 hx rfl rfl rfl (pc0 := 4) (pc' := 7) (same := true) rfl (hb hby d1_4) rfl (decide_eq_true (congrArg Value.ref hc4)) (by decide) (by decide) ?_
      exact hk
    have K4 : ∀ t, Steps p.tables e below (T2.setTop (mkF m 8 #[.val (.ref r), .val (.int p1), .unset] [(.int p1)])) t → Steps p.tables e below (s₁.setTop (entryFrame m #[(.ref r), (.int p1)] 3)) t := by
      intro t hk
      refine K3 t ?_
      show Steps p.tables e below (T2.setTop (mkF m 7 #[.val (.ref r), .val (.int p1), .unset] [])) _
      refine XS.iloadN X2.here hx rfl (hb hby d1_7) rfl ?_
      show Steps p.tables e below (T2.setTop (mkF m 8 #[.val (.ref r), .val (.int p1), .unset] [(.int p1)])) _
      exact hk
    by_cases hc8 : p1 = (0 : Int32)
    · have K5 : ∀ t, Steps p.tables e below (T2.setTop (mkF m 11 #[.val (.ref r), .val (.int p1), .unset] [])) t → Steps p.tables e below (s₁.setTop (entryFrame m #[(.ref r), (.int p1)] 3)) t := by
        intro t hk
        refine K4 t ?_
        show Steps p.tables e below (T2.setTop (mkF m 8 #[.val (.ref r), .val (.int p1), .unset] [(.int p1)])) _
        refine XS.ifNo X2.here hx rfl (hb hby d1_8) rfl ((if0 _ _).trans (teq hc8).2) ?_
        exact hk
      have K6 : ∀ t, Steps p.tables e below (T2.setTop (mkF m 51 #[.val (.ref r), .val (.int p1), .val (.int (1 : Int32))] [(.int (1 : Int32))])) t → Steps p.tables e below (s₁.setTop (entryFrame m #[(.ref r), (.int p1)] 3)) t := by
        intro t hk
        refine K5 t ?_
        show Steps p.tables e below (T2.setTop (mkF m 11 #[.val (.ref r), .val (.int p1), .unset] [])) _
        refine XS.iconst X2.here hx rfl (hb hby d1_11) ?_
        show Steps p.tables e below (T2.setTop (mkF m 12 #[.val (.ref r), .val (.int p1), .unset] [(.int (1 : Int32))])) _
        refine XS.goto X2.here hx rfl (pc0 := 12) (pc' := 16) rfl (hb hby d1_12) (by decide) (by decide) ?_
        show Steps p.tables e below (T2.setTop (mkF m 16 #[.val (.ref r), .val (.int p1), .unset] [(.int (1 : Int32))])) _
        refine XS.istoreN X2.here hx rfl (hb hby d1_16) rfl (l' := #[.val (.ref r), .val (.int p1), .val (.int (1 : Int32))]) rfl ?_
        show Steps p.tables e below (T2.setTop (mkF m 17 #[.val (.ref r), .val (.int p1), .val (.int (1 : Int32))] [])) _
        refine XS.goto X2.here hx rfl (pc0 := 17) (pc' := 50) rfl (hb hby d1_17) (by decide) (by decide) ?_
        show Steps p.tables e below (T2.setTop (mkF m 50 #[.val (.ref r), .val (.int p1), .val (.int (1 : Int32))] [])) _
        refine XS.iloadN X2.here hx rfl (hb hby d1_50) rfl ?_
        show Steps p.tables e below (T2.setTop (mkF m 51 #[.val (.ref r), .val (.int p1), .val (.int (1 : Int32))] [(.int (1 : Int32))])) _
        exact hk
      have EE := e2
      obtain ⟨fs, hr, hrun, hended, hW, hsame⟩ := X2.leave (v := some (.int (1 : Int32))) (fun h => by rw [Bd.returns] at h; cases h) Bd.notSynchronized
      exact ⟨_, _, K6 _ (retN X2 hx (t := .boolean) Bd.returns (by simp) (hb hby d1_51) hr), hrun, hended, _, _, rfl, ⟨by rw [own_hold, if_pos hc4, if_pos hc8], N0, EE⟩, ⟨_, rfl⟩, hW, hsame.mono (by decide) (by decide)⟩
    · have K7 : ∀ t, Steps p.tables e below (T2.setTop (mkF m 15 #[.val (.ref r), .val (.int p1), .unset] [])) t → Steps p.tables e below (s₁.setTop (entryFrame m #[(.ref r), (.int p1)] 3)) t := by
        intro t hk
        refine K4 t ?_
        show Steps p.tables e below (T2.setTop (mkF m 8 #[.val (.ref r), .val (.int p1), .unset] [(.int p1)])) _
        refine XS.ifYes X2.here hx rfl (pc0 := 8) (pc' := 15) rfl (hb hby d1_8) rfl ((if0 _ _).trans (feq hc8).2) (by decide) (by decide) ?_
        exact hk
      have K8 : ∀ t, Steps p.tables e below (T2.setTop (mkF m 51 #[.val (.ref r), .val (.int p1), .val (.int (0 : Int32))] [(.int (0 : Int32))])) t → Steps p.tables e below (s₁.setTop (entryFrame m #[(.ref r), (.int p1)] 3)) t := by
        intro t hk
        refine K7 t ?_
        show Steps p.tables e below (T2.setTop (mkF m 15 #[.val (.ref r), .val (.int p1), .unset] [])) _
        refine XS.iconst X2.here hx rfl (hb hby d1_15) ?_
        show Steps p.tables e below (T2.setTop (mkF m 16 #[.val (.ref r), .val (.int p1), .unset] [(.int (0 : Int32))])) _
        refine XS.istoreN X2.here hx rfl (hb hby d1_16) rfl (l' := #[.val (.ref r), .val (.int p1), .val (.int (0 : Int32))]) rfl ?_
        show Steps p.tables e below (T2.setTop (mkF m 17 #[.val (.ref r), .val (.int p1), .val (.int (0 : Int32))] [])) _
        refine XS.goto X2.here hx rfl (pc0 := 17) (pc' := 50) rfl (hb hby d1_17) (by decide) (by decide) ?_
        show Steps p.tables e below (T2.setTop (mkF m 50 #[.val (.ref r), .val (.int p1), .val (.int (0 : Int32))] [])) _
        refine XS.iloadN X2.here hx rfl (hb hby d1_50) rfl ?_
        show Steps p.tables e below (T2.setTop (mkF m 51 #[.val (.ref r), .val (.int p1), .val (.int (0 : Int32))] [(.int (0 : Int32))])) _
        exact hk
      have EE := e2
      obtain ⟨fs, hr, hrun, hended, hW, hsame⟩ := X2.leave (v := some (.int (0 : Int32))) (fun h => by rw [Bd.returns] at h; cases h) Bd.notSynchronized
      exact ⟨_, _, K8 _ (retN X2 hx (t := .boolean) Bd.returns (by simp) (hb hby d1_51) hr), hrun, hended, _, _, rfl, ⟨by rw [own_hold, if_pos hc4, if_neg hc8], N0, EE⟩, ⟨_, rfl⟩, hW, hsame.mono (by decide) (by decide)⟩
  · have K9 : ∀ t, Steps p.tables e below (T2.setTop (mkF m 20 #[.val (.ref r), .val (.int p1), .unset] [])) t → Steps p.tables e below (s₁.setTop (entryFrame m #[(.ref r), (.int p1)] 3)) t := by
      intro t hk
      refine K2 t ?_
      refine Jvm.RoadKit.acmp (g := (mkF m 4 #[.val (.ref r), .val (.int p1), .unset] [(.ref ai), (.ref r)])) X2 hx rfl rfl rfl (pc0 := 4) (pc' := 20) (same := false) rfl (hb hby d1_4) rfl (decide_eq_false fun q => hc4 (Value.ref.inj q)) (by decide) (by decide) ?_
      exact hk
    have K10 : ∀ t, Steps p.tables e below (T2.setTop (mkF m 21 #[.val (.ref r), .val (.int p1), .unset] [(.ref r)])) t → Steps p.tables e below (s₁.setTop (entryFrame m #[(.ref r), (.int p1)] 3)) t := by
      intro t hk
      refine K9 t ?_
      show Steps p.tables e below (T2.setTop (mkF m 20 #[.val (.ref r), .val (.int p1), .unset] [])) _
      refine XS.aloadN X2.here hx rfl (hb hby d1_20) rfl rfl ?_
      show Steps p.tables e below (T2.setTop (mkF m 21 #[.val (.ref r), .val (.int p1), .unset] [(.ref r)])) _
      exact hk
    obtain ⟨T11, X11, e11, st11⟩ := getS2 X2 hx hZ hown (host := "") (Or.inl (hw _ (List.mem_of_getElem? (i := 11) rfl))) Via.refl e2 SP (g := (mkF m 21 #[.val (.ref r), .val (.int p1), .unset] [(.ref r)])) rfl (hb hby d1_21)
    have K11 : ∀ t, Steps p.tables e below (T11.setTop (mkF m 24 #[.val (.ref r), .val (.int p1), .unset] [(.ref ap), (.ref r)])) t → Steps p.tables e below (s₁.setTop (entryFrame m #[(.ref r), (.int p1)] 3)) t := fun t hk => K10 t (st11 _ hk)
    by_cases hc24 : r = ap
    · have K12 : ∀ t, Steps p.tables e below (T11.setTop (mkF m 27 #[.val (.ref r), .val (.int p1), .unset] [])) t → Steps p.tables e below (s₁.setTop (entryFrame m #[(.ref r), (.int p1)] 3)) t := by
        intro t hk
        refine K11 t ?_
        refine Jvm.RoadKit.acmp (g := (mkF m 24 #[.val (.ref r), .val (.int p1), .unset] [(.ref ap), (.ref r)])) X11 hx rfl rfl rfl (pc0 := 24) (pc' := 27) (same := true) rfl (hb hby d1_24) rfl (decide_eq_true (congrArg Value.ref hc24)) (by decide) (by decide) ?_
        exact hk
      have K13 : ∀ t, Steps p.tables e below (T11.setTop (mkF m 28 #[.val (.ref r), .val (.int p1), .unset] [(.int p1)])) t → Steps p.tables e below (s₁.setTop (entryFrame m #[(.ref r), (.int p1)] 3)) t := by
        intro t hk
        refine K12 t ?_
        show Steps p.tables e below (T11.setTop (mkF m 27 #[.val (.ref r), .val (.int p1), .unset] [])) _
        refine XS.iloadN X11.here hx rfl (hb hby d1_27) rfl ?_
        show Steps p.tables e below (T11.setTop (mkF m 28 #[.val (.ref r), .val (.int p1), .unset] [(.int p1)])) _
        exact hk
      by_cases hc28 : p1 < (0 : Int32)
      · have K14 : ∀ t, Steps p.tables e below (T11.setTop (mkF m 31 #[.val (.ref r), .val (.int p1), .unset] [])) t → Steps p.tables e below (s₁.setTop (entryFrame m #[(.ref r), (.int p1)] 3)) t := by
          intro t hk
          refine K13 t ?_
          show Steps p.tables e below (T11.setTop (mkF m 28 #[.val (.ref r), .val (.int p1), .unset] [(.int p1)])) _
          refine XS.ifNo X11.here hx rfl (hb hby d1_28) rfl ((if0 _ _).trans (tlt hc28).2.1) ?_
          exact hk
        have K15 : ∀ t, Steps p.tables e below (T11.setTop (mkF m 51 #[.val (.ref r), .val (.int p1), .val (.int (1 : Int32))] [(.int (1 : Int32))])) t → Steps p.tables e below (s₁.setTop (entryFrame m #[(.ref r), (.int p1)] 3)) t := by
          intro t hk
          refine K14 t ?_
          show Steps p.tables e below (T11.setTop (mkF m 31 #[.val (.ref r), .val (.int p1), .unset] [])) _
          refine XS.iconst X11.here hx rfl (hb hby d1_31) ?_
          show Steps p.tables e below (T11.setTop (mkF m 32 #[.val (.ref r), .val (.int p1), .unset] [(.int (1 : Int32))])) _
          refine XS.goto X11.here hx rfl (pc0 := 32) (pc' := 36) rfl (hb hby d1_32) (by decide) (by decide) ?_
          show Steps p.tables e below (T11.setTop (mkF m 36 #[.val (.ref r), .val (.int p1), .unset] [(.int (1 : Int32))])) _
          refine XS.istoreN X11.here hx rfl (hb hby d1_36) rfl (l' := #[.val (.ref r), .val (.int p1), .val (.int (1 : Int32))]) rfl ?_
          show Steps p.tables e below (T11.setTop (mkF m 37 #[.val (.ref r), .val (.int p1), .val (.int (1 : Int32))] [])) _
          refine XS.goto X11.here hx rfl (pc0 := 37) (pc' := 50) rfl (hb hby d1_37) (by decide) (by decide) ?_
          show Steps p.tables e below (T11.setTop (mkF m 50 #[.val (.ref r), .val (.int p1), .val (.int (1 : Int32))] [])) _
          refine XS.iloadN X11.here hx rfl (hb hby d1_50) rfl ?_
          show Steps p.tables e below (T11.setTop (mkF m 51 #[.val (.ref r), .val (.int p1), .val (.int (1 : Int32))] [(.int (1 : Int32))])) _
          exact hk
        have EE := e11
        obtain ⟨fs, hr, hrun, hended, hW, hsame⟩ := X11.leave (v := some (.int (1 : Int32))) (fun h => by rw [Bd.returns] at h; cases h) Bd.notSynchronized
        exact ⟨_, _, K15 _ (retN X11 hx (t := .boolean) Bd.returns (by simp) (hb hby d1_51) hr), hrun, hended, _, _, rfl, ⟨by rw [own_hold, if_neg hc4, if_pos hc24, if_pos hc28], N0, EE⟩, ⟨_, rfl⟩, hW, hsame.mono (by decide) (by decide)⟩
      · have K16 : ∀ t, Steps p.tables e below (T11.setTop (mkF m 35 #[.val (.ref r), .val (.int p1), .unset] [])) t → Steps p.tables e below (s₁.setTop (entryFrame m #[(.ref r), (.int p1)] 3)) t := by
          intro t hk
          refine K13 t ?_
          show Steps p.tables e below (T11.setTop (mkF m 28 #[.val (.ref r), .val (.int p1), .unset] [(.int p1)])) _
          refine XS.ifYes X11.here hx rfl (pc0 := 28) (pc' := 35) rfl (hb hby d1_28) rfl ((if0 _ _).trans (flt hc28).2.1) (by decide) (by decide) ?_
          exact hk
        have K17 : ∀ t, Steps p.tables e below (T11.setTop (mkF m 51 #[.val (.ref r), .val (.int p1), .val (.int (0 : Int32))] [(.int (0 : Int32))])) t → Steps p.tables e below (s₁.setTop (entryFrame m #[(.ref r), (.int p1)] 3)) t := by
          intro t hk
          refine K16 t ?_
          show Steps p.tables e below (T11.setTop (mkF m 35 #[.val (.ref r), .val (.int p1), .unset] [])) _
          refine XS.iconst X11.here hx rfl (hb hby d1_35) ?_
          show Steps p.tables e below (T11.setTop (mkF m 36 #[.val (.ref r), .val (.int p1), .unset] [(.int (0 : Int32))])) _
          refine XS.istoreN X11.here hx rfl (hb hby d1_36) rfl (l' := #[.val (.ref r), .val (.int p1), .val (.int (0 : Int32))]) rfl ?_
          show Steps p.tables e below (T11.setTop (mkF m 37 #[.val (.ref r), .val (.int p1), .val (.int (0 : Int32))] [])) _
          refine XS.goto X11.here hx rfl (pc0 := 37) (pc' := 50) rfl (hb hby d1_37) (by decide) (by decide) ?_
          show Steps p.tables e below (T11.setTop (mkF m 50 #[.val (.ref r), .val (.int p1), .val (.int (0 : Int32))] [])) _
          refine XS.iloadN X11.here hx rfl (hb hby d1_50) rfl ?_
          show Steps p.tables e below (T11.setTop (mkF m 51 #[.val (.ref r), .val (.int p1), .val (.int (0 : Int32))] [(.int (0 : Int32))])) _
          exact hk
        have EE := e11
        obtain ⟨fs, hr, hrun, hended, hW, hsame⟩ := X11.leave (v := some (.int (0 : Int32))) (fun h => by rw [Bd.returns] at h; cases h) Bd.notSynchronized
        exact ⟨_, _, K17 _ (retN X11 hx (t := .boolean) Bd.returns (by simp) (hb hby d1_51) hr), hrun, hended, _, _, rfl, ⟨by rw [own_hold, if_neg hc4, if_pos hc24, if_neg hc28], N0, EE⟩, ⟨_, rfl⟩, hW, hsame.mono (by decide) (by decide)⟩
    · have K18 : ∀ t, Steps p.tables e below (T11.setTop (mkF m 40 #[.val (.ref r), .val (.int p1), .unset] [])) t → Steps p.tables e below (s₁.setTop (entryFrame m #[(.ref r), (.int p1)] 3)) t := by
        intro t hk
        refine K11 t ?_
        refine Jvm.RoadKit.acmp (g := (mkF m 24 #[.val (.ref r), .val (.int p1), .unset] [(.ref ap), (.ref r)])) X11 hx rfl rfl rfl (pc0 := 24) (pc' := 40) (same := false) rfl (hb hby d1_24) rfl (decide_eq_false fun q => hc24 (Value.ref.inj q)) (by decide) (by decide) ?_
        exact hk
      have K19 : ∀ t, Steps p.tables e below (T11.setTop (mkF m 41 #[.val (.ref r), .val (.int p1), .unset] [(.int p1)])) t → Steps p.tables e below (s₁.setTop (entryFrame m #[(.ref r), (.int p1)] 3)) t := by
        intro t hk
        refine K18 t ?_
        show Steps p.tables e below (T11.setTop (mkF m 40 #[.val (.ref r), .val (.int p1), .unset] [])) _
        refine XS.iloadN X11.here hx rfl (hb hby d1_40) rfl ?_
        show Steps p.tables e below (T11.setTop (mkF m 41 #[.val (.ref r), .val (.int p1), .unset] [(.int p1)])) _
        exact hk
      by_cases hc41 : (0 : Int32) < p1
      · have K20 : ∀ t, Steps p.tables e below (T11.setTop (mkF m 44 #[.val (.ref r), .val (.int p1), .unset] [])) t → Steps p.tables e below (s₁.setTop (entryFrame m #[(.ref r), (.int p1)] 3)) t := by
          intro t hk
          refine K19 t ?_
          show Steps p.tables e below (T11.setTop (mkF m 41 #[.val (.ref r), .val (.int p1), .unset] [(.int p1)])) _
          refine XS.ifNo X11.here hx rfl (hb hby d1_41) rfl ((if0 _ _).trans (tlt hc41).2.2.2) ?_
          exact hk
        have K21 : ∀ t, Steps p.tables e below (T11.setTop (mkF m 51 #[.val (.ref r), .val (.int p1), .val (.int (1 : Int32))] [(.int (1 : Int32))])) t → Steps p.tables e below (s₁.setTop (entryFrame m #[(.ref r), (.int p1)] 3)) t := by
          intro t hk
          refine K20 t ?_
          show Steps p.tables e below (T11.setTop (mkF m 44 #[.val (.ref r), .val (.int p1), .unset] [])) _
          refine XS.iconst X11.here hx rfl (hb hby d1_44) ?_
          show Steps p.tables e below (T11.setTop (mkF m 45 #[.val (.ref r), .val (.int p1), .unset] [(.int (1 : Int32))])) _
          refine XS.goto X11.here hx rfl (pc0 := 45) (pc' := 49) rfl (hb hby d1_45) (by decide) (by decide) ?_
          show Steps p.tables e below (T11.setTop (mkF m 49 #[.val (.ref r), .val (.int p1), .unset] [(.int (1 : Int32))])) _
          refine XS.istoreN X11.here hx rfl (hb hby d1_49) rfl (l' := #[.val (.ref r), .val (.int p1), .val (.int (1 : Int32))]) rfl ?_
          show Steps p.tables e below (T11.setTop (mkF m 50 #[.val (.ref r), .val (.int p1), .val (.int (1 : Int32))] [])) _
          refine XS.iloadN X11.here hx rfl (hb hby d1_50) rfl ?_
          show Steps p.tables e below (T11.setTop (mkF m 51 #[.val (.ref r), .val (.int p1), .val (.int (1 : Int32))] [(.int (1 : Int32))])) _
          exact hk
        have EE := e11
        obtain ⟨fs, hr, hrun, hended, hW, hsame⟩ := X11.leave (v := some (.int (1 : Int32))) (fun h => by rw [Bd.returns] at h; cases h) Bd.notSynchronized
        exact ⟨_, _, K21 _ (retN X11 hx (t := .boolean) Bd.returns (by simp) (hb hby d1_51) hr), hrun, hended, _, _, rfl, ⟨by rw [own_hold, if_neg hc4, if_neg hc24, if_pos hc41], N0, EE⟩, ⟨_, rfl⟩, hW, hsame.mono (by decide) (by decide)⟩
      · have K22 : ∀ t, Steps p.tables e below (T11.setTop (mkF m 48 #[.val (.ref r), .val (.int p1), .unset] [])) t → Steps p.tables e below (s₁.setTop (entryFrame m #[(.ref r), (.int p1)] 3)) t := by
          intro t hk
          refine K19 t ?_
          show Steps p.tables e below (T11.setTop (mkF m 41 #[.val (.ref r), .val (.int p1), .unset] [(.int p1)])) _
          refine XS.ifYes X11.here hx rfl (pc0 := 41) (pc' := 48) rfl (hb hby d1_41) rfl ((if0 _ _).trans (flt hc41).2.2.2) (by decide) (by decide) ?_
          exact hk
        have K23 : ∀ t, Steps p.tables e below (T11.setTop (mkF m 51 #[.val (.ref r), .val (.int p1), .val (.int (0 : Int32))] [(.int (0 : Int32))])) t → Steps p.tables e below (s₁.setTop (entryFrame m #[(.ref r), (.int p1)] 3)) t := by
          intro t hk
          refine K22 t ?_
          show Steps p.tables e below (T11.setTop (mkF m 48 #[.val (.ref r), .val (.int p1), .unset] [])) _
          refine XS.iconst X11.here hx rfl (hb hby d1_48) ?_
          show Steps p.tables e below (T11.setTop (mkF m 49 #[.val (.ref r), .val (.int p1), .unset] [(.int (0 : Int32))])) _
          refine XS.istoreN X11.here hx rfl (hb hby d1_49) rfl (l' := #[.val (.ref r), .val (.int p1), .val (.int (0 : Int32))]) rfl ?_
          show Steps p.tables e below (T11.setTop (mkF m 50 #[.val (.ref r), .val (.int p1), .val (.int (0 : Int32))] [])) _
          refine XS.iloadN X11.here hx rfl (hb hby d1_50) rfl ?_
          show Steps p.tables e below (T11.setTop (mkF m 51 #[.val (.ref r), .val (.int p1), .val (.int (0 : Int32))] [(.int (0 : Int32))])) _
          exact hk
        have EE := e11
        obtain ⟨fs, hr, hrun, hended, hW, hsame⟩ := X11.leave (v := some (.int (0 : Int32))) (fun h => by rw [Bd.returns] at h; cases h) Bd.notSynchronized
        exact ⟨_, _, K23 _ (retN X11 hx (t := .boolean) Bd.returns (by simp) (hb hby d1_51) hr), hrun, hended, _, _, rfl, ⟨by rw [own_hold, if_neg hc4, if_neg hc24, if_neg hc41], N0, EE⟩, ⟨_, rfl⟩, hW, hsame.mono (by decide) (by decide)⟩
def own_neg (p1 : Int32) (u1 : Int32) (u2 : Int32) (u3 : Int32) : Int32 := (if ((p1.toUInt32 >>> ((31 : Int32) &&& 31).toUInt32).toInt32) = (1 : Int32) then (1 : Int32) else (0 : Int32))
set_option maxRecDepth 65536 in
set_option maxHeartbeats 4000000 in
theorem own_neg_s {p : Program} {l : Launch} {e : Env} {R : Room} {s : State} {m : MethodId} {args : Array Value} {below : List Frame} {meth : Method} {c : Code} {T : State} {locs : List Loc} {cells slots : Nat} {Z : State} {a0 : Array Value} (X : Stand p l e R s m args below meth c T locs cells slots) (hx : p.tables.exec = Jvm.exec) (hby : c.code = code) (hown : s.vm.findClass "com/example/querent/querent/expr/OperatorHoldsForPinLaw" = some m.cls) (hZ : Z.Warmed39 s.vm) (hw : ∀ d ∈ tables_1, d.before a0 Z = true) (p1 : Int32) (u1 : Int32) (u2 : Int32) (u3 : Int32) (v : Int32) (hv : own_neg p1 u1 u2 u3 = v) {target : State} (hk : Steps p.tables e below (T.setTop (mkF m 37 #[.val (.int p1), .val (.int u1), .val (.int u2), .val (.int u3), .unset, .unset, .unset] [(.int v)])) target) :
    Steps p.tables e below (T.setTop (mkF m 24 #[.val (.int p1), .val (.int u1), .val (.int u2), .val (.int u3), .unset, .unset, .unset] [])) target := by
  unfold own_neg at hv
  show Steps p.tables e below (T.setTop (mkF m 24 #[.val (.int p1), .val (.int u1), .val (.int u2), .val (.int u3), .unset, .unset, .unset] [])) _
  refine XS.iloadN X.here hx rfl (hb hby at_24) rfl ?_
  show Steps p.tables e below (T.setTop (mkF m 25 #[.val (.int p1), .val (.int u1), .val (.int u2), .val (.int u3), .unset, .unset, .unset] [(.int p1)])) _
  refine XS.bipush X.here hx rfl (hb hby at_25) ?_
  show Steps p.tables e below (T.setTop (mkF m 27 #[.val (.int p1), .val (.int u1), .val (.int u2), .val (.int u3), .unset, .unset, .unset] [(.int (31 : Int32)), (.int p1)])) _
  refine XS.iushr X.here hx rfl (hb hby at_27) rfl ?_
  show Steps p.tables e below (T.setTop (mkF m 28 #[.val (.int p1), .val (.int u1), .val (.int u2), .val (.int u3), .unset, .unset, .unset] [(.int ((p1.toUInt32 >>> ((31 : Int32) &&& 31).toUInt32).toInt32))])) _
  refine XS.iconst X.here hx rfl (hb hby at_28) ?_
  show Steps p.tables e below (T.setTop (mkF m 29 #[.val (.int p1), .val (.int u1), .val (.int u2), .val (.int u3), .unset, .unset, .unset] [(.int (1 : Int32)), (.int ((p1.toUInt32 >>> ((31 : Int32) &&& 31).toUInt32).toInt32))])) _
  by_cases hc29 : ((p1.toUInt32 >>> ((31 : Int32) &&& 31).toUInt32).toInt32) = (1 : Int32)
  · rw [if_pos hc29] at hv
    refine XS.icmpNo X.here hx rfl (hb hby at_29) rfl (teq hc29).2 ?_
    show Steps p.tables e below (T.setTop (mkF m 32 #[.val (.int p1), .val (.int u1), .val (.int u2), .val (.int u3), .unset, .unset, .unset] [])) _
    refine XS.iconst X.here hx rfl (hb hby at_32) ?_
    show Steps p.tables e below (T.setTop (mkF m 33 #[.val (.int p1), .val (.int u1), .val (.int u2), .val (.int u3), .unset, .unset, .unset] [(.int (1 : Int32))])) _
    refine XS.goto X.here hx rfl (pc0 := 33) (pc' := 37) rfl (hb hby at_33) (by decide) (by decide) ?_
    show Steps p.tables e below (T.setTop (mkF m 37 #[.val (.int p1), .val (.int u1), .val (.int u2), .val (.int u3), .unset, .unset, .unset] [(.int (1 : Int32))])) _
    subst hv
    exact hk
  · rw [if_neg hc29] at hv
    refine XS.icmpYes X.here hx rfl (pc0 := 29) (pc' := 36) rfl (hb hby at_29) rfl (feq hc29).2 (by decide) (by decide) ?_
    show Steps p.tables e below (T.setTop (mkF m 36 #[.val (.int p1), .val (.int u1), .val (.int u2), .val (.int u3), .unset, .unset, .unset] [])) _
    refine XS.iconst X.here hx rfl (hb hby at_36) ?_
    show Steps p.tables e below (T.setTop (mkF m 37 #[.val (.int p1), .val (.int u1), .val (.int u2), .val (.int u3), .unset, .unset, .unset] [(.int (0 : Int32))])) _
    subst hv
    exact hk
def own_zero (p1 : Int32) (u1 : Int32) (u2 : Int32) (u3 : Int32) (u4 : Int32) : Int32 := (if p1 = (0 : Int32) then (1 : Int32) else (0 : Int32))
set_option maxRecDepth 65536 in
set_option maxHeartbeats 4000000 in
theorem own_zero_s {p : Program} {l : Launch} {e : Env} {R : Room} {s : State} {m : MethodId} {args : Array Value} {below : List Frame} {meth : Method} {c : Code} {T : State} {locs : List Loc} {cells slots : Nat} {Z : State} {a0 : Array Value} (X : Stand p l e R s m args below meth c T locs cells slots) (hx : p.tables.exec = Jvm.exec) (hby : c.code = code) (hown : s.vm.findClass "com/example/querent/querent/expr/OperatorHoldsForPinLaw" = some m.cls) (hZ : Z.Warmed39 s.vm) (hw : ∀ d ∈ tables_1, d.before a0 Z = true) (p1 : Int32) (u1 : Int32) (u2 : Int32) (u3 : Int32) (u4 : Int32) (v : Int32) (hv : own_zero p1 u1 u2 u3 u4 = v) {target : State} (hk : Steps p.tables e below (T.setTop (mkF m 48 #[.val (.int p1), .val (.int u1), .val (.int u2), .val (.int u3), .val (.int u4), .unset, .unset] [(.int v)])) target) :
    Steps p.tables e below (T.setTop (mkF m 39 #[.val (.int p1), .val (.int u1), .val (.int u2), .val (.int u3), .val (.int u4), .unset, .unset] [])) target := by
  unfold own_zero at hv
  show Steps p.tables e below (T.setTop (mkF m 39 #[.val (.int p1), .val (.int u1), .val (.int u2), .val (.int u3), .val (.int u4), .unset, .unset] [])) _
  refine XS.iloadN X.here hx rfl (hb hby at_39) rfl ?_
  show Steps p.tables e below (T.setTop (mkF m 40 #[.val (.int p1), .val (.int u1), .val (.int u2), .val (.int u3), .val (.int u4), .unset, .unset] [(.int p1)])) _
  by_cases hc40 : p1 = (0 : Int32)
  · rw [if_pos hc40] at hv
    refine XS.ifNo X.here hx rfl (hb hby at_40) rfl ((if0 _ _).trans (teq hc40).2) ?_
    show Steps p.tables e below (T.setTop (mkF m 43 #[.val (.int p1), .val (.int u1), .val (.int u2), .val (.int u3), .val (.int u4), .unset, .unset] [])) _
    refine XS.iconst X.here hx rfl (hb hby at_43) ?_
    show Steps p.tables e below (T.setTop (mkF m 44 #[.val (.int p1), .val (.int u1), .val (.int u2), .val (.int u3), .val (.int u4), .unset, .unset] [(.int (1 : Int32))])) _
    refine XS.goto X.here hx rfl (pc0 := 44) (pc' := 48) rfl (hb hby at_44) (by decide) (by decide) ?_
    show Steps p.tables e below (T.setTop (mkF m 48 #[.val (.int p1), .val (.int u1), .val (.int u2), .val (.int u3), .val (.int u4), .unset, .unset] [(.int (1 : Int32))])) _
    subst hv
    exact hk
  · rw [if_neg hc40] at hv
    refine XS.ifYes X.here hx rfl (pc0 := 40) (pc' := 47) rfl (hb hby at_40) rfl ((if0 _ _).trans (feq hc40).2) (by decide) (by decide) ?_
    show Steps p.tables e below (T.setTop (mkF m 47 #[.val (.int p1), .val (.int u1), .val (.int u2), .val (.int u3), .val (.int u4), .unset, .unset] [])) _
    refine XS.iconst X.here hx rfl (hb hby at_47) ?_
    show Steps p.tables e below (T.setTop (mkF m 48 #[.val (.int p1), .val (.int u1), .val (.int u2), .val (.int u3), .val (.int u4), .unset, .unset] [(.int (0 : Int32))])) _
    subst hv
    exact hk
def own_posi (p1 : Int32) (u1 : Int32) (u2 : Int32) (u3 : Int32) (u4 : Int32) (u5 : Int32) : Int32 := (if u4 = (0 : Int32) then (if u5 = (0 : Int32) then (1 : Int32) else (0 : Int32)) else (0 : Int32))
set_option maxRecDepth 65536 in
set_option maxHeartbeats 4000000 in
theorem own_posi_s {p : Program} {l : Launch} {e : Env} {R : Room} {s : State} {m : MethodId} {args : Array Value} {below : List Frame} {meth : Method} {c : Code} {T : State} {locs : List Loc} {cells slots : Nat} {Z : State} {a0 : Array Value} (X : Stand p l e R s m args below meth c T locs cells slots) (hx : p.tables.exec = Jvm.exec) (hby : c.code = code) (hown : s.vm.findClass "com/example/querent/querent/expr/OperatorHoldsForPinLaw" = some m.cls) (hZ : Z.Warmed39 s.vm) (hw : ∀ d ∈ tables_1, d.before a0 Z = true) (p1 : Int32) (u1 : Int32) (u2 : Int32) (u3 : Int32) (u4 : Int32) (u5 : Int32) (v : Int32) (hv : own_posi p1 u1 u2 u3 u4 u5 = v) {target : State} (hk : Steps p.tables e below (T.setTop (mkF m 65 #[.val (.int p1), .val (.int u1), .val (.int u2), .val (.int u3), .val (.int u4), .val (.int u5), .unset] [(.int v)])) target) :
    Steps p.tables e below (T.setTop (mkF m 50 #[.val (.int p1), .val (.int u1), .val (.int u2), .val (.int u3), .val (.int u4), .val (.int u5), .unset] [])) target := by
  unfold own_posi at hv
  show Steps p.tables e below (T.setTop (mkF m 50 #[.val (.int p1), .val (.int u1), .val (.int u2), .val (.int u3), .val (.int u4), .val (.int u5), .unset] [])) _
  refine XS.iload X.here hx rfl (hb hby at_50) rfl ?_
  show Steps p.tables e below (T.setTop (mkF m 52 #[.val (.int p1), .val (.int u1), .val (.int u2), .val (.int u3), .val (.int u4), .val (.int u5), .unset] [(.int u4)])) _
  by_cases hc52 : u4 = (0 : Int32)
  · rw [if_pos hc52] at hv
    refine XS.ifNo X.here hx rfl (hb hby at_52) rfl ((if0 _ _).trans (teq hc52).2) ?_
    show Steps p.tables e below (T.setTop (mkF m 55 #[.val (.int p1), .val (.int u1), .val (.int u2), .val (.int u3), .val (.int u4), .val (.int u5), .unset] [])) _
    refine XS.iload X.here hx rfl (hb hby at_55) rfl ?_
    show Steps p.tables e below (T.setTop (mkF m 57 #[.val (.int p1), .val (.int u1), .val (.int u2), .val (.int u3), .val (.int u4), .val (.int u5), .unset] [(.int u5)])) _
    by_cases hc57 : u5 = (0 : Int32)
    · rw [if_pos hc57] at hv
      refine XS.ifNo X.here hx rfl (hb hby at_57) rfl ((if0 _ _).trans (teq hc57).2) ?_
      show Steps p.tables e below (T.setTop (mkF m 60 #[.val (.int p1), .val (.int u1), .val (.int u2), .val (.int u3), .val (.int u4), .val (.int u5), .unset] [])) _
      refine XS.iconst X.here hx rfl (hb hby at_60) ?_
      show Steps p.tables e below (T.setTop (mkF m 61 #[.val (.int p1), .val (.int u1), .val (.int u2), .val (.int u3), .val (.int u4), .val (.int u5), .unset] [(.int (1 : Int32))])) _
      refine XS.goto X.here hx rfl (pc0 := 61) (pc' := 65) rfl (hb hby at_61) (by decide) (by decide) ?_
      show Steps p.tables e below (T.setTop (mkF m 65 #[.val (.int p1), .val (.int u1), .val (.int u2), .val (.int u3), .val (.int u4), .val (.int u5), .unset] [(.int (1 : Int32))])) _
      subst hv
      exact hk
    · rw [if_neg hc57] at hv
      refine XS.ifYes X.here hx rfl (pc0 := 57) (pc' := 64) rfl (hb hby at_57) rfl ((if0 _ _).trans (feq hc57).2) (by decide) (by decide) ?_
      show Steps p.tables e below (T.setTop (mkF m 64 #[.val (.int p1), .val (.int u1), .val (.int u2), .val (.int u3), .val (.int u4), .val (.int u5), .unset] [])) _
      refine XS.iconst X.here hx rfl (hb hby at_64) ?_
      show Steps p.tables e below (T.setTop (mkF m 65 #[.val (.int p1), .val (.int u1), .val (.int u2), .val (.int u3), .val (.int u4), .val (.int u5), .unset] [(.int (0 : Int32))])) _
      subst hv
      exact hk
  · rw [if_neg hc52] at hv
    refine XS.ifYes X.here hx rfl (pc0 := 52) (pc' := 64) rfl (hb hby at_52) rfl ((if0 _ _).trans (feq hc52).2) (by decide) (by decide) ?_
    show Steps p.tables e below (T.setTop (mkF m 64 #[.val (.int p1), .val (.int u1), .val (.int u2), .val (.int u3), .val (.int u4), .val (.int u5), .unset] [])) _
    refine XS.iconst X.here hx rfl (hb hby at_64) ?_
    show Steps p.tables e below (T.setTop (mkF m 65 #[.val (.int p1), .val (.int u1), .val (.int u2), .val (.int u3), .val (.int u4), .val (.int u5), .unset] [(.int (0 : Int32))])) _
    subst hv
    exact hk
theorem own_sgn (x : Int32) : ((x.toUInt32 >>> ((31 : Int32) &&& 31).toUInt32).toInt32) = (1 : Int32) ↔ x < (0 : Int32) := by
  have q := c_iushr x (31 : Int32) 31 (by decide) (by decide)
  have b1 := Int32.le_toInt x
  have b2 := Int32.toInt_lt x
  have e0 : (0 : Int32).toInt = 0 := by decide
  have e1 : (1 : Int32).toInt = 1 := by decide
  have e2 : ((2 ^ 31 : Nat) : Int) = 2147483648 := by decide
  rw [← Int32.toInt_inj, q, Int32.lt_iff_toInt_lt, e0, e1, e2]
  omega
theorem own_s1 (a b : Addr) (x u1 u2 u3 u4 : Int32) : own_hold a a b x = own_zero x u1 u2 u3 u4 := by
  unfold own_hold own_zero; rw [if_pos rfl]
theorem own_s2 (a b : Addr) (h : ¬ b = a) (x u1 u2 u3 : Int32) : own_hold b a b x = own_neg x u1 u2 u3 := by
  unfold own_hold own_neg; rw [if_neg h, if_pos rfl]
  by_cases q : x < (0 : Int32)
  · rw [if_pos q, if_pos ((own_sgn x).mpr q)]
  · rw [if_neg q, if_neg (fun z => q ((own_sgn x).mp z))]
theorem own_s3 (a b c : Addr) (h1 : ¬ c = a) (h2 : ¬ c = b) (x u1 u2 u3 v1 v2 v3 w1 w2 w3 w4 : Int32) : own_hold c a b x = own_posi x u1 u2 u3 (own_neg x v1 v2 v3) (own_zero x w1 w2 w3 w4) := by
  unfold own_hold own_posi own_neg own_zero; rw [if_neg h1, if_neg h2]
  simp only [own_sgn]
  have e0 : (0 : Int32).toInt = 0 := by decide
  by_cases q : (0 : Int32) < x
  · have q1 : ¬ x < (0 : Int32) := by rw [Int32.lt_iff_toInt_lt] at *; omega
    have q2 : ¬ x = (0 : Int32) := by rw [← Int32.toInt_inj]; rw [Int32.lt_iff_toInt_lt] at q; omega
    simp only [if_pos q, if_neg q1, if_neg q2]; decide
  · rw [if_neg q]
    by_cases q1 : x < (0 : Int32)
    · have q2 : ¬ x = (0 : Int32) := by rw [← Int32.toInt_inj]; rw [Int32.lt_iff_toInt_lt] at q1; omega
      simp only [if_pos q1, if_neg q2]; decide
    · have q2 : x = (0 : Int32) := by rw [← Int32.toInt_inj]; rw [Int32.lt_iff_toInt_lt] at q q1; omega
      simp only [if_neg q1, if_pos q2]; decide
theorem own_eqI {args : Array Value} {first s : State} {o : Option Outcome} {idx : List Nat} {t : Term} {n : Int32} (h : (Jvm.Cond.eq t (Term.int n)).value args first o s idx = some true) : t.eval args first o idx s = some (.int n) := by
  obtain ⟨x, y, hx, hy, k1, k2⟩ := cmp_v (Or.inl h)
  have e : y = .int n := by simpa [Term.eval] using hy.symm
  subst e
  obtain ⟨z, rfl⟩ := k2
  have q : z = n := by simpa [Cond.value, hx, hy] using h
  rw [hx, q]
theorem ef_0 (m : MethodId) (x0 : Int32) : entryFrame m #[(.int x0)] maxLocals = mkF m 0 #[.val (.int x0), .unset, .unset, .unset, .unset, .unset, .unset] [] := by first | (simp [entryFrame, mkF, argsToLocals, Value.category, maxLocals]; done) | rfl
theorem pn_0 : plainName "com/example/querent/querent/expr/OperatorHoldsForPinLaw" = true := by first | (simp [plainName, overriddenIn]; done) | decide +kernel
def Q_rm0 (Z : State) (p1 : Int32) (ai ap af : Addr) (h0 : Heap) (n0 : Nat) (v : Option Value) (h : Heap) (L : List Loc) : Prop := v = some (.int (1 : Int32)) ∧ Fr n0 L
set_option maxRecDepth 65536 in
set_option maxHeartbeats 40000000 in
theorem rm0 (l : Launch) (Z : State) (a0 : Array Value) (hw : ∀ d ∈ tables_1, d.before a0 Z = true) (ws : List Jvm.Cond) (p1 : Int32) (ai ap af : Addr) (h0 : Heap) (n0 : Nat) (Z0 : n0 ≤ h0.size) (SI : Sta Z h0 "com/example/querent/querent/expr/NodeComparisonExpr$Operator" "IS" "Lcom/example/querent/querent/expr/NodeComparisonExpr$Operator;" (.ref ai)) (SP : Sta Z h0 "com/example/querent/querent/expr/NodeComparisonExpr$Operator" "PRECEDES" "Lcom/example/querent/querent/expr/NodeComparisonExpr$Operator;" (.ref ap)) (SF : Sta Z h0 "com/example/querent/querent/expr/NodeComparisonExpr$Operator" "FOLLOWS" "Lcom/example/querent/querent/expr/NodeComparisonExpr$Operator;" (.ref af)) (EI : Exa Z h0 ai "com/example/querent/querent/expr/NodeComparisonExpr$Operator") (EP : Exa Z h0 ap "com/example/querent/querent/expr/NodeComparisonExpr$Operator") (EF : Exa Z h0 af "com/example/querent/querent/expr/NodeComparisonExpr$Operator") (n1 : ¬ ap = ai) (n2 : ¬ af = ai) (n3 : ¬ af = ap) :
    MetFree l x (head1 (Jvm.Cond.code x code maxLocals ret :: ws) room_1) (fun a U => a = #[(.int p1)] ∧ Z.Warmed39 U.vm ∧ U.heap = h0) (fun _ _ _ _ _ => True) (fun _ U o U' => ∃ v L, o = .returned v ∧ Q_rm0 Z p1 ai ap af h0 n0 v U'.heap L ∧ FrameEnd U o U' L 0 0) := by
  refine MetFree.of_bodySF (plainFor_of_name pn_0) hisR ?_
  intro p e s m args below meth c s₁ Bd hml0 hP hK
  obtain ⟨rfl, hZ, hh⟩ := hP
  have hx := Bd.exec
  have hby := Bd.bytes
  have hml : c.maxLocals = 7 := hml0
  have hown : s.vm.findClass "com/example/querent/querent/expr/OperatorHoldsForPinLaw" = some m.cls := findClass_of_methodNamed Bd.named
  have hnm := (name_of_methodNamed Bd.named Bd.method).1
  have X0 : Stand p l e room_1 s m #[(.int p1)] below meth c s₁ [] 0 0 := Stand.of_body Bd
  have e0 : s₁.heap = h0 := by rw [← hh, Bd.state]; rfl
  have N0 := Fr.nil n0
  have pre0 : ∀ t, Steps p.tables e below (s₁.setTop (mkF m 0 #[.val (.int p1), .unset, .unset, .unset, .unset, .unset, .unset] [])) t → Steps p.tables e below (s₁.setTop (entryFrame m #[(.int p1)] maxLocals)) t := fun t k => castTop (ef_0 m p1) k
  obtain ⟨T1, X1, e1, st1⟩ := getS2 X0 hx hZ hown (host := "") (Or.inl (hw _ (List.mem_of_getElem? (i := 0) rfl))) Via.refl e0 SI (g := (mkF m 0 #[.val (.int p1), .unset, .unset, .unset, .unset, .unset, .unset] [])) rfl (hb hby at_0)
  have K1 : ∀ t, Steps p.tables e below (T1.setTop (mkF m 3 #[.val (.int p1), .unset, .unset, .unset, .unset, .unset, .unset] [(.ref ai)])) t → Steps p.tables e below (s₁.setTop (entryFrame m #[(.int p1)] maxLocals)) t := fun t hk => pre0 t (st1 _ hk)
  have K2 : ∀ t, Steps p.tables e below (T1.setTop (mkF m 4 #[.val (.int p1), .unset, .unset, .unset, .unset, .unset, .unset] [(.int p1), (.ref ai)])) t → Steps p.tables e below (s₁.setTop (entryFrame m #[(.int p1)] maxLocals)) t := by
    intro t hk
    refine K1 t ?_
    show Steps p.tables e below (T1.setTop (mkF m 3 #[.val (.int p1), .unset, .unset, .unset, .unset, .unset, .unset] [(.ref ai)])) _
    refine XS.iloadN X1.here hx rfl (hb hby at_3) rfl ?_
    show Steps p.tables e below (T1.setTop (mkF m 4 #[.val (.int p1), .unset, .unset, .unset, .unset, .unset, .unset] [(.int p1), (.ref ai)])) _
    exact hk
  obtain ⟨cq3, kq3, q3a, q3b, q3c⟩ := isOf hZ e1 EI
  obtain ⟨_, _, ⟨T3, L3, k3, n3⟩, -, X3, ⟨Lc3, hQ3, l3, y3, z3⟩, st3⟩ := X1.virtualBack hx (y := (⟨"com/example/querent/querent/expr/NodeComparisonExpr$Operator", "holdsFor", "(I)Z"⟩ : MethodName)) (z := (⟨"com/example/querent/querent/expr/NodeComparisonExpr$Operator", "holdsFor", "(I)Z"⟩ : MethodName)) hown (mvT hZ (hw _ (List.mem_of_getElem? (i := 3) rfl))) (mvT hZ (hw _ (List.mem_of_getElem? (i := 4) rfl))) (notFace_of_selects (args := #[]) (mvT hZ (hw _ (List.mem_of_getElem? (i := 6) rfl)))) (mvT hZ (hw _ (List.mem_of_getElem? (i := 6) rfl))) (mvT hZ (hw _ (List.mem_of_getElem? (i := 5) rfl))) (by decide) (backOf (W := 0) (rm1 l Z a0 hw [] ai p1 ai ap h0 n0 Z0 SI SP) hZ (hw _ (List.mem_of_getElem? (i := 7) rfl)) (hw _ (List.mem_of_getElem? (i := 1) rfl)) (by decide) (by decide)) q3a q3c (g := (mkF m 4 #[.val (.int p1), .unset, .unset, .unset, .unset, .unset, .unset] [(.int p1), (.ref ai)])) rfl (by rw [hml]; rfl) (Steps.refl _) (argsL := [(.int p1)]) (rest := []) (lenOf (by decide +kernel : parseMethodDescriptor "(I)Z" = some ⟨[.int], (some .boolean)⟩) rfl) rfl (by show 2 * 0 + _ ≤ _; exact Nat.le_of_eq rfl) (hb hby at_4) (fun _ _ => ⟨rfl, e1, (by decide : 0 + 0 ≤ _), (by decide : 0 + 0 ≤ _)⟩)
  dsimp only [Pt.U, Pt.locs, Pt.cells, Pt.slots] at X3 l3 y3 z3 st3 hQ3
  subst l3 y3 z3
  obtain ⟨rfl, Nq3, e3⟩ := hQ3
  have N3 := Fr.app N0 Nq3
  have K3 : ∀ t, Steps p.tables e below (T3.setTop (mkF m 7 #[.val (.int p1), .unset, .unset, .unset, .unset, .unset, .unset] [(.int (own_hold ai ai ap p1))])) t → Steps p.tables e below (s₁.setTop (entryFrame m #[(.int p1)] maxLocals)) t := fun t hk => K2 t (st3.trans hk)
  have K4 : ∀ t, Steps p.tables e below (T3.setTop (mkF m 8 #[.val (.int p1), .val (.int (own_hold ai ai ap p1)), .unset, .unset, .unset, .unset, .unset] [])) t → Steps p.tables e below (s₁.setTop (entryFrame m #[(.int p1)] maxLocals)) t := by
    intro t hk
    refine K3 t ?_
    show Steps p.tables e below (T3.setTop (mkF m 7 #[.val (.int p1), .unset, .unset, .unset, .unset, .unset, .unset] [(.int (own_hold ai ai ap p1))])) _
    refine XS.istoreN X3.here hx rfl (hb hby at_7) rfl (l' := #[.val (.int p1), .val (.int (own_hold ai ai ap p1)), .unset, .unset, .unset, .unset, .unset]) rfl ?_
    show Steps p.tables e below (T3.setTop (mkF m 8 #[.val (.int p1), .val (.int (own_hold ai ai ap p1)), .unset, .unset, .unset, .unset, .unset] [])) _
    exact hk
  obtain ⟨T5, X5, e5, st5⟩ := getS2 X3 hx hZ hown (host := "") (Or.inl (hw _ (List.mem_of_getElem? (i := 9) rfl))) Via.refl e3 SP (g := (mkF m 8 #[.val (.int p1), .val (.int (own_hold ai ai ap p1)), .unset, .unset, .unset, .unset, .unset] [])) rfl (hb hby at_8)
  have K5 : ∀ t, Steps p.tables e below (T5.setTop (mkF m 11 #[.val (.int p1), .val (.int (own_hold ai ai ap p1)), .unset, .unset, .unset, .unset, .unset] [(.ref ap)])) t → Steps p.tables e below (s₁.setTop (entryFrame m #[(.int p1)] maxLocals)) t := fun t hk => K4 t (st5 _ hk)
  have K6 : ∀ t, Steps p.tables e below (T5.setTop (mkF m 12 #[.val (.int p1), .val (.int (own_hold ai ai ap p1)), .unset, .unset, .unset, .unset, .unset] [(.int p1), (.ref ap)])) t → Steps p.tables e below (s₁.setTop (entryFrame m #[(.int p1)] maxLocals)) t := by
    intro t hk
    refine K5 t ?_
    show Steps p.tables e below (T5.setTop (mkF m 11 #[.val (.int p1), .val (.int (own_hold ai ai ap p1)), .unset, .unset, .unset, .unset, .unset] [(.ref ap)])) _
    refine XS.iloadN X5.here hx rfl (hb hby at_11) rfl ?_
    show Steps p.tables e below (T5.setTop (mkF m 12 #[.val (.int p1), .val (.int (own_hold ai ai ap p1)), .unset, .unset, .unset, .unset, .unset] [(.int p1), (.ref ap)])) _
    exact hk
  obtain ⟨cq7, kq7, q7a, q7b, q7c⟩ := isOf hZ e5 EP
  obtain ⟨_, _, ⟨T7, L7, k7, n7⟩, -, X7, ⟨Lc7, hQ7, l7, y7, z7⟩, st7⟩ := X5.virtualBack hx (y := (⟨"com/example/querent/querent/expr/NodeComparisonExpr$Operator", "holdsFor", "(I)Z"⟩ : MethodName)) (z := (⟨"com/example/querent/querent/expr/NodeComparisonExpr$Operator", "holdsFor", "(I)Z"⟩ : MethodName)) hown (mvT hZ (hw _ (List.mem_of_getElem? (i := 3) rfl))) (mvT hZ (hw _ (List.mem_of_getElem? (i := 4) rfl))) (notFace_of_selects (args := #[]) (mvT hZ (hw _ (List.mem_of_getElem? (i := 6) rfl)))) (mvT hZ (hw _ (List.mem_of_getElem? (i := 6) rfl))) (mvT hZ (hw _ (List.mem_of_getElem? (i := 5) rfl))) (by decide) (backOf (W := 0) (rm1 l Z a0 hw [] ap p1 ai ap h0 n0 Z0 SI SP) hZ (hw _ (List.mem_of_getElem? (i := 7) rfl)) (hw _ (List.mem_of_getElem? (i := 1) rfl)) (by decide) (by decide)) q7a q7c (g := (mkF m 12 #[.val (.int p1), .val (.int (own_hold ai ai ap p1)), .unset, .unset, .unset, .unset, .unset] [(.int p1), (.ref ap)])) rfl (by rw [hml]; rfl) (Steps.refl _) (argsL := [(.int p1)]) (rest := []) (lenOf (by decide +kernel : parseMethodDescriptor "(I)Z" = some ⟨[.int], (some .boolean)⟩) rfl) rfl (by show 2 * 0 + _ ≤ _; exact Nat.le_of_eq rfl) (hb hby at_12) (fun _ _ => ⟨rfl, e5, (by decide : 0 + 0 + 0 ≤ _), (by decide : 0 + 0 + 0 ≤ _)⟩)
  dsimp only [Pt.U, Pt.locs, Pt.cells, Pt.slots] at X7 l7 y7 z7 st7 hQ7
  subst l7 y7 z7
  obtain ⟨rfl, Nq7, e7⟩ := hQ7
  have N7 := Fr.app N3 Nq7
  have K7 : ∀ t, Steps p.tables e below (T7.setTop (mkF m 15 #[.val (.int p1), .val (.int (own_hold ai ai ap p1)), .unset, .unset, .unset, .unset, .unset] [(.int (own_hold ap ai ap p1))])) t → Steps p.tables e below (s₁.setTop (entryFrame m #[(.int p1)] maxLocals)) t := fun t hk => K6 t (st7.trans hk)
  have K8 : ∀ t, Steps p.tables e below (T7.setTop (mkF m 16 #[.val (.int p1), .val (.int (own_hold ai ai ap p1)), .val (.int (own_hold ap ai ap p1)), .unset, .unset, .unset, .unset] [])) t → Steps p.tables e below (s₁.setTop (entryFrame m #[(.int p1)] maxLocals)) t := by
    intro t hk
    refine K7 t ?_
    show Steps p.tables e below (T7.setTop (mkF m 15 #[.val (.int p1), .val (.int (own_hold ai ai ap p1)), .unset, .unset, .unset, .unset, .unset] [(.int (own_hold ap ai ap p1))])) _
    refine XS.istoreN X7.here hx rfl (hb hby at_15) rfl (l' := #[.val (.int p1), .val (.int (own_hold ai ai ap p1)), .val (.int (own_hold ap ai ap p1)), .unset, .unset, .unset, .unset]) rfl ?_
    show Steps p.tables e below (T7.setTop (mkF m 16 #[.val (.int p1), .val (.int (own_hold ai ai ap p1)), .val (.int (own_hold ap ai ap p1)), .unset, .unset, .unset, .unset] [])) _
    exact hk
  obtain ⟨T9, X9, e9, st9⟩ := getS2 X7 hx hZ hown (host := "") (Or.inl (hw _ (List.mem_of_getElem? (i := 12) rfl))) Via.refl e7 SF (g := (mkF m 16 #[.val (.int p1), .val (.int (own_hold ai ai ap p1)), .val (.int (own_hold ap ai ap p1)), .unset, .unset, .unset, .unset] [])) rfl (hb hby at_16)
  have K9 : ∀ t, Steps p.tables e below (T9.setTop (mkF m 19 #[.val (.int p1), .val (.int (own_hold ai ai ap p1)), .val (.int (own_hold ap ai ap p1)), .unset, .unset, .unset, .unset] [(.ref af)])) t → Steps p.tables e below (s₁.setTop (entryFrame m #[(.int p1)] maxLocals)) t := fun t hk => K8 t (st9 _ hk)
  have K10 : ∀ t, Steps p.tables e below (T9.setTop (mkF m 20 #[.val (.int p1), .val (.int (own_hold ai ai ap p1)), .val (.int (own_hold ap ai ap p1)), .unset, .unset, .unset, .unset] [(.int p1), (.ref af)])) t → Steps p.tables e below (s₁.setTop (entryFrame m #[(.int p1)] maxLocals)) t := by
    intro t hk
    refine K9 t ?_
    show Steps p.tables e below (T9.setTop (mkF m 19 #[.val (.int p1), .val (.int (own_hold ai ai ap p1)), .val (.int (own_hold ap ai ap p1)), .unset, .unset, .unset, .unset] [(.ref af)])) _
    refine XS.iloadN X9.here hx rfl (hb hby at_19) rfl ?_
    show Steps p.tables e below (T9.setTop (mkF m 20 #[.val (.int p1), .val (.int (own_hold ai ai ap p1)), .val (.int (own_hold ap ai ap p1)), .unset, .unset, .unset, .unset] [(.int p1), (.ref af)])) _
    exact hk
  obtain ⟨cq11, kq11, q11a, q11b, q11c⟩ := isOf hZ e9 EF
  obtain ⟨_, _, ⟨T11, L11, k11, n11⟩, -, X11, ⟨Lc11, hQ11, l11, y11, z11⟩, st11⟩ := X9.virtualBack hx (y := (⟨"com/example/querent/querent/expr/NodeComparisonExpr$Operator", "holdsFor", "(I)Z"⟩ : MethodName)) (z := (⟨"com/example/querent/querent/expr/NodeComparisonExpr$Operator", "holdsFor", "(I)Z"⟩ : MethodName)) hown (mvT hZ (hw _ (List.mem_of_getElem? (i := 3) rfl))) (mvT hZ (hw _ (List.mem_of_getElem? (i := 4) rfl))) (notFace_of_selects (args := #[]) (mvT hZ (hw _ (List.mem_of_getElem? (i := 6) rfl)))) (mvT hZ (hw _ (List.mem_of_getElem? (i := 6) rfl))) (mvT hZ (hw _ (List.mem_of_getElem? (i := 5) rfl))) (by decide) (backOf (W := 0) (rm1 l Z a0 hw [] af p1 ai ap h0 n0 Z0 SI SP) hZ (hw _ (List.mem_of_getElem? (i := 7) rfl)) (hw _ (List.mem_of_getElem? (i := 1) rfl)) (by decide) (by decide)) q11a q11c (g := (mkF m 20 #[.val (.int p1), .val (.int (own_hold ai ai ap p1)), .val (.int (own_hold ap ai ap p1)), .unset, .unset, .unset, .unset] [(.int p1), (.ref af)])) rfl (by rw [hml]; rfl) (Steps.refl _) (argsL := [(.int p1)]) (rest := []) (lenOf (by decide +kernel : parseMethodDescriptor "(I)Z" = some ⟨[.int], (some .boolean)⟩) rfl) rfl (by show 2 * 0 + _ ≤ _; exact Nat.le_of_eq rfl) (hb hby at_20) (fun _ _ => ⟨rfl, e9, (by decide : 0 + 0 + 0 + 0 ≤ _), (by decide : 0 + 0 + 0 + 0 ≤ _)⟩)
  dsimp only [Pt.U, Pt.locs, Pt.cells, Pt.slots] at X11 l11 y11 z11 st11 hQ11
  subst l11 y11 z11
  obtain ⟨rfl, Nq11, e11⟩ := hQ11
  have N11 := Fr.app N7 Nq11
  have K11 : ∀ t, Steps p.tables e below (T11.setTop (mkF m 23 #[.val (.int p1), .val (.int (own_hold ai ai ap p1)), .val (.int (own_hold ap ai ap p1)), .unset, .unset, .unset, .unset] [(.int (own_hold af ai ap p1))])) t → Steps p.tables e below (s₁.setTop (entryFrame m #[(.int p1)] maxLocals)) t := fun t hk => K10 t (st11.trans hk)
  have K12 : ∀ t, Steps p.tables e below (T11.setTop (mkF m 24 #[.val (.int p1), .val (.int (own_hold ai ai ap p1)), .val (.int (own_hold ap ai ap p1)), .val (.int (own_hold af ai ap p1)), .unset, .unset, .unset] [])) t → Steps p.tables e below (s₁.setTop (entryFrame m #[(.int p1)] maxLocals)) t := by
    intro t hk
    refine K11 t ?_
    show Steps p.tables e below (T11.setTop (mkF m 23 #[.val (.int p1), .val (.int (own_hold ai ai ap p1)), .val (.int (own_hold ap ai ap p1)), .unset, .unset, .unset, .unset] [(.int (own_hold af ai ap p1))])) _
    refine XS.istoreN X11.here hx rfl (hb hby at_23) rfl (l' := #[.val (.int p1), .val (.int (own_hold ai ai ap p1)), .val (.int (own_hold ap ai ap p1)), .val (.int (own_hold af ai ap p1)), .unset, .unset, .unset]) rfl ?_
    show Steps p.tables e below (T11.setTop (mkF m 24 #[.val (.int p1), .val (.int (own_hold ai ai ap p1)), .val (.int (own_hold ap ai ap p1)), .val (.int (own_hold af ai ap p1)), .unset, .unset, .unset] [])) _
    exact hk
  have K13 : ∀ t, Steps p.tables e below (T11.setTop (mkF m 37 #[.val (.int p1), .val (.int (own_hold ai ai ap p1)), .val (.int (own_hold ap ai ap p1)), .val (.int (own_hold af ai ap p1)), .unset, .unset, .unset] [(.int (own_neg p1 (own_hold ai ai ap p1) (own_hold ap ai ap p1) (own_hold af ai ap p1)))])) t → Steps p.tables e below (s₁.setTop (entryFrame m #[(.int p1)] maxLocals)) t := fun t hk => K12 t (own_neg_s X11 hx hby hown hZ hw p1 (own_hold ai ai ap p1) (own_hold ap ai ap p1) (own_hold af ai ap p1) _ rfl hk)
  have K14 : ∀ t, Steps p.tables e below (T11.setTop (mkF m 39 #[.val (.int p1), .val (.int (own_hold ai ai ap p1)), .val (.int (own_hold ap ai ap p1)), .val (.int (own_hold af ai ap p1)), .val (.int (own_neg p1 (own_hold ai ai ap p1) (own_hold ap ai ap p1) (own_hold af ai ap p1))), .unset, .unset] [])) t → Steps p.tables e below (s₁.setTop (entryFrame m #[(.int p1)] maxLocals)) t := by
    intro t hk
    refine K13 t ?_
    show Steps p.tables e below (T11.setTop (mkF m 37 #[.val (.int p1), .val (.int (own_hold ai ai ap p1)), .val (.int (own_hold ap ai ap p1)), .val (.int (own_hold af ai ap p1)), .unset, .unset, .unset] [(.int (own_neg p1 (own_hold ai ai ap p1) (own_hold ap ai ap p1) (own_hold af ai ap p1)))])) _
    refine XS.istore X11.here hx rfl (hb hby at_37) rfl (l' := #[.val (.int p1), .val (.int (own_hold ai ai ap p1)), .val (.int (own_hold ap ai ap p1)), .val (.int (own_hold af ai ap p1)), .val (.int (own_neg p1 (own_hold ai ai ap p1) (own_hold ap ai ap p1) (own_hold af ai ap p1))), .unset, .unset]) rfl ?_
    show Steps p.tables e below (T11.setTop (mkF m 39 #[.val (.int p1), .val (.int (own_hold ai ai ap p1)), .val (.int (own_hold ap ai ap p1)), .val (.int (own_hold af ai ap p1)), .val (.int (own_neg p1 (own_hold ai ai ap p1) (own_hold ap ai ap p1) (own_hold af ai ap p1))), .unset, .unset] [])) _
    exact hk
  have K15 : ∀ t, Steps p.tables e below (T11.setTop (mkF m 48 #[.val (.int p1), .val (.int (own_hold ai ai ap p1)), .val (.int (own_hold ap ai ap p1)), .val (.int (own_hold af ai ap p1)), .val (.int (own_neg p1 (own_hold ai ai ap p1) (own_hold ap ai ap p1) (own_hold af ai ap p1))), .unset, .unset] [(.int (own_zero p1 (own_hold ai ai ap p1) (own_hold ap ai ap p1) (own_hold af ai ap p1) (own_neg p1 (own_hold ai ai ap p1) (own_hold ap ai ap p1) (own_hold af ai ap p1))))])) t → Steps p.tables e below (s₁.setTop (entryFrame m #[(.int p1)] maxLocals)) t := fun t hk => K14 t (own_zero_s X11 hx hby hown hZ hw p1 (own_hold ai ai ap p1) (own_hold ap ai ap p1) (own_hold af ai ap p1) (own_neg p1 (own_hold ai ai ap p1) (own_hold ap ai ap p1) (own_hold af ai ap p1)) _ rfl hk)
  have K16 : ∀ t, Steps p.tables e below (T11.setTop (mkF m 50 #[.val (.int p1), .val (.int (own_hold ai ai ap p1)), .val (.int (own_hold ap ai ap p1)), .val (.int (own_hold af ai ap p1)), .val (.int (own_neg p1 (own_hold ai ai ap p1) (own_hold ap ai ap p1) (own_hold af ai ap p1))), .val (.int (own_zero p1 (own_hold ai ai ap p1) (own_hold ap ai ap p1) (own_hold af ai ap p1) (own_neg p1 (own_hold ai ai ap p1) (own_hold ap ai ap p1) (own_hold af ai ap p1)))), .unset] [])) t → Steps p.tables e below (s₁.setTop (entryFrame m #[(.int p1)] maxLocals)) t := by
    intro t hk
    refine K15 t ?_
    show Steps p.tables e below (T11.setTop (mkF m 48 #[.val (.int p1), .val (.int (own_hold ai ai ap p1)), .val (.int (own_hold ap ai ap p1)), .val (.int (own_hold af ai ap p1)), .val (.int (own_neg p1 (own_hold ai ai ap p1) (own_hold ap ai ap p1) (own_hold af ai ap p1))), .unset, .unset] [(.int (own_zero p1 (own_hold ai ai ap p1) (own_hold ap ai ap p1) (own_hold af ai ap p1) (own_neg p1 (own_hold ai ai ap p1) (own_hold ap ai ap p1) (own_hold af ai ap p1))))])) _
    refine XS.istore X11.here hx rfl (hb hby at_48) rfl (l' := #[.val (.int p1), .val (.int (own_hold ai ai ap p1)), .val (.int (own_hold ap ai ap p1)), .val (.int (own_hold af ai ap p1)), .val (.int (own_neg p1 (own_hold ai ai ap p1) (own_hold ap ai ap p1) (own_hold af ai ap p1))), .val (.int (own_zero p1 (own_hold ai ai ap p1) (own_hold ap ai ap p1) (own_hold af ai ap p1) (own_neg p1 (own_hold ai ai ap p1) (own_hold ap ai ap p1) (own_hold af ai ap p1)))), .unset]) rfl ?_
    show Steps p.tables e below (T11.setTop (mkF m 50 #[.val (.int p1), .val (.int (own_hold ai ai ap p1)), .val (.int (own_hold ap ai ap p1)), .val (.int (own_hold af ai ap p1)), .val (.int (own_neg p1 (own_hold ai ai ap p1) (own_hold ap ai ap p1) (own_hold af ai ap p1))), .val (.int (own_zero p1 (own_hold ai ai ap p1) (own_hold ap ai ap p1) (own_hold af ai ap p1) (own_neg p1 (own_hold ai ai ap p1) (own_hold ap ai ap p1) (own_hold af ai ap p1)))), .unset] [])) _
    exact hk
  have K17 : ∀ t, Steps p.tables e below (T11.setTop (mkF m 65 #[.val (.int p1), .val (.int (own_hold ai ai ap p1)), .val (.int (own_hold ap ai ap p1)), .val (.int (own_hold af ai ap p1)), .val (.int (own_neg p1 (own_hold ai ai ap p1) (own_hold ap ai ap p1) (own_hold af ai ap p1))), .val (.int (own_zero p1 (own_hold ai ai ap p1) (own_hold ap ai ap p1) (own_hold af ai ap p1) (own_neg p1 (own_hold ai ai ap p1) (own_hold ap ai ap p1) (own_hold af ai ap p1)))), .unset] [(.int (own_posi p1 (own_hold ai ai ap p1) (own_hold ap ai ap p1) (own_hold af ai ap p1) (own_neg p1 (own_hold ai ai ap p1) (own_hold ap ai ap p1) (own_hold af ai ap p1)) (own_zero p1 (own_hold ai ai ap p1) (own_hold ap ai ap p1) (own_hold af ai ap p1) (own_neg p1 (own_hold ai ai ap p1) (own_hold ap ai ap p1) (own_hold af ai ap p1)))))])) t → Steps p.tables e below (s₁.setTop (entryFrame m #[(.int p1)] maxLocals)) t := fun t hk => K16 t (own_posi_s X11 hx hby hown hZ hw p1 (own_hold ai ai ap p1) (own_hold ap ai ap p1) (own_hold af ai ap p1) (own_neg p1 (own_hold ai ai ap p1) (own_hold ap ai ap p1) (own_hold af ai ap p1)) (own_zero p1 (own_hold ai ai ap p1) (own_hold ap ai ap p1) (own_hold af ai ap p1) (own_neg p1 (own_hold ai ai ap p1) (own_hold ap ai ap p1) (own_hold af ai ap p1))) _ rfl hk)
  have K18 : ∀ t, Steps p.tables e below (T11.setTop (mkF m 70 #[.val (.int p1), .val (.int (own_hold ai ai ap p1)), .val (.int (own_hold ap ai ap p1)), .val (.int (own_hold af ai ap p1)), .val (.int (own_neg p1 (own_hold ai ai ap p1) (own_hold ap ai ap p1) (own_hold af ai ap p1))), .val (.int (own_zero p1 (own_hold ai ai ap p1) (own_hold ap ai ap p1) (own_hold af ai ap p1) (own_neg p1 (own_hold ai ai ap p1) (own_hold ap ai ap p1) (own_hold af ai ap p1)))), .val (.int (own_posi p1 (own_hold ai ai ap p1) (own_hold ap ai ap p1) (own_hold af ai ap p1) (own_neg p1 (own_hold ai ai ap p1) (own_hold ap ai ap p1) (own_hold af ai ap p1)) (own_zero p1 (own_hold ai ai ap p1) (own_hold ap ai ap p1) (own_hold af ai ap p1) (own_neg p1 (own_hold ai ai ap p1) (own_hold ap ai ap p1) (own_hold af ai ap p1)))))] [(.int (own_zero p1 (own_hold ai ai ap p1) (own_hold ap ai ap p1) (own_hold af ai ap p1) (own_neg p1 (own_hold ai ai ap p1) (own_hold ap ai ap p1) (own_hold af ai ap p1)))), (.int (own_hold ai ai ap p1))])) t → Steps p.tables e below (s₁.setTop (entryFrame m #[(.int p1)] maxLocals)) t := by
    intro t hk
    refine K17 t ?_
    show Steps p.tables e below (T11.setTop (mkF m 65 #[.val (.int p1), .val (.int (own_hold ai ai ap p1)), .val (.int (own_hold ap ai ap p1)), .val (.int (own_hold af ai ap p1)), .val (.int (own_neg p1 (own_hold ai ai ap p1) (own_hold ap ai ap p1) (own_hold af ai ap p1))), .val (.int (own_zero p1 (own_hold ai ai ap p1) (own_hold ap ai ap p1) (own_hold af ai ap p1) (own_neg p1 (own_hold ai ai ap p1) (own_hold ap ai ap p1) (own_hold af ai ap p1)))), .unset] [(.int (own_posi p1 (own_hold ai ai ap p1) (own_hold ap ai ap p1) (own_hold af ai ap p1) (own_neg p1 (own_hold ai ai ap p1) (own_hold ap ai ap p1) (own_hold af ai ap p1)) (own_zero p1 (own_hold ai ai ap p1) (own_hold ap ai ap p1) (own_hold af ai ap p1) (own_neg p1 (own_hold ai ai ap p1) (own_hold ap ai ap p1) (own_hold af ai ap p1)))))])) _
    refine XS.istore X11.here hx rfl (hb hby at_65) rfl (l' := #[.val (.int p1), .val (.int (own_hold ai ai ap p1)), .val (.int (own_hold ap ai ap p1)), .val (.int (own_hold af ai ap p1)), .val (.int (own_neg p1 (own_hold ai ai ap p1) (own_hold ap ai ap p1) (own_hold af ai ap p1))), .val (.int (own_zero p1 (own_hold ai ai ap p1) (own_hold ap ai ap p1) (own_hold af ai ap p1) (own_neg p1 (own_hold ai ai ap p1) (own_hold ap ai ap p1) (own_hold af ai ap p1)))), .val (.int (own_posi p1 (own_hold ai ai ap p1) (own_hold ap ai ap p1) (own_hold af ai ap p1) (own_neg p1 (own_hold ai ai ap p1) (own_hold ap ai ap p1) (own_hold af ai ap p1)) (own_zero p1 (own_hold ai ai ap p1) (own_hold ap ai ap p1) (own_hold af ai ap p1) (own_neg p1 (own_hold ai ai ap p1) (own_hold ap ai ap p1) (own_hold af ai ap p1)))))]) rfl ?_
    show Steps p.tables e below (T11.setTop (mkF m 67 #[.val (.int p1), .val (.int (own_hold ai ai ap p1)), .val (.int (own_hold ap ai ap p1)), .val (.int (own_hold af ai ap p1)), .val (.int (own_neg p1 (own_hold ai ai ap p1) (own_hold ap ai ap p1) (own_hold af ai ap p1))), .val (.int (own_zero p1 (own_hold ai ai ap p1) (own_hold ap ai ap p1) (own_hold af ai ap p1) (own_neg p1 (own_hold ai ai ap p1) (own_hold ap ai ap p1) (own_hold af ai ap p1)))), .val (.int (own_posi p1 (own_hold ai ai ap p1) (own_hold ap ai ap p1) (own_hold af ai ap p1) (own_neg p1 (own_hold ai ai ap p1) (own_hold ap ai ap p1) (own_hold af ai ap p1)) (own_zero p1 (own_hold ai ai ap p1) (own_hold ap ai ap p1) (own_hold af ai ap p1) (own_neg p1 (own_hold ai ai ap p1) (own_hold ap ai ap p1) (own_hold af ai ap p1)))))] [])) _
    refine XS.iloadN X11.here hx rfl (hb hby at_67) rfl ?_
    show Steps p.tables e below (T11.setTop (mkF m 68 #[.val (.int p1), .val (.int (own_hold ai ai ap p1)), .val (.int (own_hold ap ai ap p1)), .val (.int (own_hold af ai ap p1)), .val (.int (own_neg p1 (own_hold ai ai ap p1) (own_hold ap ai ap p1) (own_hold af ai ap p1))), .val (.int (own_zero p1 (own_hold ai ai ap p1) (own_hold ap ai ap p1) (own_hold af ai ap p1) (own_neg p1 (own_hold ai ai ap p1) (own_hold ap ai ap p1) (own_hold af ai ap p1)))), .val (.int (own_posi p1 (own_hold ai ai ap p1) (own_hold ap ai ap p1) (own_hold af ai ap p1) (own_neg p1 (own_hold ai ai ap p1) (own_hold ap ai ap p1) (own_hold af ai ap p1)) (own_zero p1 (own_hold ai ai ap p1) (own_hold ap ai ap p1) (own_hold af ai ap p1) (own_neg p1 (own_hold ai ai ap p1) (own_hold ap ai ap p1) (own_hold af ai ap p1)))))] [(.int (own_hold ai ai ap p1))])) _
    refine XS.iload X11.here hx rfl (hb hby at_68) rfl ?_
    show Steps p.tables e below (T11.setTop (mkF m 70 #[.val (.int p1), .val (.int (own_hold ai ai ap p1)), .val (.int (own_hold ap ai ap p1)), .val (.int (own_hold af ai ap p1)), .val (.int (own_neg p1 (own_hold ai ai ap p1) (own_hold ap ai ap p1) (own_hold af ai ap p1))), .val (.int (own_zero p1 (own_hold ai ai ap p1) (own_hold ap ai ap p1) (own_hold af ai ap p1) (own_neg p1 (own_hold ai ai ap p1) (own_hold ap ai ap p1) (own_hold af ai ap p1)))), .val (.int (own_posi p1 (own_hold ai ai ap p1) (own_hold ap ai ap p1) (own_hold af ai ap p1) (own_neg p1 (own_hold ai ai ap p1) (own_hold ap ai ap p1) (own_hold af ai ap p1)) (own_zero p1 (own_hold ai ai ap p1) (own_hold ap ai ap p1) (own_hold af ai ap p1) (own_neg p1 (own_hold ai ai ap p1) (own_hold ap ai ap p1) (own_hold af ai ap p1)))))] [(.int (own_zero p1 (own_hold ai ai ap p1) (own_hold ap ai ap p1) (own_hold af ai ap p1) (own_neg p1 (own_hold ai ai ap p1) (own_hold ap ai ap p1) (own_hold af ai ap p1)))), (.int (own_hold ai ai ap p1))])) _
    exact hk
  have hc70 : (own_hold ai ai ap p1) = (own_zero p1 (own_hold ai ai ap p1) (own_hold ap ai ap p1) (own_hold af ai ap p1) (own_neg p1 (own_hold ai ai ap p1) (own_hold ap ai ap p1) (own_hold af ai ap p1))) := own_s1 _ _ _ _ _ _ _
  have K19 : ∀ t, Steps p.tables e below (T11.setTop (mkF m 73 #[.val (.int p1), .val (.int (own_hold ai ai ap p1)), .val (.int (own_hold ap ai ap p1)), .val (.int (own_hold af ai ap p1)), .val (.int (own_neg p1 (own_hold ai ai ap p1) (own_hold ap ai ap p1) (own_hold af ai ap p1))), .val (.int (own_zero p1 (own_hold ai ai ap p1) (own_hold ap ai ap p1) (own_hold af ai ap p1) (own_neg p1 (own_hold ai ai ap p1) (own_hold ap ai ap p1) (own_hold af ai ap p1)))), .val (.int (own_posi p1 (own_hold ai ai ap p1) (own_hold ap ai ap p1) (own_hold af ai ap p1) (own_neg p1 (own_hold ai ai ap p1) (own_hold ap ai ap p1) (own_hold af ai ap p1)) (own_zero p1 (own_hold ai ai ap p1) (own_hold ap ai ap p1) (own_hold af ai ap p1) (own_neg p1 (own_hold ai ai ap p1) (own_hold ap ai ap p1) (own_hold af ai ap p1)))))] [])) t → Steps p.tables e below (s₁.setTop (entryFrame m #[(.int p1)] maxLocals)) t := by
    intro t hk
    refine K18 t ?_
    show Steps p.tables e below (T11.setTop (mkF m 70 #[.val (.int p1), .val (.int (own_hold ai ai ap p1)), .val (.int (own_hold ap ai ap p1)), .val (.int (own_hold af ai ap p1)), .val (.int (own_neg p1 (own_hold ai ai ap p1) (own_hold ap ai ap p1) (own_hold af ai ap p1))), .val (.int (own_zero p1 (own_hold ai ai ap p1) (own_hold ap ai ap p1) (own_hold af ai ap p1) (own_neg p1 (own_hold ai ai ap p1) (own_hold ap ai ap p1) (own_hold af ai ap p1)))), .val (.int (own_posi p1 (own_hold ai ai ap p1) (own_hold ap ai ap p1) (own_hold af ai ap p1) (own_neg p1 (own_hold ai ai ap p1) (own_hold ap ai ap p1) (own_hold af ai ap p1)) (own_zero p1 (own_hold ai ai ap p1) (own_hold ap ai ap p1) (own_hold af ai ap p1) (own_neg p1 (own_hold ai ai ap p1) (own_hold ap ai ap p1) (own_hold af ai ap p1)))))] [(.int (own_zero p1 (own_hold ai ai ap p1) (own_hold ap ai ap p1) (own_hold af ai ap p1) (own_neg p1 (own_hold ai ai ap p1) (own_hold ap ai ap p1) (own_hold af ai ap p1)))), (.int (own_hold ai ai ap p1))])) _
    refine XS.icmpNo X11.here hx rfl (hb hby at_70) rfl (teq hc70).2 ?_
    exact hk
  have K20 : ∀ t, Steps p.tables e below (T11.setTop (mkF m 76 #[.val (.int p1), .val (.int (own_hold ai ai ap p1)), .val (.int (own_hold ap ai ap p1)), .val (.int (own_hold af ai ap p1)), .val (.int (own_neg p1 (own_hold ai ai ap p1) (own_hold ap ai ap p1) (own_hold af ai ap p1))), .val (.int (own_zero p1 (own_hold ai ai ap p1) (own_hold ap ai ap p1) (own_hold af ai ap p1) (own_neg p1 (own_hold ai ai ap p1) (own_hold ap ai ap p1) (own_hold af ai ap p1)))), .val (.int (own_posi p1 (own_hold ai ai ap p1) (own_hold ap ai ap p1) (own_hold af ai ap p1) (own_neg p1 (own_hold ai ai ap p1) (own_hold ap ai ap p1) (own_hold af ai ap p1)) (own_zero p1 (own_hold ai ai ap p1) (own_hold ap ai ap p1) (own_hold af ai ap p1) (own_neg p1 (own_hold ai ai ap p1) (own_hold ap ai ap p1) (own_hold af ai ap p1)))))] [(.int (own_neg p1 (own_hold ai ai ap p1) (own_hold ap ai ap p1) (own_hold af ai ap p1))), (.int (own_hold ap ai ap p1))])) t → Steps p.tables e below (s₁.setTop (entryFrame m #[(.int p1)] maxLocals)) t := by
    intro t hk
    refine K19 t ?_
    show Steps p.tables e below (T11.setTop (mkF m 73 #[.val (.int p1), .val (.int (own_hold ai ai ap p1)), .val (.int (own_hold ap ai ap p1)), .val (.int (own_hold af ai ap p1)), .val (.int (own_neg p1 (own_hold ai ai ap p1) (own_hold ap ai ap p1) (own_hold af ai ap p1))), .val (.int (own_zero p1 (own_hold ai ai ap p1) (own_hold ap ai ap p1) (own_hold af ai ap p1) (own_neg p1 (own_hold ai ai ap p1) (own_hold ap ai ap p1) (own_hold af ai ap p1)))), .val (.int (own_posi p1 (own_hold ai ai ap p1) (own_hold ap ai ap p1) (own_hold af ai ap p1) (own_neg p1 (own_hold ai ai ap p1) (own_hold ap ai ap p1) (own_hold af ai ap p1)) (own_zero p1 (own_hold ai ai ap p1) (own_hold ap ai ap p1) (own_hold af ai ap p1) (own_neg p1 (own_hold ai ai ap p1) (own_hold ap ai ap p1) (own_hold af ai ap p1)))))] [])) _
    refine XS.iloadN X11.here hx rfl (hb hby at_73) rfl ?_
    show Steps p.tables e below (T11.setTop (mkF m 74 #[.val (.int p1), .val (.int (own_hold ai ai ap p1)), .val (.int (own_hold ap ai ap p1)), .val (.int (own_hold af ai ap p1)), .val (.int (own_neg p1 (own_hold ai ai ap p1) (own_hold ap ai ap p1) (own_hold af ai ap p1))), .val (.int (own_zero p1 (own_hold ai ai ap p1) (own_hold ap ai ap p1) (own_hold af ai ap p1) (own_neg p1 (own_hold ai ai ap p1) (own_hold ap ai ap p1) (own_hold af ai ap p1)))), .val (.int (own_posi p1 (own_hold ai ai ap p1) (own_hold ap ai ap p1) (own_hold af ai ap p1) (own_neg p1 (own_hold ai ai ap p1) (own_hold ap ai ap p1) (own_hold af ai ap p1)) (own_zero p1 (own_hold ai ai ap p1) (own_hold ap ai ap p1) (own_hold af ai ap p1) (own_neg p1 (own_hold ai ai ap p1) (own_hold ap ai ap p1) (own_hold af ai ap p1)))))] [(.int (own_hold ap ai ap p1))])) _
    refine XS.iload X11.here hx rfl (hb hby at_74) rfl ?_
    show Steps p.tables e below (T11.setTop (mkF m 76 #[.val (.int p1), .val (.int (own_hold ai ai ap p1)), .val (.int (own_hold ap ai ap p1)), .val (.int (own_hold af ai ap p1)), .val (.int (own_neg p1 (own_hold ai ai ap p1) (own_hold ap ai ap p1) (own_hold af ai ap p1))), .val (.int (own_zero p1 (own_hold ai ai ap p1) (own_hold ap ai ap p1) (own_hold af ai ap p1) (own_neg p1 (own_hold ai ai ap p1) (own_hold ap ai ap p1) (own_hold af ai ap p1)))), .val (.int (own_posi p1 (own_hold ai ai ap p1) (own_hold ap ai ap p1) (own_hold af ai ap p1) (own_neg p1 (own_hold ai ai ap p1) (own_hold ap ai ap p1) (own_hold af ai ap p1)) (own_zero p1 (own_hold ai ai ap p1) (own_hold ap ai ap p1) (own_hold af ai ap p1) (own_neg p1 (own_hold ai ai ap p1) (own_hold ap ai ap p1) (own_hold af ai ap p1)))))] [(.int (own_neg p1 (own_hold ai ai ap p1) (own_hold ap ai ap p1) (own_hold af ai ap p1))), (.int (own_hold ap ai ap p1))])) _
    exact hk
  have hc76 : (own_hold ap ai ap p1) = (own_neg p1 (own_hold ai ai ap p1) (own_hold ap ai ap p1) (own_hold af ai ap p1)) := own_s2 _ _ n1 _ _ _ _
  have K21 : ∀ t, Steps p.tables e below (T11.setTop (mkF m 79 #[.val (.int p1), .val (.int (own_hold ai ai ap p1)), .val (.int (own_hold ap ai ap p1)), .val (.int (own_hold af ai ap p1)), .val (.int (own_neg p1 (own_hold ai ai ap p1) (own_hold ap ai ap p1) (own_hold af ai ap p1))), .val (.int (own_zero p1 (own_hold ai ai ap p1) (own_hold ap ai ap p1) (own_hold af ai ap p1) (own_neg p1 (own_hold ai ai ap p1) (own_hold ap ai ap p1) (own_hold af ai ap p1)))), .val (.int (own_posi p1 (own_hold ai ai ap p1) (own_hold ap ai ap p1) (own_hold af ai ap p1) (own_neg p1 (own_hold ai ai ap p1) (own_hold ap ai ap p1) (own_hold af ai ap p1)) (own_zero p1 (own_hold ai ai ap p1) (own_hold ap ai ap p1) (own_hold af ai ap p1) (own_neg p1 (own_hold ai ai ap p1) (own_hold ap ai ap p1) (own_hold af ai ap p1)))))] [])) t → Steps p.tables e below (s₁.setTop (entryFrame m #[(.int p1)] maxLocals)) t := by
    intro t hk
    refine K20 t ?_
    show Steps p.tables e below (T11.setTop (mkF m 76 #[.val (.int p1), .val (.int (own_hold ai ai ap p1)), .val (.int (own_hold ap ai ap p1)), .val (.int (own_hold af ai ap p1)), .val (.int (own_neg p1 (own_hold ai ai ap p1) (own_hold ap ai ap p1) (own_hold af ai ap p1))), .val (.int (own_zero p1 (own_hold ai ai ap p1) (own_hold ap ai ap p1) (own_hold af ai ap p1) (own_neg p1 (own_hold ai ai ap p1) (own_hold ap ai ap p1) (own_hold af ai ap p1)))), .val (.int (own_posi p1 (own_hold ai ai ap p1) (own_hold ap ai ap p1) (own_hold af ai ap p1) (own_neg p1 (own_hold ai ai ap p1) (own_hold ap ai ap p1) (own_hold af ai ap p1)) (own_zero p1 (own_hold ai ai ap p1) (own_hold ap ai ap p1) (own_hold af ai ap p1) (own_neg p1 (own_hold ai ai ap p1) (own_hold ap ai ap p1) (own_hold af ai ap p1)))))] [(.int (own_neg p1 (own_hold ai ai ap p1) (own_hold ap ai ap p1) (own_hold af ai ap p1))), (.int (own_hold ap ai ap p1))])) _
    refine XS.icmpNo X11.here hx rfl (hb hby at_76) rfl (teq hc76).2 ?_
    exact hk
  have K22 : ∀ t, Steps p.tables e below (T11.setTop (mkF m 82 #[.val (.int p1), .val (.int (own_hold ai ai ap p1)), .val (.int (own_hold ap ai ap p1)), .val (.int (own_hold af ai ap p1)), .val (.int (own_neg p1 (own_hold ai ai ap p1) (own_hold ap ai ap p1) (own_hold af ai ap p1))), .val (.int (own_zero p1 (own_hold ai ai ap p1) (own_hold ap ai ap p1) (own_hold af ai ap p1) (own_neg p1 (own_hold ai ai ap p1) (own_hold ap ai ap p1) (own_hold af ai ap p1)))), .val (.int (own_posi p1 (own_hold ai ai ap p1) (own_hold ap ai ap p1) (own_hold af ai ap p1) (own_neg p1 (own_hold ai ai ap p1) (own_hold ap ai ap p1) (own_hold af ai ap p1)) (own_zero p1 (own_hold ai ai ap p1) (own_hold ap ai ap p1) (own_hold af ai ap p1) (own_neg p1 (own_hold ai ai ap p1) (own_hold ap ai ap p1) (own_hold af ai ap p1)))))] [(.int (own_posi p1 (own_hold ai ai ap p1) (own_hold ap ai ap p1) (own_hold af ai ap p1) (own_neg p1 (own_hold ai ai ap p1) (own_hold ap ai ap p1) (own_hold af ai ap p1)) (own_zero p1 (own_hold ai ai ap p1) (own_hold ap ai ap p1) (own_hold af ai ap p1) (own_neg p1 (own_hold ai ai ap p1) (own_hold ap ai ap p1) (own_hold af ai ap p1))))), (.int (own_hold af ai ap p1))])) t → Steps p.tables e below (s₁.setTop (entryFrame m #[(.int p1)] maxLocals)) t := by
    intro t hk
    refine K21 t ?_
    show Steps p.tables e below (T11.setTop (mkF m 79 #[.val (.int p1), .val (.int (own_hold ai ai ap p1)), .val (.int (own_hold ap ai ap p1)), .val (.int (own_hold af ai ap p1)), .val (.int (own_neg p1 (own_hold ai ai ap p1) (own_hold ap ai ap p1) (own_hold af ai ap p1))), .val (.int (own_zero p1 (own_hold ai ai ap p1) (own_hold ap ai ap p1) (own_hold af ai ap p1) (own_neg p1 (own_hold ai ai ap p1) (own_hold ap ai ap p1) (own_hold af ai ap p1)))), .val (.int (own_posi p1 (own_hold ai ai ap p1) (own_hold ap ai ap p1) (own_hold af ai ap p1) (own_neg p1 (own_hold ai ai ap p1) (own_hold ap ai ap p1) (own_hold af ai ap p1)) (own_zero p1 (own_hold ai ai ap p1) (own_hold ap ai ap p1) (own_hold af ai ap p1) (own_neg p1 (own_hold ai ai ap p1) (own_hold ap ai ap p1) (own_hold af ai ap p1)))))] [])) _
    refine XS.iloadN X11.here hx rfl (hb hby at_79) rfl ?_
    show Steps p.tables e below (T11.setTop (mkF m 80 #[.val (.int p1), .val (.int (own_hold ai ai ap p1)), .val (.int (own_hold ap ai ap p1)), .val (.int (own_hold af ai ap p1)), .val (.int (own_neg p1 (own_hold ai ai ap p1) (own_hold ap ai ap p1) (own_hold af ai ap p1))), .val (.int (own_zero p1 (own_hold ai ai ap p1) (own_hold ap ai ap p1) (own_hold af ai ap p1) (own_neg p1 (own_hold ai ai ap p1) (own_hold ap ai ap p1) (own_hold af ai ap p1)))), .val (.int (own_posi p1 (own_hold ai ai ap p1) (own_hold ap ai ap p1) (own_hold af ai ap p1) (own_neg p1 (own_hold ai ai ap p1) (own_hold ap ai ap p1) (own_hold af ai ap p1)) (own_zero p1 (own_hold ai ai ap p1) (own_hold ap ai ap p1) (own_hold af ai ap p1) (own_neg p1 (own_hold ai ai ap p1) (own_hold ap ai ap p1) (own_hold af ai ap p1)))))] [(.int (own_hold af ai ap p1))])) _
    refine XS.iload X11.here hx rfl (hb hby at_80) rfl ?_
    show Steps p.tables e below (T11.setTop (mkF m 82 #[.val (.int p1), .val (.int (own_hold ai ai ap p1)), .val (.int (own_hold ap ai ap p1)), .val (.int (own_hold af ai ap p1)), .val (.int (own_neg p1 (own_hold ai ai ap p1) (own_hold ap ai ap p1) (own_hold af ai ap p1))), .val (.int (own_zero p1 (own_hold ai ai ap p1) (own_hold ap ai ap p1) (own_hold af ai ap p1) (own_neg p1 (own_hold ai ai ap p1) (own_hold ap ai ap p1) (own_hold af ai ap p1)))), .val (.int (own_posi p1 (own_hold ai ai ap p1) (own_hold ap ai ap p1) (own_hold af ai ap p1) (own_neg p1 (own_hold ai ai ap p1) (own_hold ap ai ap p1) (own_hold af ai ap p1)) (own_zero p1 (own_hold ai ai ap p1) (own_hold ap ai ap p1) (own_hold af ai ap p1) (own_neg p1 (own_hold ai ai ap p1) (own_hold ap ai ap p1) (own_hold af ai ap p1)))))] [(.int (own_posi p1 (own_hold ai ai ap p1) (own_hold ap ai ap p1) (own_hold af ai ap p1) (own_neg p1 (own_hold ai ai ap p1) (own_hold ap ai ap p1) (own_hold af ai ap p1)) (own_zero p1 (own_hold ai ai ap p1) (own_hold ap ai ap p1) (own_hold af ai ap p1) (own_neg p1 (own_hold ai ai ap p1) (own_hold ap ai ap p1) (own_hold af ai ap p1))))), (.int (own_hold af ai ap p1))])) _
    exact hk
  have hc82 : (own_hold af ai ap p1) = (own_posi p1 (own_hold ai ai ap p1) (own_hold ap ai ap p1) (own_hold af ai ap p1) (own_neg p1 (own_hold ai ai ap p1) (own_hold ap ai ap p1) (own_hold af ai ap p1)) (own_zero p1 (own_hold ai ai ap p1) (own_hold ap ai ap p1) (own_hold af ai ap p1) (own_neg p1 (own_hold ai ai ap p1) (own_hold ap ai ap p1) (own_hold af ai ap p1)))) := own_s3 _ _ _ n2 n3 _ _ _ _ _ _ _ _ _ _ _
  have K23 : ∀ t, Steps p.tables e below (T11.setTop (mkF m 85 #[.val (.int p1), .val (.int (own_hold ai ai ap p1)), .val (.int (own_hold ap ai ap p1)), .val (.int (own_hold af ai ap p1)), .val (.int (own_neg p1 (own_hold ai ai ap p1) (own_hold ap ai ap p1) (own_hold af ai ap p1))), .val (.int (own_zero p1 (own_hold ai ai ap p1) (own_hold ap ai ap p1) (own_hold af ai ap p1) (own_neg p1 (own_hold ai ai ap p1) (own_hold ap ai ap p1) (own_hold af ai ap p1)))), .val (.int (own_posi p1 (own_hold ai ai ap p1) (own_hold ap ai ap p1) (own_hold af ai ap p1) (own_neg p1 (own_hold ai ai ap p1) (own_hold ap ai ap p1) (own_hold af ai ap p1)) (own_zero p1 (own_hold ai ai ap p1) (own_hold ap ai ap p1) (own_hold af ai ap p1) (own_neg p1 (own_hold ai ai ap p1) (own_hold ap ai ap p1) (own_hold af ai ap p1)))))] [])) t → Steps p.tables e below (s₁.setTop (entryFrame m #[(.int p1)] maxLocals)) t := by
    intro t hk
    refine K22 t ?_
    show Steps p.tables e below (T11.setTop (mkF m 82 #[.val (.int p1), .val (.int (own_hold ai ai ap p1)), .val (.int (own_hold ap ai ap p1)), .val (.int (own_hold af ai ap p1)), .val (.int (own_neg p1 (own_hold ai ai ap p1) (own_hold ap ai ap p1) (own_hold af ai ap p1))), .val (.int (own_zero p1 (own_hold ai ai ap p1) (own_hold ap ai ap p1) (own_hold af ai ap p1) (own_neg p1 (own_hold ai ai ap p1) (own_hold ap ai ap p1) (own_hold af ai ap p1)))), .val (.int (own_posi p1 (own_hold ai ai ap p1) (own_hold ap ai ap p1) (own_hold af ai ap p1) (own_neg p1 (own_hold ai ai ap p1) (own_hold ap ai ap p1) (own_hold af ai ap p1)) (own_zero p1 (own_hold ai ai ap p1) (own_hold ap ai ap p1) (own_hold af ai ap p1) (own_neg p1 (own_hold ai ai ap p1) (own_hold ap ai ap p1) (own_hold af ai ap p1)))))] [(.int (own_posi p1 (own_hold ai ai ap p1) (own_hold ap ai ap p1) (own_hold af ai ap p1) (own_neg p1 (own_hold ai ai ap p1) (own_hold ap ai ap p1) (own_hold af ai ap p1)) (own_zero p1 (own_hold ai ai ap p1) (own_hold ap ai ap p1) (own_hold af ai ap p1) (own_neg p1 (own_hold ai ai ap p1) (own_hold ap ai ap p1) (own_hold af ai ap p1))))), (.int (own_hold af ai ap p1))])) _
    refine XS.icmpNo X11.here hx rfl (hb hby at_82) rfl (teq hc82).2 ?_
    exact hk
  have K24 : ∀ t, Steps p.tables e below (T11.setTop (mkF m 90 #[.val (.int p1), .val (.int (own_hold ai ai ap p1)), .val (.int (own_hold ap ai ap p1)), .val (.int (own_hold af ai ap p1)), .val (.int (own_neg p1 (own_hold ai ai ap p1) (own_hold ap ai ap p1) (own_hold af ai ap p1))), .val (.int (own_zero p1 (own_hold ai ai ap p1) (own_hold ap ai ap p1) (own_hold af ai ap p1) (own_neg p1 (own_hold ai ai ap p1) (own_hold ap ai ap p1) (own_hold af ai ap p1)))), .val (.int (own_posi p1 (own_hold ai ai ap p1) (own_hold ap ai ap p1) (own_hold af ai ap p1) (own_neg p1 (own_hold ai ai ap p1) (own_hold ap ai ap p1) (own_hold af ai ap p1)) (own_zero p1 (own_hold ai ai ap p1) (own_hold ap ai ap p1) (own_hold af ai ap p1) (own_neg p1 (own_hold ai ai ap p1) (own_hold ap ai ap p1) (own_hold af ai ap p1)))))] [(.int (1 : Int32))])) t → Steps p.tables e below (s₁.setTop (entryFrame m #[(.int p1)] maxLocals)) t := by
    intro t hk
    refine K23 t ?_
    show Steps p.tables e below (T11.setTop (mkF m 85 #[.val (.int p1), .val (.int (own_hold ai ai ap p1)), .val (.int (own_hold ap ai ap p1)), .val (.int (own_hold af ai ap p1)), .val (.int (own_neg p1 (own_hold ai ai ap p1) (own_hold ap ai ap p1) (own_hold af ai ap p1))), .val (.int (own_zero p1 (own_hold ai ai ap p1) (own_hold ap ai ap p1) (own_hold af ai ap p1) (own_neg p1 (own_hold ai ai ap p1) (own_hold ap ai ap p1) (own_hold af ai ap p1)))), .val (.int (own_posi p1 (own_hold ai ai ap p1) (own_hold ap ai ap p1) (own_hold af ai ap p1) (own_neg p1 (own_hold ai ai ap p1) (own_hold ap ai ap p1) (own_hold af ai ap p1)) (own_zero p1 (own_hold ai ai ap p1) (own_hold ap ai ap p1) (own_hold af ai ap p1) (own_neg p1 (own_hold ai ai ap p1) (own_hold ap ai ap p1) (own_hold af ai ap p1)))))] [])) _
    refine XS.iconst X11.here hx rfl (hb hby at_85) ?_
    show Steps p.tables e below (T11.setTop (mkF m 86 #[.val (.int p1), .val (.int (own_hold ai ai ap p1)), .val (.int (own_hold ap ai ap p1)), .val (.int (own_hold af ai ap p1)), .val (.int (own_neg p1 (own_hold ai ai ap p1) (own_hold ap ai ap p1) (own_hold af ai ap p1))), .val (.int (own_zero p1 (own_hold ai ai ap p1) (own_hold ap ai ap p1) (own_hold af ai ap p1) (own_neg p1 (own_hold ai ai ap p1) (own_hold ap ai ap p1) (own_hold af ai ap p1)))), .val (.int (own_posi p1 (own_hold ai ai ap p1) (own_hold ap ai ap p1) (own_hold af ai ap p1) (own_neg p1 (own_hold ai ai ap p1) (own_hold ap ai ap p1) (own_hold af ai ap p1)) (own_zero p1 (own_hold ai ai ap p1) (own_hold ap ai ap p1) (own_hold af ai ap p1) (own_neg p1 (own_hold ai ai ap p1) (own_hold ap ai ap p1) (own_hold af ai ap p1)))))] [(.int (1 : Int32))])) _
    refine XS.goto X11.here hx rfl (pc0 := 86) (pc' := 90) rfl (hb hby at_86) (by decide) (by decide) ?_
    show Steps p.tables e below (T11.setTop (mkF m 90 #[.val (.int p1), .val (.int (own_hold ai ai ap p1)), .val (.int (own_hold ap ai ap p1)), .val (.int (own_hold af ai ap p1)), .val (.int (own_neg p1 (own_hold ai ai ap p1) (own_hold ap ai ap p1) (own_hold af ai ap p1))), .val (.int (own_zero p1 (own_hold ai ai ap p1) (own_hold ap ai ap p1) (own_hold af ai ap p1) (own_neg p1 (own_hold ai ai ap p1) (own_hold ap ai ap p1) (own_hold af ai ap p1)))), .val (.int (own_posi p1 (own_hold ai ai ap p1) (own_hold ap ai ap p1) (own_hold af ai ap p1) (own_neg p1 (own_hold ai ai ap p1) (own_hold ap ai ap p1) (own_hold af ai ap p1)) (own_zero p1 (own_hold ai ai ap p1) (own_hold ap ai ap p1) (own_hold af ai ap p1) (own_neg p1 (own_hold ai ai ap p1) (own_hold ap ai ap p1) (own_hold af ai ap p1)))))] [(.int (1 : Int32))])) _
    exact hk
  obtain ⟨fs, hr, hrun, hended, hW, hsame⟩ := X11.leave (v := some (.int (1 : Int32))) (fun h => by rw [Bd.returns] at h; cases h) Bd.notSynchronized
  exact ⟨_, _, K24 _ (retN X11 hx (t := .boolean) Bd.returns (by simp) (hb hby at_90) hr), hrun, hended, _, _, rfl, ⟨rfl, N11⟩, ⟨_, rfl⟩, hW, hsame.mono (by decide) (by decide)⟩
set_option maxRecDepth 65536 in
set_option maxHeartbeats 40000000 in
theorem comes_1 {Post : Tables → Env → Array Value → State → Outcome → State → Prop} (hpost : ∀ tb e args s v u, (limb_1_1.after args s (.returned v) u = true ∧ limb_1_2.after args s (.returned v) u = true ∧ True) → FrameEnd s (.returned v) u (Jvm.fieldLocs frame_1_writes args s ++ Jvm.arrayLocs frame_1_arrays args s ++ Jvm.staticLocs frame_1_statics s) 0 0 → Post tb e args s (.returned v) u) :
    ArmFor flags0 classFile x code maxLocals ret World_1 tables_1 room_1 Calls_1 rest_1 Pre_1 Post := by
  intro l hfl _ _ p e ha hc hk s m args below hf hA hF happ hP
  obtain ⟨hcalls, hrest, hpre⟩ := hP
  obtain ⟨-, -, -, hnamed, -, -, -, hat⟩ := (Spec.applies_iff hf).mp happ
  obtain ⟨hg, hn⟩ := and_e (Cond.before_iff.mp (show (Jvm.Cond.and given_1 narrow_1).before args s = true from hpre))
  obtain ⟨gc, gr⟩ := and_e hg
  obtain ⟨w0, rfl⟩ : ∃ w0 : Value, args = #[w0] := by
    have hs : args.size = 1 := by simpa [Cond.value, given_1] using gc
    obtain ⟨L⟩ := args
    match L, hs with
    | [w0], _ => exact ⟨w0, rfl⟩
  have hw := fun d (hd : d ∈ tables_1) => atoms_spec (ws := Jvm.Cond.code x code maxLocals ret :: tables_1) hat d (List.mem_cons_of_mem _ hd)
  have hfit : Fit s := fun {y c} hc i hi => by
    obtain ⟨ha, rfl⟩ := Array.getElem?_eq_some_iff.mp hc
    have q := List.all_eq_true.mp ((Array.all_eq_true_iff_forall_mem.mp hF) _ (Array.getElem_mem ha)) i (List.mem_range.mpr hi)
    simpa [Array.getElem?_eq_getElem hi] using q
  obtain ⟨i0, ei0⟩ := is_v gr
  obtain rfl : w0 = (.int i0) := Option.some.inj ei0
  obtain ⟨x1, hn⟩ := and_e hn
  obtain ⟨x2, hn⟩ := and_e hn
  obtain ⟨o2, hn⟩ := and_e hn
  obtain ⟨o1, hn⟩ := and_e hn
  obtain ⟨x3, o3⟩ := and_e hn
  obtain ⟨ai, v1⟩ := exa_v x1
  obtain ⟨ap, v2⟩ := exa_v x2
  obtain ⟨af, v3⟩ := exa_v x3
  have S1 := Sta.start v1 (Or.inr ⟨(hw _ (List.mem_of_getElem? (i := 1) rfl)), (hw _ (List.mem_of_getElem? (i := 2) rfl))⟩)
  have E1 := Exa.start v1 x1
  have F1 := Fld.start ((fld_at v1).symm.trans (own_eqI o1))
  have S2 := Sta.start v2 (Or.inr ⟨(hw _ (List.mem_of_getElem? (i := 1) rfl)), (hw _ (List.mem_of_getElem? (i := 10) rfl))⟩)
  have E2 := Exa.start v2 x2
  have F2 := Fld.start ((fld_at v2).symm.trans (own_eqI o2))
  have S3 := Sta.start v3 (Or.inr ⟨(hw _ (List.mem_of_getElem? (i := 1) rfl)), (hw _ (List.mem_of_getElem? (i := 13) rfl))⟩)
  have E3 := Exa.start v3 x3
  have F3 := Fld.start ((fld_at v3).symm.trans (own_eqI o3))
  have n1 := F2.ne F1 (by decide)
  have n2 := F3.ne F1 (by decide)
  have n3 := F3.ne F2 (by decide)
  obtain ⟨n, o, h1, h2, h3, _, L, rfl, ⟨rfl, N⟩, hq⟩ := rm0 l s _ hw tables_1 i0 ai ap af s.heap s.heap.size (Nat.le_refl _) S1 S2 S3 E1 E2 E3 n1 n2 n3 p e ha hc hk s m _ below hf ((Spec.applies_iff_loose hf).mp happ).1 ⟨rfl, State.Warmed39.refl s, rfl⟩ trivial
  refine ⟨n, _, h1, h2, h3, hpost _ _ _ _ _ _ ⟨Cond.after_iff.mpr rfl, Cond.after_iff.mpr (eq_i res_at (Term.int_eval (1)) rfl), trivial⟩ ⟨hq.1, hq.2.1, (hq.2.2.sift fun y hy => Or.inr (N y hy)).mono (by decide) (by decide)⟩⟩
theorem main_1_1 : Claimed_1_1 := comes_1 fun _ _ _ _ _ _ h hF => ⟨h.1, hF⟩
theorem main_1_2 : Claimed_1_2 := comes_1 fun _ _ _ _ _ _ h hF => ⟨h.2.1, hF⟩
end Jvm.Pilot.@@N@@
namespace Jvm.Pilot.@@N@@
open Jvm Jvm.ClassFile Sem Op Lib Jvm.Free Jvm.Stand Jvm.Pilot.@@N@@.Jvm.D
/-! MADE BY PROGRAM (witnessworld.py) out of the Statement's table words and the real class files: 12 classes; the members and pool entries that the words name. The judged class is class 1, her method 1. -/
namespace start1
open Jvm.ClassFile
def u (s : String) : CpInfo := .utf8 (stringToUtf16 s)
/-- a pool by its gaps: so many unusable entries, then the entry; so many at the end -/
def gap : Nat → List CpInfo → List CpInfo
  | 0, r => r
  | n + 1, r => .unusable :: gap n r
def poolList (es : List (Nat × CpInfo)) (last : Nat) : List CpInfo := es.foldr (fun e r => gap e.1 (e.2 :: r)) (gap last [])
def pool (es : List (Nat × CpInfo)) (last : Nat) : Array CpInfo := ⟨poolList es last⟩
def fileOf (pool : Array CpInfo) (this : Nat) (attrs : Array Attribute := #[]) (ms : Array MethodInfo := #[]) (fl : Nat := 33) (sup : Nat := 0) (ifs : Array Nat := #[]) (fds : Array FieldInfo := #[]) : ClassFile where
  minorVersion := 0
  majorVersion := 65
  constantPool := pool
  accessFlags := fl
  thisClass := this
  superClass := sup
  interfaces := ifs
  fields := fds
  methods := ms
  attributes := attrs
def plain (name : String) (sup : Option ClassId) : Class where
  name := name
  kind := .ordinary
  loader := none
  accessFlags := 33
  super := sup
  interfaces := #[]
  cf := none
  fields := #[]
  methods := #[]
  instanceTypes := #[]
  staticTypes := #[]
  resolved := #[]
  callSites := []
  init := .initialized
  statics := none
  mirror := none

def pool0 : Array CpInfo := pool [(5, u "<init>"), (0, u "()V"), (1, .class_ 10), (1, u "java/lang/Object")] 113

def k0m0 : Method := { name := "<init>", desc := "()V", sig := { parameters := [], returnType := none }, accessFlags := 1, code := none }
/-- java/lang/Object -/
def k0 : Class := { plain "java/lang/Object" none with
  accessFlags := 33
  interfaces := #[]
  cf := some (fileOf pool0 8 #[] #[{ accessFlags := 1, nameIndex := 5, descriptorIndex := 6, attributes := #[] }] 33 0 #[] #[])
  fields := #[]
  methods := #[k0m0]
  instanceTypes := #[]
  staticTypes := #[]
  resolved := Array.replicate 124 none
  statics := none }

def pool1 : Array CpInfo := pool [(2, .class_ 4), (1, u "java/lang/Object"), (0, u "<init>"), (0, u "()V"), (0, .fieldref 8 9), (0, .class_ 10), (0, .nameAndType 11 12), (0, u "com/example/querent/querent/expr/NodeComparisonExpr$Operator"), (0, u "IS"), (0, u "Lcom/example/querent/querent/expr/NodeComparisonExpr$Operator;"), (0, .methodref 8 14), (0, .nameAndType 15 16), (0, u "holdsFor"), (0, u "(I)Z"), (0, .fieldref 8 18), (0, .nameAndType 19 12), (0, u "PRECEDES"), (0, .fieldref 8 21), (0, .nameAndType 22 12), (0, u "FOLLOWS"), (0, .class_ 24), (0, u "com/example/querent/querent/expr/OperatorHoldsForPinLaw"), (2, u "law")] 7

def k1m0 : Method := { name := "<init>", desc := "()V", sig := { parameters := [], returnType := none }, accessFlags := 2, code := none }
def k1c1 : Code := { maxStack := 2, maxLocals := 7, code := code, exceptionTable := #[], attributes := #[] }
def k1m1 : Method := { name := "law", desc := "(I)Z", sig := { parameters := [.int], returnType := some .boolean }, accessFlags := 9, code := some k1c1 }
/-- com/example/querent/querent/expr/OperatorHoldsForPinLaw -/
def k1 : Class := { plain "com/example/querent/querent/expr/OperatorHoldsForPinLaw" (some 0) with
  accessFlags := 49
  interfaces := #[]
  cf := some (fileOf pool1 23 #[] #[{ accessFlags := 2, nameIndex := 5, descriptorIndex := 6, attributes := #[] }, { accessFlags := 9, nameIndex := 27, descriptorIndex := 16, attributes := #[] }] 49 2 #[] #[])
  fields := #[]
  methods := #[k1m0, k1m1]
  instanceTypes := #[]
  staticTypes := #[]
  resolved := Array.replicate 35 none
  statics := none }

def pool2 : Array CpInfo := pool [(1, .class_ 2), (0, u "java/lang/constant/Constable"), (0, .class_ 4), (0, u "java/lang/Object")] 6

/-- java/lang/constant/Constable -/
def k2 : Class := { plain "java/lang/constant/Constable" (some 0) with
  accessFlags := 1537
  interfaces := #[]
  cf := some (fileOf pool2 1 #[] #[] 1537 3 #[] #[])
  fields := #[]
  methods := #[]
  instanceTypes := #[]
  staticTypes := #[]
  resolved := Array.replicate 11 none
  statics := none }

def pool3 : Array CpInfo := pool [(1, .class_ 2), (0, u "java/lang/Comparable"), (0, .class_ 4), (0, u "java/lang/Object")] 7

/-- java/lang/Comparable -/
def k3 : Class := { plain "java/lang/Comparable" (some 0) with
  accessFlags := 1537
  interfaces := #[]
  cf := some (fileOf pool3 1 #[] #[] 1537 3 #[] #[])
  fields := #[]
  methods := #[]
  instanceTypes := #[]
  staticTypes := #[]
  resolved := Array.replicate 12 none
  statics := none }

def pool4 : Array CpInfo := pool [(1, .class_ 2), (0, u "java/io/Serializable"), (0, .class_ 4), (0, u "java/lang/Object")] 2

/-- java/io/Serializable -/
def k4 : Class := { plain "java/io/Serializable" (some 0) with
  accessFlags := 1537
  interfaces := #[]
  cf := some (fileOf pool4 1 #[] #[] 1537 3 #[] #[])
  fields := #[]
  methods := #[]
  instanceTypes := #[]
  staticTypes := #[]
  resolved := Array.replicate 7 none
  statics := none }

def pool5 : Array CpInfo := pool [(2, .class_ 4), (1, u "java/lang/Enum"), (0, u "name"), (0, u "Ljava/lang/String;"), (2, u "ordinal"), (0, u "I"), (1, .class_ 14), (1, u "java/lang/Object"), (4, u "hash"), (86, .class_ 108), (1, u "java/lang/Enum$EnumDesc"), (2, .class_ 112), (0, u "java/lang/constant/Constable"), (0, .class_ 114), (0, u "java/lang/Comparable"), (0, .class_ 116), (0, u "java/io/Serializable")] 87

/-- java/lang/Enum -/
def k5 : Class := { plain "java/lang/Enum" (some 0) with
  accessFlags := 1057
  interfaces := #[2, 3, 4]
  cf := some (fileOf pool5 2 #[.nestMembers #[106]] #[] 1057 12 #[111, 113, 115] #[{ accessFlags := 18, nameIndex := 5, descriptorIndex := 6, attributes := #[] }, { accessFlags := 18, nameIndex := 9, descriptorIndex := 10, attributes := #[] }, { accessFlags := 2, nameIndex := 19, descriptorIndex := 10, attributes := #[] }])
  fields := #[{ name := "name", type := (.object "java/lang/String"), accessFlags := 18, slot := 0, constantValue := 0 }, { name := "ordinal", type := .int, accessFlags := 18, slot := 1, constantValue := 0 }, { name := "hash", type := .int, accessFlags := 2, slot := 2, constantValue := 0 }]
  methods := #[]
  instanceTypes := #[(.object "java/lang/String"), .int, .int]
  staticTypes := #[]
  resolved := Array.replicate 204 none
  statics := none }

def pool6 : Array CpInfo := pool [(1, .class_ 2), (0, u "com/example/querent/querent/expr/NodeComparisonExpr$Operator"), (0, .fieldref 1 4), (0, .nameAndType 5 6), (0, u "IS"), (0, u "Lcom/example/querent/querent/expr/NodeComparisonExpr$Operator;"), (0, .fieldref 1 8), (0, .nameAndType 9 6), (0, u "PRECEDES"), (2, u "FOLLOWS"), (2, u "$VALUES"), (0, u "[Lcom/example/querent/querent/expr/NodeComparisonExpr$Operator;"), (6, .class_ 25), (1, u "java/lang/Enum"), (8, u "written"), (0, u "Ljava/lang/String;"), (23, u "holdsFor"), (0, u "(I)Z"), (9, .class_ 71), (0, u "com/example/querent/querent/expr/NodeComparisonExpr")] 2

def k6c0 : Code := { maxStack := 2, maxLocals := 3, code := prog_50_method_4_code, exceptionTable := #[], attributes := #[] }
def k6m0 : Method := { name := "holdsFor", desc := "(I)Z", sig := { parameters := [.int], returnType := some .boolean }, accessFlags := 0, code := some k6c0 }
/-- com/example/querent/querent/expr/NodeComparisonExpr$Operator -/
def k6 : Class := { plain "com/example/querent/querent/expr/NodeComparisonExpr$Operator" (some 5) with
  accessFlags := 16433
  interfaces := #[]
  cf := some (fileOf pool6 1 #[.nestHost 70] #[{ accessFlags := 0, nameIndex := 59, descriptorIndex := 60, attributes := #[] }] 16433 23 #[] #[{ accessFlags := 16409, nameIndex := 5, descriptorIndex := 6, attributes := #[] }, { accessFlags := 16409, nameIndex := 9, descriptorIndex := 6, attributes := #[] }, { accessFlags := 16409, nameIndex := 12, descriptorIndex := 6, attributes := #[] }, { accessFlags := 18, nameIndex := 34, descriptorIndex := 35, attributes := #[] }, { accessFlags := 4122, nameIndex := 15, descriptorIndex := 16, attributes := #[] }])
  fields := #[{ name := "IS", type := (.object "com/example/querent/querent/expr/NodeComparisonExpr$Operator"), accessFlags := 16409, slot := 0, constantValue := 0 }, { name := "PRECEDES", type := (.object "com/example/querent/querent/expr/NodeComparisonExpr$Operator"), accessFlags := 16409, slot := 1, constantValue := 0 }, { name := "FOLLOWS", type := (.object "com/example/querent/querent/expr/NodeComparisonExpr$Operator"), accessFlags := 16409, slot := 2, constantValue := 0 }, { name := "written", type := (.object "java/lang/String"), accessFlags := 18, slot := 3, constantValue := 0 }, { name := "$VALUES", type := (.array (.object "com/example/querent/querent/expr/NodeComparisonExpr$Operator")), accessFlags := 4122, slot := 3, constantValue := 0 }]
  methods := #[k6m0]
  instanceTypes := #[(.object "java/lang/String"), .int, .int, (.object "java/lang/String")]
  staticTypes := #[(.object "com/example/querent/querent/expr/NodeComparisonExpr$Operator"), (.object "com/example/querent/querent/expr/NodeComparisonExpr$Operator"), (.object "com/example/querent/querent/expr/NodeComparisonExpr$Operator"), (.array (.object "com/example/querent/querent/expr/NodeComparisonExpr$Operator"))]
  resolved := Array.replicate 74 none
  statics := some 0 }

def pool7 : Array CpInfo := pool [(1, u "java/lang/Cloneable"), (0, .class_ 1), (0, u "java/lang/Object"), (0, .class_ 3)] 3

/-- java/lang/Cloneable -/
def k7 : Class := { plain "java/lang/Cloneable" (some 0) with
  accessFlags := 1537
  interfaces := #[]
  cf := some (fileOf pool7 2 #[] #[] 1537 4 #[] #[])
  fields := #[]
  methods := #[]
  instanceTypes := #[]
  staticTypes := #[]
  resolved := Array.replicate 8 none
  statics := none }

/-- the primitive byte -/
def k8 : Class := { plain "byte" none with kind := .primitive 'B', accessFlags := 0x411 }
/-- [B -/
def k9 : Class := { plain "[B" (some 0) with kind := .array 8 .byte, interfaces := #[7, 4], accessFlags := 1041 }

/-- the primitive int -/
def k10 : Class := { plain "int" none with kind := .primitive 'I', accessFlags := 0x411 }
/-- [I -/
def k11 : Class := { plain "[I" (some 0) with kind := .array 10 .int, interfaces := #[7, 4], accessFlags := 1041 }

def heap : Heap := #[{ cls := 6, slots := #[.ref 1, .ref 2, .ref 3, .null], vm := .statics 6 },
  { cls := 6, slots := #[.null, .int 0, .int 0, .null], vm := .none },
  { cls := 6, slots := #[.null, .int 1, .int 0, .null], vm := .none },
  { cls := 6, slots := #[.null, .int 2, .int 0, .null], vm := .none }]
def classes : Array Class := #[k0, k1, k2, k3, k4, k5, k6, k7, k8, k9, k10, k11]
def interned : List (Array UInt16 × Addr) := []
def slotsUsed : Nat := 16
def theMethod : MethodId := ⟨1, 1⟩
def args0 : Array Value := #[.int 5]
def aboutOver (below : List Frame) : State where
  vm := { classes := classes, interned := interned.toArray }
  heap := heap
  slotsUsed := slotsUsed
  threads := #[{ frames := .invoking theMethod args0 :: below }]
def below0 : List Frame := [.native { method := ⟨0, 0⟩, args := #[] }]
def about1 : State := aboutOver below0
def p0 : Program := .bare "" "" ""
def e0 : Env := launch0.env 0 0 0
theorem w_frames : about1.frames = Frame.invoking theMethod args0 :: below0 := rfl
set_option maxRecDepth 65536 in
theorem w_args : argsFit about1.vm theMethod args0 = true := by decide +kernel
set_option maxRecDepth 65536 in
theorem w_heap : heapFits about1 = true := by decide +kernel
set_option maxRecDepth 65536 in
theorem w_runnable : about1.curStatus? = some .runnable := by decide +kernel
set_option maxRecDepth 65536 in
theorem w_alone : about1.alone = true := by decide +kernel
set_option maxRecDepth 65536 in
theorem w_named : about1.methodNamed? x = some theMethod := by decide +kernel
set_option maxRecDepth 65536 in
theorem w_hears : about1.hears theMethod below0 = true := by decide +kernel
set_option maxRecDepth 65536 in
theorem w_ripe : about1.ripe theMethod args0 below0 = true := by decide +kernel
theorem w_running : about1.status = .running := rfl
set_option maxRecDepth 65536 in
theorem w_room : about1.hasRoom e0.platform room_1 = true :=
  launch0.hasRoom_least _ room_1 (by decide +kernel) (by decide +kernel) (by decide +kernel) (by decide +kernel) (by decide +kernel) (by decide +kernel)
theorem allAtoms_all (ts : List Jvm.Cond) (a : Array Jvm.Value) (st : Jvm.State) : (allAtoms ts).before a st = ts.all (fun c => c.before a st) := by
  induction ts with
  | nil => rfl
  | cons c t ih =>
    show (Jvm.Cond.and c (allAtoms t)).before a st = _
    rw [Jvm.Cond.before_and, ih, List.all_cons]
def words1 : List Jvm.Cond := Jvm.Cond.code x code maxLocals ret :: tables_1
/-- a 'code' word, met by the world's own term for the bytes: nothing is compared byte by byte -/
theorem code_word {y : MethodName} {bytes : ByteArray} {mx : Nat} {rt : Option FieldType} {a : Array Value} {s : State} {m : MethodId} {meth : Method} {c : Code} (h1 : s.methodNamed? y = some m) (h2 : s.vm.method? m = some meth) (h3 : meth.code = some c) (h4 : c.code = bytes)
    (h5 : (c.maxLocals == mx && c.exceptionTable.isEmpty && decide (c.maxStack ≤ mostOperands) && decide (meth.sig.returnType = rt) && !meth.locks && decide (parseMethodDescriptor y.desc = some meth.sig)) = true) : (Jvm.Cond.code y bytes mx rt).before a s = true := by
  simp only [Bool.and_eq_true, beq_iff_eq, Bool.not_eq_true', decide_eq_true_eq] at h5
  obtain ⟨⟨⟨⟨⟨g1, g2⟩, g3⟩, g4⟩, g5⟩, g6⟩ := h5
  simp [Cond.before, Cond.holds, Cond.value, h1, h2, h3, h4, g1, g2, g3, g4, g5, g6]
def isCode : Jvm.Cond → Bool
  | .code _ _ _ _ => true
  | _ => false
theorem all_split {L : List Jvm.Cond} {P : Jvm.Cond → Bool} (h1 : L.all (fun c => isCode c || P c) = true) (h2 : ∀ c ∈ L.filter isCode, P c = true) : L.all P = true := by
  refine List.all_eq_true.mpr fun c hc => ?_
  have h := List.all_eq_true.mp h1 c hc
  rcases Bool.eq_false_or_eq_true (isCode c) with hi | hi
  · exact h2 c (List.mem_filter.mpr ⟨hc, hi⟩)
  · simpa [hi] using h
set_option maxRecDepth 65536 in
theorem w_c0 : (Jvm.Cond.code x code maxLocals ret).before args0 about1 = true := code_word (m := ⟨1, 1⟩) (meth := k1m1) (c := k1c1) (by decide +kernel) rfl rfl rfl (by decide +kernel)
set_option maxRecDepth 65536 in
theorem w_c1 : (Jvm.Cond.code ({ cls := "com/example/querent/querent/expr/NodeComparisonExpr$Operator", name := "holdsFor", desc := "(I)Z" } : Jvm.MethodName) prog_50_method_4_code (3 : Nat) (Option.some Jvm.ClassFile.FieldType.boolean)).before args0 about1 = true := code_word (m := ⟨6, 0⟩) (meth := k6m0) (c := k6c0) (by decide +kernel) rfl rfl rfl (by decide +kernel)
def codes1 : List Jvm.Cond := [Jvm.Cond.code x code maxLocals ret, Jvm.Cond.code ({ cls := "com/example/querent/querent/expr/NodeComparisonExpr$Operator", name := "holdsFor", desc := "(I)Z" } : Jvm.MethodName) prog_50_method_4_code (3 : Nat) (Option.some Jvm.ClassFile.FieldType.boolean)]
set_option maxRecDepth 65536 in
theorem codes_eq : words1.filter isCode = codes1 := rfl
theorem w_codes : ∀ c ∈ words1.filter isCode, c.before args0 about1 = true := by
  rw [codes_eq]
  intro c hc
  simp only [codes1, List.mem_cons, List.not_mem_nil, or_false] at hc
  rcases hc with rfl | rfl
  · exact w_c0
  · exact w_c1
set_option maxRecDepth 65536 in
theorem w_t1 : words1.all (fun c => isCode c || c.before args0 about1) = true := by decide +kernel
theorem w_tables : (allAtoms (Jvm.Cond.code x code maxLocals ret :: tables_1)).before args0 about1 = true := by
  rw [allAtoms_all]
  show words1.all (fun c => c.before args0 about1) = true
  refine all_split ?_ w_codes
  rw [w_t1]
set_option maxRecDepth 65536 in
theorem w_case : (Jvm.Cond.and given_1 narrow_1).before args0 about1 = true := by decide +kernel
theorem w_applies : (headSpec (Jvm.Cond.code x code maxLocals ret :: tables_1) room_1).applies x e0.platform about1 = true :=
  (Spec.applies_iff w_frames).mpr ⟨w_running, w_runnable, w_alone, w_named, w_hears, w_ripe, w_room, w_tables⟩
theorem atStart : AtStart classFile x code maxLocals ret World_1 tables_1 room_1 Calls_1 rest_1 Pre_1 launch0 p0 e0 about1 theMethod args0 below0 :=
  ⟨lists_1, trivial, launch0.admits_env _ _ _, launch0.least_env, fairChoices_fair.cas, fairChoices_fair.clock, w_frames, w_args, w_heap, w_applies, trivial, trivial, w_case⟩
end start1
theorem witness_1 : WitnessClaimed_1 := ⟨start1.p0, start1.e0, start1.about1, start1.theMethod, start1.args0, start1.below0, start1.atStart⟩
end Jvm.Pilot.@@N@@
