import JvmDerived
import JvmDerived.Pilot.@@N@@Statement
import JvmDerived.Pilot.@@N@@Code
set_option linter.unusedVariables false
set_option linter.unusedSimpArgs false
namespace Jvm.RoadKit
open Sem ClassFile Op Lib Jvm.Stand Jvm.Free Jvm.LawKit
section New
variable {p : Program} {l : Launch} {e : Env} {R : Room} {s : State} {m : MethodId} {args : Array Value} {below : List Frame} {meth : Method} {c : Code} {T : State} {locs : List Loc} {cells slots : Nat}
theorem retI (X : Stand p l e R s m args below meth c T locs cells slots) (hx : p.tables.exec = Jvm.exec) {pc : Nat} {Ls : Array Slot} {z : Int32} {rest : List Value} (hret : meth.sig.returnType = some .int) (hd : decode c.code pc = .ok (.ireturn, 1)) {fs : List Frame}
    (hl : ∀ (f : JFrame) (acts : List Action), f.method = m → f.locked = none → f.entered = [] → (doReturn e (T.setTop f) acts (some (.int z))).1 = T.setFrames fs) : Steps p.tables e below (T.setTop (mkF m pc Ls (.int z :: rest))) (T.setFrames fs) := by
  have hm' : T.vm.method? m = some meth := X.method'
  have hn : narrow .int (.int z) = .int z := rfl
  show Steps p.tables e below (T.setTop { method := m, pc := pc, locals := Ls, stack := _ :: rest, locked := none }) _
  jvm_step X.here [X.here.top, hx, hd, hm', hret, hn]
  first | (intro acts; rw [hl _ acts rfl rfl rfl]) | rw [hl _ _ rfl rfl rfl]
  exact Steps.refl _
end New
end Jvm.RoadKit
namespace Jvm.Pilot.@@N@@
open Jvm Jvm.ClassFile Sem Op Lib Jvm.Free Jvm.Stand Jvm.LawKit Jvm.RoadKit Bundle Jvm.Pilot.@@N@@.Jvm.D
theorem d1_0 : decode prog_83_method_3_code 0 = .ok (.ldc2_w 14, 3) := by decide +kernel
theorem d1_3 : decode prog_83_method_3_code 3 = .ok (.lstore_n 3, 1) := by decide +kernel
theorem d1_4 : decode prog_83_method_3_code 4 = .ok (.lload_n 0, 1) := by decide +kernel
theorem d1_5 : decode prog_83_method_3_code 5 = .ok (.getstatic 16, 3) := by decide +kernel
theorem d1_8 : decode prog_83_method_3_code 8 = .ok (.ldc2_w 12, 3) := by decide +kernel
theorem d1_11 : decode prog_83_method_3_code 11 = .ok (.lsub, 1) := by decide +kernel
theorem d1_12 : decode prog_83_method_3_code 12 = .ok (.lcmp, 1) := by decide +kernel
theorem d1_13 : decode prog_83_method_3_code 13 = .ok (.ifCond .gt 33, 3) := by decide +kernel
theorem d1_16 : decode prog_83_method_3_code 16 = .ok (.lload_n 0, 1) := by decide +kernel
theorem d1_17 : decode prog_83_method_3_code 17 = .ok (.ldc2_w 12, 3) := by decide +kernel
theorem d1_20 : decode prog_83_method_3_code 20 = .ok (.ladd, 1) := by decide +kernel
theorem d1_21 : decode prog_83_method_3_code 21 = .ok (.lstore 5, 2) := by decide +kernel
theorem d1_23 : decode prog_83_method_3_code 23 = .ok (.lload 5, 2) := by decide +kernel
theorem d1_25 : decode prog_83_method_3_code 25 = .ok (.lconst 0, 1) := by decide +kernel
theorem d1_26 : decode prog_83_method_3_code 26 = .ok (.lcmp, 1) := by decide +kernel
theorem d1_27 : decode prog_83_method_3_code 27 = .ok (.ifCond .ge 16, 3) := by decide +kernel
theorem d1_30 : decode prog_83_method_3_code 30 = .ok (.iload_n 2, 1) := by decide +kernel
theorem d1_31 : decode prog_83_method_3_code 31 = .ok (.ldc 11, 2) := by decide +kernel
theorem d1_33 : decode prog_83_method_3_code 33 = .ok (.if_icmp .lt 10, 3) := by decide +kernel
theorem d1_36 : decode prog_83_method_3_code 36 = .ok (.lload 5, 2) := by decide +kernel
theorem d1_38 : decode prog_83_method_3_code 38 = .ok (.lconst 1, 1) := by decide +kernel
theorem d1_39 : decode prog_83_method_3_code 39 = .ok (.lsub, 1) := by decide +kernel
theorem d1_40 : decode prog_83_method_3_code 40 = .ok (.goto 5, 3) := by decide +kernel
theorem d1_43 : decode prog_83_method_3_code 43 = .ok (.lload 5, 2) := by decide +kernel
theorem d1_45 : decode prog_83_method_3_code 45 = .ok (.lstore_n 3, 1) := by decide +kernel
theorem d1_46 : decode prog_83_method_3_code 46 = .ok (.lload_n 3, 1) := by decide +kernel
theorem d1_47 : decode prog_83_method_3_code 47 = .ok (.getstatic 20, 3) := by decide +kernel
theorem d1_50 : decode prog_83_method_3_code 50 = .ok (.lcmp, 1) := by decide +kernel
theorem d1_51 : decode prog_83_method_3_code 51 = .ok (.ifCond .ge 9, 3) := by decide +kernel
theorem d1_54 : decode prog_83_method_3_code 54 = .ok (.ldc2_w 14, 3) := by decide +kernel
theorem d1_57 : decode prog_83_method_3_code 57 = .ok (.goto 4, 3) := by decide +kernel
theorem d1_60 : decode prog_83_method_3_code 60 = .ok (.lload_n 3, 1) := by decide +kernel
theorem d1_61 : decode prog_83_method_3_code 61 = .ok (.lreturn, 1) := by decide +kernel
def own_second (p1 : Int64) (p2 : Int32) : Int64 := (if ((31556889864403199 : Int64) - (1420070400 : Int64)) < p1 then (if (-9223372036854775808 : Int64) < (-31557014167219200 : Int64) then (-9223372036854775808 : Int64) else (-9223372036854775808 : Int64)) else (if (p1 + (1420070400 : Int64)) < (0 : Int64) then (if p2 < (1000000 : Int32) then (if (p1 + (1420070400 : Int64)) < (-31557014167219200 : Int64) then (-9223372036854775808 : Int64) else (p1 + (1420070400 : Int64))) else (if ((p1 + (1420070400 : Int64)) - (1 : Int64)) < (-31557014167219200 : Int64) then (-9223372036854775808 : Int64) else ((p1 + (1420070400 : Int64)) - (1 : Int64)))) else (if (p1 + (1420070400 : Int64)) < (-31557014167219200 : Int64) then (-9223372036854775808 : Int64) else (p1 + (1420070400 : Int64)))))
theorem ef_1 (m : MethodId) (x0 : Int64) (x1 : Int32) : entryFrame m #[(.long x0), (.int x1)] 7 = mkF m 0 #[.val (.long x0), .second, .val (.int x1), .unset, .unset, .unset, .unset] [] := by first | (simp [entryFrame, mkF, argsToLocals, Value.category, maxLocals]; done) | rfl
theorem pn_1 : plainName "com/example/bitrun/bitrun/orc/timestamp/TimestampLayout" = true := by first | (simp [plainName, overriddenIn]; done) | decide +kernel
def Q_rm1 (Z : State) (p1 : Int64) (p2 : Int32)  (h0 : Heap) (n0 : Nat) (v : Option Value) (h : Heap) (L : List Loc) : Prop := v = some (.long (own_second p1 p2)) ∧ Fr n0 L ∧ h = h0
set_option maxRecDepth 65536 in
set_option maxHeartbeats 40000000 in
theorem rm1 (l : Launch) (Z : State) (a0 : Array Value) (hw : ∀ d ∈ tables_1, d.before a0 Z = true) (ws : List Jvm.Cond) (p1 : Int64) (p2 : Int32)  (h0 : Heap) (n0 : Nat) (Z0 : n0 ≤ h0.size) (SMX : Sta Z h0 "com/example/bitrun/bitrun/orc/timestamp/TimestampLayout" "MAX_SECOND" "J" (.long (31556889864403199 : Int64))) (SMN : Sta Z h0 "com/example/bitrun/bitrun/orc/timestamp/TimestampLayout" "MIN_SECOND" "J" (.long (-31557014167219200 : Int64))) :
    MetFree l (⟨"com/example/bitrun/bitrun/orc/timestamp/TimestampLayout", "second", "(JI)J"⟩ : MethodName) (head1 (Jvm.Cond.code (⟨"com/example/bitrun/bitrun/orc/timestamp/TimestampLayout", "second", "(JI)J"⟩ : MethodName) prog_83_method_3_code 7 (some .long) :: ws) ({ frames := 0, cells := 0, slots := 0, locals := 0 } : Room)) (fun a U => a = #[(.long p1), (.int p2)] ∧ Z.Warmed39 U.vm ∧ U.heap = h0) (fun _ _ _ _ _ => True) (fun _ U o U' => ∃ v L, o = .returned v ∧ Q_rm1 Z p1 p2  h0 n0 v U'.heap L ∧ FrameEnd U o U' L ({ frames := 0, cells := 0, slots := 0, locals := 0 } : Room).cells ({ frames := 0, cells := 0, slots := 0, locals := 0 } : Room).slots) := by
  refine MetFree.of_bodySF (plainFor_of_name pn_1) hisR ?_
  intro p e s m args below meth c s₁ Bd hml0 hP hK
  obtain ⟨rfl, hZ, hh⟩ := hP
  have hx := Bd.exec
  have hby := Bd.bytes
  have hml : c.maxLocals = 7 := hml0
  have hown : s.vm.findClass "com/example/bitrun/bitrun/orc/timestamp/TimestampLayout" = some m.cls := findClass_of_methodNamed Bd.named
  have hnm := (name_of_methodNamed Bd.named Bd.method).1
  have X0 : Stand p l e ({ frames := 0, cells := 0, slots := 0, locals := 0 } : Room) s m #[(.long p1), (.int p2)] below meth c s₁ [] 0 0 := Stand.of_body Bd
  have e0 : s₁.heap = h0 := by rw [← hh, Bd.state]; rfl
  have N0 := Fr.nil n0
  have pre0 : ∀ t, Steps p.tables e below (s₁.setTop (mkF m 0 #[.val (.long p1), .second, .val (.int p2), .unset, .unset, .unset, .unset] [])) t → Steps p.tables e below (s₁.setTop (entryFrame m #[(.long p1), (.int p2)] 7)) t := fun t k => castTop (ef_1 m p1 p2) k
  have K1 : ∀ t, Steps p.tables e below (s₁.setTop (mkF m 5 #[.val (.long p1), .second, .val (.int p2), .val (.long (-9223372036854775808 : Int64)), .second, .unset, .unset] [(.long p1)])) t → Steps p.tables e below (s₁.setTop (entryFrame m #[(.long p1), (.int p2)] 7)) t := by
    intro t hk
    refine pre0 t ?_
    show Steps p.tables e below (s₁.setTop (mkF m 0 #[.val (.long p1), .second, .val (.int p2), .unset, .unset, .unset, .unset] [])) _
    refine X0.ldc2Long hx hown (mvT hZ (hw _ (List.mem_of_getElem? (i := 7) rfl))) (g := (mkF m 0 #[.val (.long p1), .second, .val (.int p2), .unset, .unset, .unset, .unset] [])) rfl (hb hby d1_0) _ ?_
    show Steps p.tables e below (s₁.setTop (mkF m 3 #[.val (.long p1), .second, .val (.int p2), .unset, .unset, .unset, .unset] [(.long (-9223372036854775808 : Int64))])) _
    refine XS.lstoreN X0.here hx rfl (hb hby d1_3) rfl (l' := #[.val (.long p1), .second, .val (.int p2), .val (.long (-9223372036854775808 : Int64)), .second, .unset, .unset]) rfl ?_
    show Steps p.tables e below (s₁.setTop (mkF m 4 #[.val (.long p1), .second, .val (.int p2), .val (.long (-9223372036854775808 : Int64)), .second, .unset, .unset] [])) _
    refine XS.lloadN X0.here hx rfl (hb hby d1_4) rfl ?_
    show Steps p.tables e below (s₁.setTop (mkF m 5 #[.val (.long p1), .second, .val (.int p2), .val (.long (-9223372036854775808 : Int64)), .second, .unset, .unset] [(.long p1)])) _
    exact hk
  obtain ⟨T2, X2, e2, st2⟩ := getS2 X0 hx hZ hown (host := "") (Or.inl (hw _ (List.mem_of_getElem? (i := 8) rfl))) Via.refl e0 SMX (g := (mkF m 5 #[.val (.long p1), .second, .val (.int p2), .val (.long (-9223372036854775808 : Int64)), .second, .unset, .unset] [(.long p1)])) rfl (hb hby d1_5)
  have K2 : ∀ t, Steps p.tables e below (T2.setTop (mkF m 8 #[.val (.long p1), .second, .val (.int p2), .val (.long (-9223372036854775808 : Int64)), .second, .unset, .unset] [(.long (31556889864403199 : Int64)), (.long p1)])) t → Steps p.tables e below (s₁.setTop (entryFrame m #[(.long p1), (.int p2)] 7)) t := fun t hk => K1 t (st2 _ hk)
  have K3 : ∀ t, Steps p.tables e below (T2.setTop (mkF m 13 #[.val (.long p1), .second, .val (.int p2), .val (.long (-9223372036854775808 : Int64)), .second, .unset, .unset] [(.int (lcmpW p1 ((31556889864403199 : Int64) - (1420070400 : Int64))))])) t → Steps p.tables e below (s₁.setTop (entryFrame m #[(.long p1), (.int p2)] 7)) t := by
    intro t hk
    refine K2 t ?_
    show Steps p.tables e below (T2.setTop (mkF m 8 #[.val (.long p1), .second, .val (.int p2), .val (.long (-9223372036854775808 : Int64)), .second, .unset, .unset] [(.long (31556889864403199 : Int64)), (.long p1)])) _
    refine X2.ldc2Long hx hown (mvT hZ (hw _ (List.mem_of_getElem? (i := 10) rfl))) (g := (mkF m 8 #[.val (.long p1), .second, .val (.int p2), .val (.long (-9223372036854775808 : Int64)), .second, .unset, .unset] [(.long (31556889864403199 : Int64)), (.long p1)])) rfl (hb hby d1_8) _ ?_
    show Steps p.tables e below (T2.setTop (mkF m 11 #[.val (.long p1), .second, .val (.int p2), .val (.long (-9223372036854775808 : Int64)), .second, .unset, .unset] [(.long (1420070400 : Int64)), (.long (31556889864403199 : Int64)), (.long p1)])) _
    refine XS.lsub X2.here hx rfl (hb hby d1_11) rfl ?_
    show Steps p.tables e below (T2.setTop (mkF m 12 #[.val (.long p1), .second, .val (.int p2), .val (.long (-9223372036854775808 : Int64)), .second, .unset, .unset] [(.long ((31556889864403199 : Int64) - (1420070400 : Int64))), (.long p1)])) _
    refine XS.lcmp X2.here hx rfl (hb hby d1_12) rfl ?_
    show Steps p.tables e below (T2.setTop (mkF m 13 #[.val (.long p1), .second, .val (.int p2), .val (.long (-9223372036854775808 : Int64)), .second, .unset, .unset] [(.int (lcmpW p1 ((31556889864403199 : Int64) - (1420070400 : Int64))))])) _
    exact hk
  by_cases hc13 : ((31556889864403199 : Int64) - (1420070400 : Int64)) < p1
  · have K4 : ∀ t, Steps p.tables e below (T2.setTop (mkF m 46 #[.val (.long p1), .second, .val (.int p2), .val (.long (-9223372036854775808 : Int64)), .second, .unset, .unset] [])) t → Steps p.tables e below (s₁.setTop (entryFrame m #[(.long p1), (.int p2)] 7)) t := by
      intro t hk
      refine K3 t ?_
      show Steps p.tables e below (T2.setTop (mkF m 13 #[.val (.long p1), .second, .val (.int p2), .val (.long (-9223372036854775808 : Int64)), .second, .unset, .unset] [(.int (lcmpW p1 ((31556889864403199 : Int64) - (1420070400 : Int64))))])) _
      refine XS.ifYes X2.here hx rfl (pc0 := 13) (pc' := 46) rfl (hb hby d1_13) rfl ((if0 _ _).trans (tlt ((lw_gt _ _).mpr hc13)).2.2.1) (by decide) (by decide) ?_
      exact hk
    have K5 : ∀ t, Steps p.tables e below (T2.setTop (mkF m 47 #[.val (.long p1), .second, .val (.int p2), .val (.long (-9223372036854775808 : Int64)), .second, .unset, .unset] [(.long (-9223372036854775808 : Int64))])) t → Steps p.tables e below (s₁.setTop (entryFrame m #[(.long p1), (.int p2)] 7)) t := by
      intro t hk
      refine K4 t ?_
      show Steps p.tables e below (T2.setTop (mkF m 46 #[.val (.long p1), .second, .val (.int p2), .val (.long (-9223372036854775808 : Int64)), .second, .unset, .unset] [])) _
      refine XS.lloadN X2.here hx rfl (hb hby d1_46) rfl ?_
      show Steps p.tables e below (T2.setTop (mkF m 47 #[.val (.long p1), .second, .val (.int p2), .val (.long (-9223372036854775808 : Int64)), .second, .unset, .unset] [(.long (-9223372036854775808 : Int64))])) _
      exact hk
    obtain ⟨T6, X6, e6, st6⟩ := getS2 X2 hx hZ hown (host := "") (Or.inl (hw _ (List.mem_of_getElem? (i := 11) rfl))) Via.refl e2 SMN (g := (mkF m 47 #[.val (.long p1), .second, .val (.int p2), .val (.long (-9223372036854775808 : Int64)), .second, .unset, .unset] [(.long (-9223372036854775808 : Int64))])) rfl (hb hby d1_47)
    have K6 : ∀ t, Steps p.tables e below (T6.setTop (mkF m 50 #[.val (.long p1), .second, .val (.int p2), .val (.long (-9223372036854775808 : Int64)), .second, .unset, .unset] [(.long (-31557014167219200 : Int64)), (.long (-9223372036854775808 : Int64))])) t → Steps p.tables e below (s₁.setTop (entryFrame m #[(.long p1), (.int p2)] 7)) t := fun t hk => K5 t (st6 _ hk)
    have K7 : ∀ t, Steps p.tables e below (T6.setTop (mkF m 51 #[.val (.long p1), .second, .val (.int p2), .val (.long (-9223372036854775808 : Int64)), .second, .unset, .unset] [(.int (lcmpW (-9223372036854775808 : Int64) (-31557014167219200 : Int64)))])) t → Steps p.tables e below (s₁.setTop (entryFrame m #[(.long p1), (.int p2)] 7)) t := by
      intro t hk
      refine K6 t ?_
      show Steps p.tables e below (T6.setTop (mkF m 50 #[.val (.long p1), .second, .val (.int p2), .val (.long (-9223372036854775808 : Int64)), .second, .unset, .unset] [(.long (-31557014167219200 : Int64)), (.long (-9223372036854775808 : Int64))])) _
      refine XS.lcmp X6.here hx rfl (hb hby d1_50) rfl ?_
      show Steps p.tables e below (T6.setTop (mkF m 51 #[.val (.long p1), .second, .val (.int p2), .val (.long (-9223372036854775808 : Int64)), .second, .unset, .unset] [(.int (lcmpW (-9223372036854775808 : Int64) (-31557014167219200 : Int64)))])) _
      exact hk
    by_cases hc51 : (-9223372036854775808 : Int64) < (-31557014167219200 : Int64)
    · have K8 : ∀ t, Steps p.tables e below (T6.setTop (mkF m 54 #[.val (.long p1), .second, .val (.int p2), .val (.long (-9223372036854775808 : Int64)), .second, .unset, .unset] [])) t → Steps p.tables e below (s₁.setTop (entryFrame m #[(.long p1), (.int p2)] 7)) t := by
        intro t hk
        refine K7 t ?_
        show Steps p.tables e below (T6.setTop (mkF m 51 #[.val (.long p1), .second, .val (.int p2), .val (.long (-9223372036854775808 : Int64)), .second, .unset, .unset] [(.int (lcmpW (-9223372036854775808 : Int64) (-31557014167219200 : Int64)))])) _
        refine XS.ifNo X6.here hx rfl (hb hby d1_51) rfl ((if0 _ _).trans (tlt ((lw_lt _ _).mpr hc51)).2.1) ?_
        exact hk
      have K9 : ∀ t, Steps p.tables e below (T6.setTop (mkF m 61 #[.val (.long p1), .second, .val (.int p2), .val (.long (-9223372036854775808 : Int64)), .second, .unset, .unset] [(.long (-9223372036854775808 : Int64))])) t → Steps p.tables e below (s₁.setTop (entryFrame m #[(.long p1), (.int p2)] 7)) t := by
        intro t hk
        refine K8 t ?_
        show Steps p.tables e below (T6.setTop (mkF m 54 #[.val (.long p1), .second, .val (.int p2), .val (.long (-9223372036854775808 : Int64)), .second, .unset, .unset] [])) _
        refine X6.ldc2Long hx hown (mvT hZ (hw _ (List.mem_of_getElem? (i := 7) rfl))) (g := (mkF m 54 #[.val (.long p1), .second, .val (.int p2), .val (.long (-9223372036854775808 : Int64)), .second, .unset, .unset] [])) rfl (hb hby d1_54) _ ?_
        show Steps p.tables e below (T6.setTop (mkF m 57 #[.val (.long p1), .second, .val (.int p2), .val (.long (-9223372036854775808 : Int64)), .second, .unset, .unset] [(.long (-9223372036854775808 : Int64))])) _
        refine XS.goto X6.here hx rfl (pc0 := 57) (pc' := 61) rfl (hb hby d1_57) (by decide) (by decide) ?_
        show Steps p.tables e below (T6.setTop (mkF m 61 #[.val (.long p1), .second, .val (.int p2), .val (.long (-9223372036854775808 : Int64)), .second, .unset, .unset] [(.long (-9223372036854775808 : Int64))])) _
        exact hk
      have EE := e6
      obtain ⟨fs, hr, hrun, hended, hW, hsame⟩ := X6.leave (v := some (.long (-9223372036854775808 : Int64))) (fun h => by rw [Bd.returns] at h; cases h) Bd.notSynchronized
      exact ⟨_, _, K9 _ (X6.lreturnOut hx Bd.returns (hb hby d1_61) hr), hrun, hended, _, _, rfl, ⟨by rw [own_second, if_pos hc13, if_pos hc51], N0, EE⟩, ⟨_, rfl⟩, hW, hsame.mono (by decide) (by decide)⟩
    · have K10 : ∀ t, Steps p.tables e below (T6.setTop (mkF m 60 #[.val (.long p1), .second, .val (.int p2), .val (.long (-9223372036854775808 : Int64)), .second, .unset, .unset] [])) t → Steps p.tables e below (s₁.setTop (entryFrame m #[(.long p1), (.int p2)] 7)) t := by
        intro t hk
        refine K7 t ?_
        show Steps p.tables e below (T6.setTop (mkF m 51 #[.val (.long p1), .second, .val (.int p2), .val (.long (-9223372036854775808 : Int64)), .second, .unset, .unset] [(.int (lcmpW (-9223372036854775808 : Int64) (-31557014167219200 : Int64)))])) _
        refine XS.ifYes X6.here hx rfl (pc0 := 51) (pc' := 60) rfl (hb hby d1_51) rfl ((if0 _ _).trans (flt (fun q => hc51 ((lw_lt _ _).mp q))).2.1) (by decide) (by decide) ?_
        exact hk
      have K11 : ∀ t, Steps p.tables e below (T6.setTop (mkF m 61 #[.val (.long p1), .second, .val (.int p2), .val (.long (-9223372036854775808 : Int64)), .second, .unset, .unset] [(.long (-9223372036854775808 : Int64))])) t → Steps p.tables e below (s₁.setTop (entryFrame m #[(.long p1), (.int p2)] 7)) t := by
        intro t hk
        refine K10 t ?_
        show Steps p.tables e below (T6.setTop (mkF m 60 #[.val (.long p1), .second, .val (.int p2), .val (.long (-9223372036854775808 : Int64)), .second, .unset, .unset] [])) _
        refine XS.lloadN X6.here hx rfl (hb hby d1_60) rfl ?_
        show Steps p.tables e below (T6.setTop (mkF m 61 #[.val (.long p1), .second, .val (.int p2), .val (.long (-9223372036854775808 : Int64)), .second, .unset, .unset] [(.long (-9223372036854775808 : Int64))])) _
        exact hk
      have EE := e6
      obtain ⟨fs, hr, hrun, hended, hW, hsame⟩ := X6.leave (v := some (.long (-9223372036854775808 : Int64))) (fun h => by rw [Bd.returns] at h; cases h) Bd.notSynchronized
      exact ⟨_, _, K11 _ (X6.lreturnOut hx Bd.returns (hb hby d1_61) hr), hrun, hended, _, _, rfl, ⟨by rw [own_second, if_pos hc13, if_neg hc51], N0, EE⟩, ⟨_, rfl⟩, hW, hsame.mono (by decide) (by decide)⟩
  · have K12 : ∀ t, Steps p.tables e below (T2.setTop (mkF m 16 #[.val (.long p1), .second, .val (.int p2), .val (.long (-9223372036854775808 : Int64)), .second, .unset, .unset] [])) t → Steps p.tables e below (s₁.setTop (entryFrame m #[(.long p1), (.int p2)] 7)) t := by
      intro t hk
      refine K3 t ?_
      show Steps p.tables e below (T2.setTop (mkF m 13 #[.val (.long p1), .second, .val (.int p2), .val (.long (-9223372036854775808 : Int64)), .second, .unset, .unset] [(.int (lcmpW p1 ((31556889864403199 : Int64) - (1420070400 : Int64))))])) _
      refine XS.ifNo X2.here hx rfl (hb hby d1_13) rfl ((if0 _ _).trans (flt (fun q => hc13 ((lw_gt _ _).mp q))).2.2.1) ?_
      exact hk
    have K13 : ∀ t, Steps p.tables e below (T2.setTop (mkF m 27 #[.val (.long p1), .second, .val (.int p2), .val (.long (-9223372036854775808 : Int64)), .second, .val (.long (p1 + (1420070400 : Int64))), .second] [(.int (lcmpW (p1 + (1420070400 : Int64)) (0 : Int64)))])) t → Steps p.tables e below (s₁.setTop (entryFrame m #[(.long p1), (.int p2)] 7)) t := by
      intro t hk
      refine K12 t ?_
      show Steps p.tables e below (T2.setTop (mkF m 16 #[.val (.long p1), .second, .val (.int p2), .val (.long (-9223372036854775808 : Int64)), .second, .unset, .unset] [])) _
      refine XS.lloadN X2.here hx rfl (hb hby d1_16) rfl ?_
      show Steps p.tables e below (T2.setTop (mkF m 17 #[.val (.long p1), .second, .val (.int p2), .val (.long (-9223372036854775808 : Int64)), .second, .unset, .unset] [(.long p1)])) _
      refine X2.ldc2Long hx hown (mvT hZ (hw _ (List.mem_of_getElem? (i := 10) rfl))) (g := (mkF m 17 #[.val (.long p1), .second, .val (.int p2), .val (.long (-9223372036854775808 : Int64)), .second, .unset, .unset] [(.long p1)])) rfl (hb hby d1_17) _ ?_
      show Steps p.tables e below (T2.setTop (mkF m 20 #[.val (.long p1), .second, .val (.int p2), .val (.long (-9223372036854775808 : Int64)), .second, .unset, .unset] [(.long (1420070400 : Int64)), (.long p1)])) _
      refine XS.ladd X2.here hx rfl (hb hby d1_20) rfl ?_
      show Steps p.tables e below (T2.setTop (mkF m 21 #[.val (.long p1), .second, .val (.int p2), .val (.long (-9223372036854775808 : Int64)), .second, .unset, .unset] [(.long (p1 + (1420070400 : Int64)))])) _
      refine XS.lstore X2.here hx rfl (hb hby d1_21) rfl (l' := #[.val (.long p1), .second, .val (.int p2), .val (.long (-9223372036854775808 : Int64)), .second, .val (.long (p1 + (1420070400 : Int64))), .second]) rfl ?_
      show Steps p.tables e below (T2.setTop (mkF m 23 #[.val (.long p1), .second, .val (.int p2), .val (.long (-9223372036854775808 : Int64)), .second, .val (.long (p1 + (1420070400 : Int64))), .second] [])) _
      refine XS.lload X2.here hx rfl (hb hby d1_23) rfl ?_
      show Steps p.tables e below (T2.setTop (mkF m 25 #[.val (.long p1), .second, .val (.int p2), .val (.long (-9223372036854775808 : Int64)), .second, .val (.long (p1 + (1420070400 : Int64))), .second] [(.long (p1 + (1420070400 : Int64)))])) _
      refine XS.lconst X2.here hx rfl (hb hby d1_25) ?_
      show Steps p.tables e below (T2.setTop (mkF m 26 #[.val (.long p1), .second, .val (.int p2), .val (.long (-9223372036854775808 : Int64)), .second, .val (.long (p1 + (1420070400 : Int64))), .second] [(.long (0 : Int64)), (.long (p1 + (1420070400 : Int64)))])) _
      refine XS.lcmp X2.here hx rfl (hb hby d1_26) rfl ?_
      show Steps p.tables e below (T2.setTop (mkF m 27 #[.val (.long p1), .second, .val (.int p2), .val (.long (-9223372036854775808 : Int64)), .second, .val (.long (p1 + (1420070400 : Int64))), .second] [(.int (lcmpW (p1 + (1420070400 : Int64)) (0 : Int64)))])) _
      exact hk
    by_cases hc27 : (p1 + (1420070400 : Int64)) < (0 : Int64)
    · have K14 : ∀ t, Steps p.tables e below (T2.setTop (mkF m 30 #[.val (.long p1), .second, .val (.int p2), .val (.long (-9223372036854775808 : Int64)), .second, .val (.long (p1 + (1420070400 : Int64))), .second] [])) t → Steps p.tables e below (s₁.setTop (entryFrame m #[(.long p1), (.int p2)] 7)) t := by
        intro t hk
        refine K13 t ?_
        show Steps p.tables e below (T2.setTop (mkF m 27 #[.val (.long p1), .second, .val (.int p2), .val (.long (-9223372036854775808 : Int64)), .second, .val (.long (p1 + (1420070400 : Int64))), .second] [(.int (lcmpW (p1 + (1420070400 : Int64)) (0 : Int64)))])) _
        refine XS.ifNo X2.here hx rfl (hb hby d1_27) rfl ((if0 _ _).trans (tlt ((lw_lt _ _).mpr hc27)).2.1) ?_
        exact hk
      have K15 : ∀ t, Steps p.tables e below (T2.setTop (mkF m 33 #[.val (.long p1), .second, .val (.int p2), .val (.long (-9223372036854775808 : Int64)), .second, .val (.long (p1 + (1420070400 : Int64))), .second] [(.int (1000000 : Int32)), (.int p2)])) t → Steps p.tables e below (s₁.setTop (entryFrame m #[(.long p1), (.int p2)] 7)) t := by
        intro t hk
        refine K14 t ?_
        show Steps p.tables e below (T2.setTop (mkF m 30 #[.val (.long p1), .second, .val (.int p2), .val (.long (-9223372036854775808 : Int64)), .second, .val (.long (p1 + (1420070400 : Int64))), .second] [])) _
        refine XS.iloadN X2.here hx rfl (hb hby d1_30) rfl ?_
        show Steps p.tables e below (T2.setTop (mkF m 31 #[.val (.long p1), .second, .val (.int p2), .val (.long (-9223372036854775808 : Int64)), .second, .val (.long (p1 + (1420070400 : Int64))), .second] [(.int p2)])) _
        refine X2.ldcInt hx hown (mvT hZ (hw _ (List.mem_of_getElem? (i := 15) rfl))) (g := (mkF m 31 #[.val (.long p1), .second, .val (.int p2), .val (.long (-9223372036854775808 : Int64)), .second, .val (.long (p1 + (1420070400 : Int64))), .second] [(.int p2)])) rfl (hb hby d1_31) _ ?_
        show Steps p.tables e below (T2.setTop (mkF m 33 #[.val (.long p1), .second, .val (.int p2), .val (.long (-9223372036854775808 : Int64)), .second, .val (.long (p1 + (1420070400 : Int64))), .second] [(.int (1000000 : Int32)), (.int p2)])) _
        exact hk
      by_cases hc33 : p2 < (1000000 : Int32)
      · have K16 : ∀ t, Steps p.tables e below (T2.setTop (mkF m 43 #[.val (.long p1), .second, .val (.int p2), .val (.long (-9223372036854775808 : Int64)), .second, .val (.long (p1 + (1420070400 : Int64))), .second] [])) t → Steps p.tables e below (s₁.setTop (entryFrame m #[(.long p1), (.int p2)] 7)) t := by
          intro t hk
          refine K15 t ?_
          show Steps p.tables e below (T2.setTop (mkF m 33 #[.val (.long p1), .second, .val (.int p2), .val (.long (-9223372036854775808 : Int64)), .second, .val (.long (p1 + (1420070400 : Int64))), .second] [(.int (1000000 : Int32)), (.int p2)])) _
          refine XS.icmpYes X2.here hx rfl (pc0 := 33) (pc' := 43) rfl (hb hby d1_33) rfl (tlt hc33).1 (by decide) (by decide) ?_
          exact hk
        have K17 : ∀ t, Steps p.tables e below (T2.setTop (mkF m 47 #[.val (.long p1), .second, .val (.int p2), .val (.long (p1 + (1420070400 : Int64))), .second, .val (.long (p1 + (1420070400 : Int64))), .second] [(.long (p1 + (1420070400 : Int64)))])) t → Steps p.tables e below (s₁.setTop (entryFrame m #[(.long p1), (.int p2)] 7)) t := by
          intro t hk
          refine K16 t ?_
          show Steps p.tables e below (T2.setTop (mkF m 43 #[.val (.long p1), .second, .val (.int p2), .val (.long (-9223372036854775808 : Int64)), .second, .val (.long (p1 + (1420070400 : Int64))), .second] [])) _
          refine XS.lload X2.here hx rfl (hb hby d1_43) rfl ?_
          show Steps p.tables e below (T2.setTop (mkF m 45 #[.val (.long p1), .second, .val (.int p2), .val (.long (-9223372036854775808 : Int64)), .second, .val (.long (p1 + (1420070400 : Int64))), .second] [(.long (p1 + (1420070400 : Int64)))])) _
          refine XS.lstoreN X2.here hx rfl (hb hby d1_45) rfl (l' := #[.val (.long p1), .second, .val (.int p2), .val (.long (p1 + (1420070400 : Int64))), .second, .val (.long (p1 + (1420070400 : Int64))), .second]) rfl ?_
          show Steps p.tables e below (T2.setTop (mkF m 46 #[.val (.long p1), .second, .val (.int p2), .val (.long (p1 + (1420070400 : Int64))), .second, .val (.long (p1 + (1420070400 : Int64))), .second] [])) _
          refine XS.lloadN X2.here hx rfl (hb hby d1_46) rfl ?_
          show Steps p.tables e below (T2.setTop (mkF m 47 #[.val (.long p1), .second, .val (.int p2), .val (.long (p1 + (1420070400 : Int64))), .second, .val (.long (p1 + (1420070400 : Int64))), .second] [(.long (p1 + (1420070400 : Int64)))])) _
          exact hk
        obtain ⟨T18, X18, e18, st18⟩ := getS2 X2 hx hZ hown (host := "") (Or.inl (hw _ (List.mem_of_getElem? (i := 11) rfl))) Via.refl e2 SMN (g := (mkF m 47 #[.val (.long p1), .second, .val (.int p2), .val (.long (p1 + (1420070400 : Int64))), .second, .val (.long (p1 + (1420070400 : Int64))), .second] [(.long (p1 + (1420070400 : Int64)))])) rfl (hb hby d1_47)
        have K18 : ∀ t, Steps p.tables e below (T18.setTop (mkF m 50 #[.val (.long p1), .second, .val (.int p2), .val (.long (p1 + (1420070400 : Int64))), .second, .val (.long (p1 + (1420070400 : Int64))), .second] [(.long (-31557014167219200 : Int64)), (.long (p1 + (1420070400 : Int64)))])) t → Steps p.tables e below (s₁.setTop (entryFrame m #[(.long p1), (.int p2)] 7)) t := fun t hk => K17 t (st18 _ hk)
        have K19 : ∀ t, Steps p.tables e below (T18.setTop (mkF m 51 #[.val (.long p1), .second, .val (.int p2), .val (.long (p1 + (1420070400 : Int64))), .second, .val (.long (p1 + (1420070400 : Int64))), .second] [(.int (lcmpW (p1 + (1420070400 : Int64)) (-31557014167219200 : Int64)))])) t → Steps p.tables e below (s₁.setTop (entryFrame m #[(.long p1), (.int p2)] 7)) t := by
          intro t hk
          refine K18 t ?_
          show Steps p.tables e below (T18.setTop (mkF m 50 #[.val (.long p1), .second, .val (.int p2), .val (.long (p1 + (1420070400 : Int64))), .second, .val (.long (p1 + (1420070400 : Int64))), .second] [(.long (-31557014167219200 : Int64)), (.long (p1 + (1420070400 : Int64)))])) _
          refine XS.lcmp X18.here hx rfl (hb hby d1_50) rfl ?_
          show Steps p.tables e below (T18.setTop (mkF m 51 #[.val (.long p1), .second, .val (.int p2), .val (.long (p1 + (1420070400 : Int64))), .second, .val (.long (p1 + (1420070400 : Int64))), .second] [(.int (lcmpW (p1 + (1420070400 : Int64)) (-31557014167219200 : Int64)))])) _
          exact hk
        by_cases hc51 : (p1 + (1420070400 : Int64)) < (-31557014167219200 : Int64)
        · have K20 : ∀ t, Steps p.tables e below (T18.setTop (mkF m 54 #[.val (.long p1), .second, .val (.int p2), .val (.long (p1 + (1420070400 : Int64))), .second, .val (.long (p1 + (1420070400 : Int64))), .second] [])) t → Steps p.tables e below (s₁.setTop (entryFrame m #[(.long p1), (.int p2)] 7)) t := by
            intro t hk
            refine K19 t ?_
            show Steps p.tables e below (T18.setTop (mkF m 51 #[.val (.long p1), .second, .val (.int p2), .val (.long (p1 + (1420070400 : Int64))), .second, .val (.long (p1 + (1420070400 : Int64))), .second] [(.int (lcmpW (p1 + (1420070400 : Int64)) (-31557014167219200 : Int64)))])) _
            refine XS.ifNo X18.here hx rfl (hb hby d1_51) rfl ((if0 _ _).trans (tlt ((lw_lt _ _).mpr hc51)).2.1) ?_
            exact hk
          have K21 : ∀ t, Steps p.tables e below (T18.setTop (mkF m 61 #[.val (.long p1), .second, .val (.int p2), .val (.long (p1 + (1420070400 : Int64))), .second, .val (.long (p1 + (1420070400 : Int64))), .second] [(.long (-9223372036854775808 : Int64))])) t → Steps p.tables e below (s₁.setTop (entryFrame m #[(.long p1), (.int p2)] 7)) t := by
            intro t hk
            refine K20 t ?_
            show Steps p.tables e below (T18.setTop (mkF m 54 #[.val (.long p1), .second, .val (.int p2), .val (.long (p1 + (1420070400 : Int64))), .second, .val (.long (p1 + (1420070400 : Int64))), .second] [])) _
            refine X18.ldc2Long hx hown (mvT hZ (hw _ (List.mem_of_getElem? (i := 7) rfl))) (g := (mkF m 54 #[.val (.long p1), .second, .val (.int p2), .val (.long (p1 + (1420070400 : Int64))), .second, .val (.long (p1 + (1420070400 : Int64))), .second] [])) rfl (hb hby d1_54) _ ?_
            show Steps p.tables e below (T18.setTop (mkF m 57 #[.val (.long p1), .second, .val (.int p2), .val (.long (p1 + (1420070400 : Int64))), .second, .val (.long (p1 + (1420070400 : Int64))), .second] [(.long (-9223372036854775808 : Int64))])) _
            refine XS.goto X18.here hx rfl (pc0 := 57) (pc' := 61) rfl (hb hby d1_57) (by decide) (by decide) ?_
            show Steps p.tables e below (T18.setTop (mkF m 61 #[.val (.long p1), .second, .val (.int p2), .val (.long (p1 + (1420070400 : Int64))), .second, .val (.long (p1 + (1420070400 : Int64))), .second] [(.long (-9223372036854775808 : Int64))])) _
            exact hk
          have EE := e18
          obtain ⟨fs, hr, hrun, hended, hW, hsame⟩ := X18.leave (v := some (.long (-9223372036854775808 : Int64))) (fun h => by rw [Bd.returns] at h; cases h) Bd.notSynchronized
          exact ⟨_, _, K21 _ (X18.lreturnOut hx Bd.returns (hb hby d1_61) hr), hrun, hended, _, _, rfl, ⟨by rw [own_second, if_neg hc13, if_pos hc27, if_pos hc33, if_pos hc51], N0, EE⟩, ⟨_, rfl⟩, hW, hsame.mono (by decide) (by decide)⟩
        · have K22 : ∀ t, Steps p.tables e below (T18.setTop (mkF m 60 #[.val (.long p1), .second, .val (.int p2), .val (.long (p1 + (1420070400 : Int64))), .second, .val (.long (p1 + (1420070400 : Int64))), .second] [])) t → Steps p.tables e below (s₁.setTop (entryFrame m #[(.long p1), (.int p2)] 7)) t := by
            intro t hk
            refine K19 t ?_
            show Steps p.tables e below (T18.setTop (mkF m 51 #[.val (.long p1), .second, .val (.int p2), .val (.long (p1 + (1420070400 : Int64))), .second, .val (.long (p1 + (1420070400 : Int64))), .second] [(.int (lcmpW (p1 + (1420070400 : Int64)) (-31557014167219200 : Int64)))])) _
            refine XS.ifYes X18.here hx rfl (pc0 := 51) (pc' := 60) rfl (hb hby d1_51) rfl ((if0 _ _).trans (flt (fun q => hc51 ((lw_lt _ _).mp q))).2.1) (by decide) (by decide) ?_
            exact hk
          have K23 : ∀ t, Steps p.tables e below (T18.setTop (mkF m 61 #[.val (.long p1), .second, .val (.int p2), .val (.long (p1 + (1420070400 : Int64))), .second, .val (.long (p1 + (1420070400 : Int64))), .second] [(.long (p1 + (1420070400 : Int64)))])) t → Steps p.tables e below (s₁.setTop (entryFrame m #[(.long p1), (.int p2)] 7)) t := by
            intro t hk
            refine K22 t ?_
            show Steps p.tables e below (T18.setTop (mkF m 60 #[.val (.long p1), .second, .val (.int p2), .val (.long (p1 + (1420070400 : Int64))), .second, .val (.long (p1 + (1420070400 : Int64))), .second] [])) _
            refine XS.lloadN X18.here hx rfl (hb hby d1_60) rfl ?_
            show Steps p.tables e below (T18.setTop (mkF m 61 #[.val (.long p1), .second, .val (.int p2), .val (.long (p1 + (1420070400 : Int64))), .second, .val (.long (p1 + (1420070400 : Int64))), .second] [(.long (p1 + (1420070400 : Int64)))])) _
            exact hk
          have EE := e18
          obtain ⟨fs, hr, hrun, hended, hW, hsame⟩ := X18.leave (v := some (.long (p1 + (1420070400 : Int64)))) (fun h => by rw [Bd.returns] at h; cases h) Bd.notSynchronized
          exact ⟨_, _, K23 _ (X18.lreturnOut hx Bd.returns (hb hby d1_61) hr), hrun, hended, _, _, rfl, ⟨by rw [own_second, if_neg hc13, if_pos hc27, if_pos hc33, if_neg hc51], N0, EE⟩, ⟨_, rfl⟩, hW, hsame.mono (by decide) (by decide)⟩
      · have K24 : ∀ t, Steps p.tables e below (T2.setTop (mkF m 36 #[.val (.long p1), .second, .val (.int p2), .val (.long (-9223372036854775808 : Int64)), .second, .val (.long (p1 + (1420070400 : Int64))), .second] [])) t → Steps p.tables e below (s₁.setTop (entryFrame m #[(.long p1), (.int p2)] 7)) t := by
          intro t hk
          refine K15 t ?_
          show Steps p.tables e below (T2.setTop (mkF m 33 #[.val (.long p1), .second, .val (.int p2), .val (.long (-9223372036854775808 : Int64)), .second, .val (.long (p1 + (1420070400 : Int64))), .second] [(.int (1000000 : Int32)), (.int p2)])) _
          refine XS.icmpNo X2.here hx rfl (hb hby d1_33) rfl (flt hc33).1 ?_
          exact hk
        have K25 : ∀ t, Steps p.tables e below (T2.setTop (mkF m 47 #[.val (.long p1), .second, .val (.int p2), .val (.long ((p1 + (1420070400 : Int64)) - (1 : Int64))), .second, .val (.long (p1 + (1420070400 : Int64))), .second] [(.long ((p1 + (1420070400 : Int64)) - (1 : Int64)))])) t → Steps p.tables e below (s₁.setTop (entryFrame m #[(.long p1), (.int p2)] 7)) t := by
          intro t hk
          refine K24 t ?_
          show Steps p.tables e below (T2.setTop (mkF m 36 #[.val (.long p1), .second, .val (.int p2), .val (.long (-9223372036854775808 : Int64)), .second, .val (.long (p1 + (1420070400 : Int64))), .second] [])) _
          refine XS.lload X2.here hx rfl (hb hby d1_36) rfl ?_
          show Steps p.tables e below (T2.setTop (mkF m 38 #[.val (.long p1), .second, .val (.int p2), .val (.long (-9223372036854775808 : Int64)), .second, .val (.long (p1 + (1420070400 : Int64))), .second] [(.long (p1 + (1420070400 : Int64)))])) _
          refine XS.lconst X2.here hx rfl (hb hby d1_38) ?_
          show Steps p.tables e below (T2.setTop (mkF m 39 #[.val (.long p1), .second, .val (.int p2), .val (.long (-9223372036854775808 : Int64)), .second, .val (.long (p1 + (1420070400 : Int64))), .second] [(.long (1 : Int64)), (.long (p1 + (1420070400 : Int64)))])) _
          refine XS.lsub X2.here hx rfl (hb hby d1_39) rfl ?_
          show Steps p.tables e below (T2.setTop (mkF m 40 #[.val (.long p1), .second, .val (.int p2), .val (.long (-9223372036854775808 : Int64)), .second, .val (.long (p1 + (1420070400 : Int64))), .second] [(.long ((p1 + (1420070400 : Int64)) - (1 : Int64)))])) _
          refine XS.goto X2.here hx rfl (pc0 := 40) (pc' := 45) rfl (hb hby d1_40) (by decide) (by decide) ?_
          show Steps p.tables e below (T2.setTop (mkF m 45 #[.val (.long p1), .second, .val (.int p2), .val (.long (-9223372036854775808 : Int64)), .second, .val (.long (p1 + (1420070400 : Int64))), .second] [(.long ((p1 + (1420070400 : Int64)) - (1 : Int64)))])) _
          refine XS.lstoreN X2.here hx rfl (hb hby d1_45) rfl (l' := #[.val (.long p1), .second, .val (.int p2), .val (.long ((p1 + (1420070400 : Int64)) - (1 : Int64))), .second, .val (.long (p1 + (1420070400 : Int64))), .second]) rfl ?_
          show Steps p.tables e below (T2.setTop (mkF m 46 #[.val (.long p1), .second, .val (.int p2), .val (.long ((p1 + (1420070400 : Int64)) - (1 : Int64))), .second, .val (.long (p1 + (1420070400 : Int64))), .second] [])) _
          refine XS.lloadN X2.here hx rfl (hb hby d1_46) rfl ?_
          show Steps p.tables e below (T2.setTop (mkF m 47 #[.val (.long p1), .second, .val (.int p2), .val (.long ((p1 + (1420070400 : Int64)) - (1 : Int64))), .second, .val (.long (p1 + (1420070400 : Int64))), .second] [(.long ((p1 + (1420070400 : Int64)) - (1 : Int64)))])) _
          exact hk
        obtain ⟨T26, X26, e26, st26⟩ := getS2 X2 hx hZ hown (host := "") (Or.inl (hw _ (List.mem_of_getElem? (i := 11) rfl))) Via.refl e2 SMN (g := (mkF m 47 #[.val (.long p1), .second, .val (.int p2), .val (.long ((p1 + (1420070400 : Int64)) - (1 : Int64))), .second, .val (.long (p1 + (1420070400 : Int64))), .second] [(.long ((p1 + (1420070400 : Int64)) - (1 : Int64)))])) rfl (hb hby d1_47)
        have K26 : ∀ t, Steps p.tables e below (T26.setTop (mkF m 50 #[.val (.long p1), .second, .val (.int p2), .val (.long ((p1 + (1420070400 : Int64)) - (1 : Int64))), .second, .val (.long (p1 + (1420070400 : Int64))), .second] [(.long (-31557014167219200 : Int64)), (.long ((p1 + (1420070400 : Int64)) - (1 : Int64)))])) t → Steps p.tables e below (s₁.setTop (entryFrame m #[(.long p1), (.int p2)] 7)) t := fun t hk => K25 t (st26 _ hk)
        have K27 : ∀ t, Steps p.tables e below (T26.setTop (mkF m 51 #[.val (.long p1), .second, .val (.int p2), .val (.long ((p1 + (1420070400 : Int64)) - (1 : Int64))), .second, .val (.long (p1 + (1420070400 : Int64))), .second] [(.int (lcmpW ((p1 + (1420070400 : Int64)) - (1 : Int64)) (-31557014167219200 : Int64)))])) t → Steps p.tables e below (s₁.setTop (entryFrame m #[(.long p1), (.int p2)] 7)) t := by
          intro t hk
          refine K26 t ?_
          show Steps p.tables e below (T26.setTop (mkF m 50 #[.val (.long p1), .second, .val (.int p2), .val (.long ((p1 + (1420070400 : Int64)) - (1 : Int64))), .second, .val (.long (p1 + (1420070400 : Int64))), .second] [(.long (-31557014167219200 : Int64)), (.long ((p1 + (1420070400 : Int64)) - (1 : Int64)))])) _
          refine XS.lcmp X26.here hx rfl (hb hby d1_50) rfl ?_
          show Steps p.tables e below (T26.setTop (mkF m 51 #[.val (.long p1), .second, .val (.int p2), .val (.long ((p1 + (1420070400 : Int64)) - (1 : Int64))), .second, .val (.long (p1 + (1420070400 : Int64))), .second] [(.int (lcmpW ((p1 + (1420070400 : Int64)) - (1 : Int64)) (-31557014167219200 : Int64)))])) _
          exact hk
        by_cases hc51 : ((p1 + (1420070400 : Int64)) - (1 : Int64)) < (-31557014167219200 : Int64)
        · have K28 : ∀ t, Steps p.tables e below (T26.setTop (mkF m 54 #[.val (.long p1), .second, .val (.int p2), .val (.long ((p1 + (1420070400 : Int64)) - (1 : Int64))), .second, .val (.long (p1 + (1420070400 : Int64))), .second] [])) t → Steps p.tables e below (s₁.setTop (entryFrame m #[(.long p1), (.int p2)] 7)) t := by
            intro t hk
            refine K27 t ?_
            show Steps p.tables e below (T26.setTop (mkF m 51 #[.val (.long p1), .second, .val (.int p2), .val (.long ((p1 + (1420070400 : Int64)) - (1 : Int64))), .second, .val (.long (p1 + (1420070400 : Int64))), .second] [(.int (lcmpW ((p1 + (1420070400 : Int64)) - (1 : Int64)) (-31557014167219200 : Int64)))])) _
            refine XS.ifNo X26.here hx rfl (hb hby d1_51) rfl ((if0 _ _).trans (tlt ((lw_lt _ _).mpr hc51)).2.1) ?_
            exact hk
          have K29 : ∀ t, Steps p.tables e below (T26.setTop (mkF m 61 #[.val (.long p1), .second, .val (.int p2), .val (.long ((p1 + (1420070400 : Int64)) - (1 : Int64))), .second, .val (.long (p1 + (1420070400 : Int64))), .second] [(.long (-9223372036854775808 : Int64))])) t → Steps p.tables e below (s₁.setTop (entryFrame m #[(.long p1), (.int p2)] 7)) t := by
            intro t hk
            refine K28 t ?_
            show Steps p.tables e below (T26.setTop (mkF m 54 #[.val (.long p1), .second, .val (.int p2), .val (.long ((p1 + (1420070400 : Int64)) - (1 : Int64))), .second, .val (.long (p1 + (1420070400 : Int64))), .second] [])) _
            refine X26.ldc2Long hx hown (mvT hZ (hw _ (List.mem_of_getElem? (i := 7) rfl))) (g := (mkF m 54 #[.val (.long p1), .second, .val (.int p2), .val (.long ((p1 + (1420070400 : Int64)) - (1 : Int64))), .second, .val (.long (p1 + (1420070400 : Int64))), .second] [])) rfl (hb hby d1_54) _ ?_
            show Steps p.tables e below (T26.setTop (mkF m 57 #[.val (.long p1), .second, .val (.int p2), .val (.long ((p1 + (1420070400 : Int64)) - (1 : Int64))), .second, .val (.long (p1 + (1420070400 : Int64))), .second] [(.long (-9223372036854775808 : Int64))])) _
            refine XS.goto X26.here hx rfl (pc0 := 57) (pc' := 61) rfl (hb hby d1_57) (by decide) (by decide) ?_
            show Steps p.tables e below (T26.setTop (mkF m 61 #[.val (.long p1), .second, .val (.int p2), .val (.long ((p1 + (1420070400 : Int64)) - (1 : Int64))), .second, .val (.long (p1 + (1420070400 : Int64))), .second] [(.long (-9223372036854775808 : Int64))])) _
            exact hk
          have EE := e26
          obtain ⟨fs, hr, hrun, hended, hW, hsame⟩ := X26.leave (v := some (.long (-9223372036854775808 : Int64))) (fun h => by rw [Bd.returns] at h; cases h) Bd.notSynchronized
          exact ⟨_, _, K29 _ (X26.lreturnOut hx Bd.returns (hb hby d1_61) hr), hrun, hended, _, _, rfl, ⟨by rw [own_second, if_neg hc13, if_pos hc27, if_neg hc33, if_pos hc51], N0, EE⟩, ⟨_, rfl⟩, hW, hsame.mono (by decide) (by decide)⟩
        · have K30 : ∀ t, Steps p.tables e below (T26.setTop (mkF m 60 #[.val (.long p1), .second, .val (.int p2), .val (.long ((p1 + (1420070400 : Int64)) - (1 : Int64))), .second, .val (.long (p1 + (1420070400 : Int64))), .second] [])) t → Steps p.tables e below (s₁.setTop (entryFrame m #[(.long p1), (.int p2)] 7)) t := by
            intro t hk
            refine K27 t ?_
            show Steps p.tables e below (T26.setTop (mkF m 51 #[.val (.long p1), .second, .val (.int p2), .val (.long ((p1 + (1420070400 : Int64)) - (1 : Int64))), .second, .val (.long (p1 + (1420070400 : Int64))), .second] [(.int (lcmpW ((p1 + (1420070400 : Int64)) - (1 : Int64)) (-31557014167219200 : Int64)))])) _
            refine XS.ifYes X26.here hx rfl (pc0 := 51) (pc' := 60) rfl (hb hby d1_51) rfl ((if0 _ _).trans (flt (fun q => hc51 ((lw_lt _ _).mp q))).2.1) (by decide) (by decide) ?_
            exact hk
          have K31 : ∀ t, Steps p.tables e below (T26.setTop (mkF m 61 #[.val (.long p1), .second, .val (.int p2), .val (.long ((p1 + (1420070400 : Int64)) - (1 : Int64))), .second, .val (.long (p1 + (1420070400 : Int64))), .second] [(.long ((p1 + (1420070400 : Int64)) - (1 : Int64)))])) t → Steps p.tables e below (s₁.setTop (entryFrame m #[(.long p1), (.int p2)] 7)) t := by
            intro t hk
            refine K30 t ?_
            show Steps p.tables e below (T26.setTop (mkF m 60 #[.val (.long p1), .second, .val (.int p2), .val (.long ((p1 + (1420070400 : Int64)) - (1 : Int64))), .second, .val (.long (p1 + (1420070400 : Int64))), .second] [])) _
            refine XS.lloadN X26.here hx rfl (hb hby d1_60) rfl ?_
            show Steps p.tables e below (T26.setTop (mkF m 61 #[.val (.long p1), .second, .val (.int p2), .val (.long ((p1 + (1420070400 : Int64)) - (1 : Int64))), .second, .val (.long (p1 + (1420070400 : Int64))), .second] [(.long ((p1 + (1420070400 : Int64)) - (1 : Int64)))])) _
            exact hk
          have EE := e26
          obtain ⟨fs, hr, hrun, hended, hW, hsame⟩ := X26.leave (v := some (.long ((p1 + (1420070400 : Int64)) - (1 : Int64)))) (fun h => by rw [Bd.returns] at h; cases h) Bd.notSynchronized
          exact ⟨_, _, K31 _ (X26.lreturnOut hx Bd.returns (hb hby d1_61) hr), hrun, hended, _, _, rfl, ⟨by rw [own_second, if_neg hc13, if_pos hc27, if_neg hc33, if_neg hc51], N0, EE⟩, ⟨_, rfl⟩, hW, hsame.mono (by decide) (by decide)⟩
    · have K32 : ∀ t, Steps p.tables e below (T2.setTop (mkF m 43 #[.val (.long p1), .second, .val (.int p2), .val (.long (-9223372036854775808 : Int64)), .second, .val (.long (p1 + (1420070400 : Int64))), .second] [])) t → Steps p.tables e below (s₁.setTop (entryFrame m #[(.long p1), (.int p2)] 7)) t := by
        intro t hk
        refine K13 t ?_
        show Steps p.tables e below (T2.setTop (mkF m 27 #[.val (.long p1), .second, .val (.int p2), .val (.long (-9223372036854775808 : Int64)), .second, .val (.long (p1 + (1420070400 : Int64))), .second] [(.int (lcmpW (p1 + (1420070400 : Int64)) (0 : Int64)))])) _
        refine XS.ifYes X2.here hx rfl (pc0 := 27) (pc' := 43) rfl (hb hby d1_27) rfl ((if0 _ _).trans (flt (fun q => hc27 ((lw_lt _ _).mp q))).2.1) (by decide) (by decide) ?_
        exact hk
      have K33 : ∀ t, Steps p.tables e below (T2.setTop (mkF m 47 #[.val (.long p1), .second, .val (.int p2), .val (.long (p1 + (1420070400 : Int64))), .second, .val (.long (p1 + (1420070400 : Int64))), .second] [(.long (p1 + (1420070400 : Int64)))])) t → Steps p.tables e below (s₁.setTop (entryFrame m #[(.long p1), (.int p2)] 7)) t := by
        intro t hk
        refine K32 t ?_
        show Steps p.tables e below (T2.setTop (mkF m 43 #[.val (.long p1), .second, .val (.int p2), .val (.long (-9223372036854775808 : Int64)), .second, .val (.long (p1 + (1420070400 : Int64))), .second] [])) _
        refine XS.lload X2.here hx rfl (hb hby d1_43) rfl ?_
        show Steps p.tables e below (T2.setTop (mkF m 45 #[.val (.long p1), .second, .val (.int p2), .val (.long (-9223372036854775808 : Int64)), .second, .val (.long (p1 + (1420070400 : Int64))), .second] [(.long (p1 + (1420070400 : Int64)))])) _
        refine XS.lstoreN X2.here hx rfl (hb hby d1_45) rfl (l' := #[.val (.long p1), .second, .val (.int p2), .val (.long (p1 + (1420070400 : Int64))), .second, .val (.long (p1 + (1420070400 : Int64))), .second]) rfl ?_
        show Steps p.tables e below (T2.setTop (mkF m 46 #[.val (.long p1), .second, .val (.int p2), .val (.long (p1 + (1420070400 : Int64))), .second, .val (.long (p1 + (1420070400 : Int64))), .second] [])) _
        refine XS.lloadN X2.here hx rfl (hb hby d1_46) rfl ?_
        show Steps p.tables e below (T2.setTop (mkF m 47 #[.val (.long p1), .second, .val (.int p2), .val (.long (p1 + (1420070400 : Int64))), .second, .val (.long (p1 + (1420070400 : Int64))), .second] [(.long (p1 + (1420070400 : Int64)))])) _
        exact hk
      obtain ⟨T34, X34, e34, st34⟩ := getS2 X2 hx hZ hown (host := "") (Or.inl (hw _ (List.mem_of_getElem? (i := 11) rfl))) Via.refl e2 SMN (g := (mkF m 47 #[.val (.long p1), .second, .val (.int p2), .val (.long (p1 + (1420070400 : Int64))), .second, .val (.long (p1 + (1420070400 : Int64))), .second] [(.long (p1 + (1420070400 : Int64)))])) rfl (hb hby d1_47)
      have K34 : ∀ t, Steps p.tables e below (T34.setTop (mkF m 50 #[.val (.long p1), .second, .val (.int p2), .val (.long (p1 + (1420070400 : Int64))), .second, .val (.long (p1 + (1420070400 : Int64))), .second] [(.long (-31557014167219200 : Int64)), (.long (p1 + (1420070400 : Int64)))])) t → Steps p.tables e below (s₁.setTop (entryFrame m #[(.long p1), (.int p2)] 7)) t := fun t hk => K33 t (st34 _ hk)
      have K35 : ∀ t, Steps p.tables e below (T34.setTop (mkF m 51 #[.val (.long p1), .second, .val (.int p2), .val (.long (p1 + (1420070400 : Int64))), .second, .val (.long (p1 + (1420070400 : Int64))), .second] [(.int (lcmpW (p1 + (1420070400 : Int64)) (-31557014167219200 : Int64)))])) t → Steps p.tables e below (s₁.setTop (entryFrame m #[(.long p1), (.int p2)] 7)) t := by
        intro t hk
        refine K34 t ?_
        show Steps p.tables e below (T34.setTop (mkF m 50 #[.val (.long p1), .second, .val (.int p2), .val (.long (p1 + (1420070400 : Int64))), .second, .val (.long (p1 + (1420070400 : Int64))), .second] [(.long (-31557014167219200 : Int64)), (.long (p1 + (1420070400 : Int64)))])) _
        refine XS.lcmp X34.here hx rfl (hb hby d1_50) rfl ?_
        show Steps p.tables e below (T34.setTop (mkF m 51 #[.val (.long p1), .second, .val (.int p2), .val (.long (p1 + (1420070400 : Int64))), .second, .val (.long (p1 + (1420070400 : Int64))), .second] [(.int (lcmpW (p1 + (1420070400 : Int64)) (-31557014167219200 : Int64)))])) _
        exact hk
      by_cases hc51 : (p1 + (1420070400 : Int64)) < (-31557014167219200 : Int64)
      · have K36 : ∀ t, Steps p.tables e below (T34.setTop (mkF m 54 #[.val (.long p1), .second, .val (.int p2), .val (.long (p1 + (1420070400 : Int64))), .second, .val (.long (p1 + (1420070400 : Int64))), .second] [])) t → Steps p.tables e below (s₁.setTop (entryFrame m #[(.long p1), (.int p2)] 7)) t := by
          intro t hk
          refine K35 t ?_
          show Steps p.tables e below (T34.setTop (mkF m 51 #[.val (.long p1), .second, .val (.int p2), .val (.long (p1 + (1420070400 : Int64))), .second, .val (.long (p1 + (1420070400 : Int64))), .second] [(.int (lcmpW (p1 + (1420070400 : Int64)) (-31557014167219200 : Int64)))])) _
          refine XS.ifNo X34.here hx rfl (hb hby d1_51) rfl ((if0 _ _).trans (tlt ((lw_lt _ _).mpr hc51)).2.1) ?_
          exact hk
        have K37 : ∀ t, Steps p.tables e below (T34.setTop (mkF m 61 #[.val (.long p1), .second, .val (.int p2), .val (.long (p1 + (1420070400 : Int64))), .second, .val (.long (p1 + (1420070400 : Int64))), .second] [(.long (-9223372036854775808 : Int64))])) t → Steps p.tables e below (s₁.setTop (entryFrame m #[(.long p1), (.int p2)] 7)) t := by
          intro t hk
          refine K36 t ?_
          show Steps p.tables e below (T34.setTop (mkF m 54 #[.val (.long p1), .second, .val (.int p2), .val (.long (p1 + (1420070400 : Int64))), .second, .val (.long (p1 + (1420070400 : Int64))), .second] [])) _
          refine X34.ldc2Long hx hown (mvT hZ (hw _ (List.mem_of_getElem? (i := 7) rfl))) (g := (mkF m 54 #[.val (.long p1), .second, .val (.int p2), .val (.long (p1 + (1420070400 : Int64))), .second, .val (.long (p1 + (1420070400 : Int64))), .second] [])) rfl (hb hby d1_54) _ ?_
          show Steps p.tables e below (T34.setTop (mkF m 57 #[.val (.long p1), .second, .val (.int p2), .val (.long (p1 + (1420070400 : Int64))), .second, .val (.long (p1 + (1420070400 : Int64))), .second] [(.long (-9223372036854775808 : Int64))])) _
          refine XS.goto X34.here hx rfl (pc0 := 57) (pc' := 61) rfl (hb hby d1_57) (by decide) (by decide) ?_
          show Steps p.tables e below (T34.setTop (mkF m 61 #[.val (.long p1), .second, .val (.int p2), .val (.long (p1 + (1420070400 : Int64))), .second, .val (.long (p1 + (1420070400 : Int64))), .second] [(.long (-9223372036854775808 : Int64))])) _
          exact hk
        have EE := e34
        obtain ⟨fs, hr, hrun, hended, hW, hsame⟩ := X34.leave (v := some (.long (-9223372036854775808 : Int64))) (fun h => by rw [Bd.returns] at h; cases h) Bd.notSynchronized
        exact ⟨_, _, K37 _ (X34.lreturnOut hx Bd.returns (hb hby d1_61) hr), hrun, hended, _, _, rfl, ⟨by rw [own_second, if_neg hc13, if_neg hc27, if_pos hc51], N0, EE⟩, ⟨_, rfl⟩, hW, hsame.mono (by decide) (by decide)⟩
      · have K38 : ∀ t, Steps p.tables e below (T34.setTop (mkF m 60 #[.val (.long p1), .second, .val (.int p2), .val (.long (p1 + (1420070400 : Int64))), .second, .val (.long (p1 + (1420070400 : Int64))), .second] [])) t → Steps p.tables e below (s₁.setTop (entryFrame m #[(.long p1), (.int p2)] 7)) t := by
          intro t hk
          refine K35 t ?_
          show Steps p.tables e below (T34.setTop (mkF m 51 #[.val (.long p1), .second, .val (.int p2), .val (.long (p1 + (1420070400 : Int64))), .second, .val (.long (p1 + (1420070400 : Int64))), .second] [(.int (lcmpW (p1 + (1420070400 : Int64)) (-31557014167219200 : Int64)))])) _
          refine XS.ifYes X34.here hx rfl (pc0 := 51) (pc' := 60) rfl (hb hby d1_51) rfl ((if0 _ _).trans (flt (fun q => hc51 ((lw_lt _ _).mp q))).2.1) (by decide) (by decide) ?_
          exact hk
        have K39 : ∀ t, Steps p.tables e below (T34.setTop (mkF m 61 #[.val (.long p1), .second, .val (.int p2), .val (.long (p1 + (1420070400 : Int64))), .second, .val (.long (p1 + (1420070400 : Int64))), .second] [(.long (p1 + (1420070400 : Int64)))])) t → Steps p.tables e below (s₁.setTop (entryFrame m #[(.long p1), (.int p2)] 7)) t := by
          intro t hk
          refine K38 t ?_
          show Steps p.tables e below (T34.setTop (mkF m 60 #[.val (.long p1), .second, .val (.int p2), .val (.long (p1 + (1420070400 : Int64))), .second, .val (.long (p1 + (1420070400 : Int64))), .second] [])) _
          refine XS.lloadN X34.here hx rfl (hb hby d1_60) rfl ?_
          show Steps p.tables e below (T34.setTop (mkF m 61 #[.val (.long p1), .second, .val (.int p2), .val (.long (p1 + (1420070400 : Int64))), .second, .val (.long (p1 + (1420070400 : Int64))), .second] [(.long (p1 + (1420070400 : Int64)))])) _
          exact hk
        have EE := e34
        obtain ⟨fs, hr, hrun, hended, hW, hsame⟩ := X34.leave (v := some (.long (p1 + (1420070400 : Int64)))) (fun h => by rw [Bd.returns] at h; cases h) Bd.notSynchronized
        exact ⟨_, _, K39 _ (X34.lreturnOut hx Bd.returns (hb hby d1_61) hr), hrun, hended, _, _, rfl, ⟨by rw [own_second, if_neg hc13, if_neg hc27, if_neg hc51], N0, EE⟩, ⟨_, rfl⟩, hW, hsame.mono (by decide) (by decide)⟩
def own_data (p1 : Int64) (p2 : Int32) (p3 : Int32) (p4 : Int32) (p5 : Int32) (hi : Int64) (lo : Int64) (o5 : Int64) (k5 : Int32) : Int64 := (if k5 = (0 : Int32) then p1 else (if k5 = (1 : Int32) then (hi + o5) else (if k5 = (2 : Int32) then (lo + o5) else ((-(1420070400 : Int64)) + o5))))
set_option maxRecDepth 65536 in
set_option maxHeartbeats 4000000 in
theorem own_data_s {p : Program} {l : Launch} {e : Env} {R : Room} {s : State} {m : MethodId} {args : Array Value} {below : List Frame} {meth : Method} {c : Code} {T : State} {locs : List Loc} {cells slots : Nat} {Z : State} {a0 : Array Value} (X : Stand p l e R s m args below meth c T locs cells slots) (hx : p.tables.exec = Jvm.exec) (hby : c.code = code) (hown : s.vm.findClass "com/example/bitrun/bitrun/orc/timestamp/TimestampLayoutSecondPinLaw" = some m.cls) (hZ : Z.Warmed39 s.vm) (hw : ∀ d ∈ tables_1, d.before a0 Z = true) (p1 : Int64) (p2 : Int32) (p3 : Int32) (p4 : Int32) (p5 : Int32) (hi : Int64) (lo : Int64) (o5 : Int64) (k5 : Int32) (v : Int64) (hv : own_data p1 p2 p3 p4 p5 hi lo o5 k5 = v) {target : State} (hk : Steps p.tables e below (T.setTop (mkF m 93 #[.val (.long p1), .second, .val (.int p2), .val (.int p3), .val (.int p4), .val (.int p5), .val (.long (1420070400 : Int64)), .second, .val (.long (-31557014167219200 : Int64)), .second, .val (.long (31556889864403199 : Int64)), .second, .val (.long hi), .second, .val (.long lo), .second, .val (.long o5), .second, .val (.int k5), .val (.long v), .second, .unset, .unset, .unset] [])) target) :
    Steps p.tables e below (T.setTop (mkF m 42 #[.val (.long p1), .second, .val (.int p2), .val (.int p3), .val (.int p4), .val (.int p5), .val (.long (1420070400 : Int64)), .second, .val (.long (-31557014167219200 : Int64)), .second, .val (.long (31556889864403199 : Int64)), .second, .val (.long hi), .second, .val (.long lo), .second, .val (.long o5), .second, .val (.int k5), .unset, .unset, .unset, .unset, .unset] [])) target := by
  unfold own_data at hv
  show Steps p.tables e below (T.setTop (mkF m 42 #[.val (.long p1), .second, .val (.int p2), .val (.int p3), .val (.int p4), .val (.int p5), .val (.long (1420070400 : Int64)), .second, .val (.long (-31557014167219200 : Int64)), .second, .val (.long (31556889864403199 : Int64)), .second, .val (.long hi), .second, .val (.long lo), .second, .val (.long o5), .second, .val (.int k5), .unset, .unset, .unset, .unset, .unset] [])) _
  refine XS.iload X.here hx rfl (hb hby at_42) rfl ?_
  show Steps p.tables e below (T.setTop (mkF m 44 #[.val (.long p1), .second, .val (.int p2), .val (.int p3), .val (.int p4), .val (.int p5), .val (.long (1420070400 : Int64)), .second, .val (.long (-31557014167219200 : Int64)), .second, .val (.long (31556889864403199 : Int64)), .second, .val (.long hi), .second, .val (.long lo), .second, .val (.long o5), .second, .val (.int k5), .unset, .unset, .unset, .unset, .unset] [(.int k5)])) _
  by_cases hc44 : k5 = (0 : Int32)
  · rw [if_pos hc44] at hv
    refine XS.ifNo X.here hx rfl (hb hby at_44) rfl ((if0 _ _).trans (teq hc44).2) ?_
    show Steps p.tables e below (T.setTop (mkF m 47 #[.val (.long p1), .second, .val (.int p2), .val (.int p3), .val (.int p4), .val (.int p5), .val (.long (1420070400 : Int64)), .second, .val (.long (-31557014167219200 : Int64)), .second, .val (.long (31556889864403199 : Int64)), .second, .val (.long hi), .second, .val (.long lo), .second, .val (.long o5), .second, .val (.int k5), .unset, .unset, .unset, .unset, .unset] [])) _
    refine XS.lloadN X.here hx rfl (hb hby at_47) rfl ?_
    show Steps p.tables e below (T.setTop (mkF m 48 #[.val (.long p1), .second, .val (.int p2), .val (.int p3), .val (.int p4), .val (.int p5), .val (.long (1420070400 : Int64)), .second, .val (.long (-31557014167219200 : Int64)), .second, .val (.long (31556889864403199 : Int64)), .second, .val (.long hi), .second, .val (.long lo), .second, .val (.long o5), .second, .val (.int k5), .unset, .unset, .unset, .unset, .unset] [(.long p1)])) _
    refine XS.lstore X.here hx rfl (hb hby at_48) rfl (l' := #[.val (.long p1), .second, .val (.int p2), .val (.int p3), .val (.int p4), .val (.int p5), .val (.long (1420070400 : Int64)), .second, .val (.long (-31557014167219200 : Int64)), .second, .val (.long (31556889864403199 : Int64)), .second, .val (.long hi), .second, .val (.long lo), .second, .val (.long o5), .second, .val (.int k5), .val (.long p1), .second, .unset, .unset, .unset]) rfl ?_
    show Steps p.tables e below (T.setTop (mkF m 50 #[.val (.long p1), .second, .val (.int p2), .val (.int p3), .val (.int p4), .val (.int p5), .val (.long (1420070400 : Int64)), .second, .val (.long (-31557014167219200 : Int64)), .second, .val (.long (31556889864403199 : Int64)), .second, .val (.long hi), .second, .val (.long lo), .second, .val (.long o5), .second, .val (.int k5), .val (.long p1), .second, .unset, .unset, .unset] [])) _
    refine XS.goto X.here hx rfl (pc0 := 50) (pc' := 93) rfl (hb hby at_50) (by decide) (by decide) ?_
    show Steps p.tables e below (T.setTop (mkF m 93 #[.val (.long p1), .second, .val (.int p2), .val (.int p3), .val (.int p4), .val (.int p5), .val (.long (1420070400 : Int64)), .second, .val (.long (-31557014167219200 : Int64)), .second, .val (.long (31556889864403199 : Int64)), .second, .val (.long hi), .second, .val (.long lo), .second, .val (.long o5), .second, .val (.int k5), .val (.long p1), .second, .unset, .unset, .unset] [])) _
    subst hv
    exact hk
  · rw [if_neg hc44] at hv
    refine XS.ifYes X.here hx rfl (pc0 := 44) (pc' := 53) rfl (hb hby at_44) rfl ((if0 _ _).trans (feq hc44).2) (by decide) (by decide) ?_
    show Steps p.tables e below (T.setTop (mkF m 53 #[.val (.long p1), .second, .val (.int p2), .val (.int p3), .val (.int p4), .val (.int p5), .val (.long (1420070400 : Int64)), .second, .val (.long (-31557014167219200 : Int64)), .second, .val (.long (31556889864403199 : Int64)), .second, .val (.long hi), .second, .val (.long lo), .second, .val (.long o5), .second, .val (.int k5), .unset, .unset, .unset, .unset, .unset] [])) _
    refine XS.iload X.here hx rfl (hb hby at_53) rfl ?_
    show Steps p.tables e below (T.setTop (mkF m 55 #[.val (.long p1), .second, .val (.int p2), .val (.int p3), .val (.int p4), .val (.int p5), .val (.long (1420070400 : Int64)), .second, .val (.long (-31557014167219200 : Int64)), .second, .val (.long (31556889864403199 : Int64)), .second, .val (.long hi), .second, .val (.long lo), .second, .val (.long o5), .second, .val (.int k5), .unset, .unset, .unset, .unset, .unset] [(.int k5)])) _
    refine XS.iconst X.here hx rfl (hb hby at_55) ?_
    show Steps p.tables e below (T.setTop (mkF m 56 #[.val (.long p1), .second, .val (.int p2), .val (.int p3), .val (.int p4), .val (.int p5), .val (.long (1420070400 : Int64)), .second, .val (.long (-31557014167219200 : Int64)), .second, .val (.long (31556889864403199 : Int64)), .second, .val (.long hi), .second, .val (.long lo), .second, .val (.long o5), .second, .val (.int k5), .unset, .unset, .unset, .unset, .unset] [(.int (1 : Int32)), (.int k5)])) _
    by_cases hc56 : k5 = (1 : Int32)
    · rw [if_pos hc56] at hv
      refine XS.icmpNo X.here hx rfl (hb hby at_56) rfl (teq hc56).2 ?_
      show Steps p.tables e below (T.setTop (mkF m 59 #[.val (.long p1), .second, .val (.int p2), .val (.int p3), .val (.int p4), .val (.int p5), .val (.long (1420070400 : Int64)), .second, .val (.long (-31557014167219200 : Int64)), .second, .val (.long (31556889864403199 : Int64)), .second, .val (.long hi), .second, .val (.long lo), .second, .val (.long o5), .second, .val (.int k5), .unset, .unset, .unset, .unset, .unset] [])) _
      refine XS.lload X.here hx rfl (hb hby at_59) rfl ?_
      show Steps p.tables e below (T.setTop (mkF m 61 #[.val (.long p1), .second, .val (.int p2), .val (.int p3), .val (.int p4), .val (.int p5), .val (.long (1420070400 : Int64)), .second, .val (.long (-31557014167219200 : Int64)), .second, .val (.long (31556889864403199 : Int64)), .second, .val (.long hi), .second, .val (.long lo), .second, .val (.long o5), .second, .val (.int k5), .unset, .unset, .unset, .unset, .unset] [(.long hi)])) _
      refine XS.lload X.here hx rfl (hb hby at_61) rfl ?_
      show Steps p.tables e below (T.setTop (mkF m 63 #[.val (.long p1), .second, .val (.int p2), .val (.int p3), .val (.int p4), .val (.int p5), .val (.long (1420070400 : Int64)), .second, .val (.long (-31557014167219200 : Int64)), .second, .val (.long (31556889864403199 : Int64)), .second, .val (.long hi), .second, .val (.long lo), .second, .val (.long o5), .second, .val (.int k5), .unset, .unset, .unset, .unset, .unset] [(.long o5), (.long hi)])) _
      refine XS.ladd X.here hx rfl (hb hby at_63) rfl ?_
      show Steps p.tables e below (T.setTop (mkF m 64 #[.val (.long p1), .second, .val (.int p2), .val (.int p3), .val (.int p4), .val (.int p5), .val (.long (1420070400 : Int64)), .second, .val (.long (-31557014167219200 : Int64)), .second, .val (.long (31556889864403199 : Int64)), .second, .val (.long hi), .second, .val (.long lo), .second, .val (.long o5), .second, .val (.int k5), .unset, .unset, .unset, .unset, .unset] [(.long (hi + o5))])) _
      refine XS.lstore X.here hx rfl (hb hby at_64) rfl (l' := #[.val (.long p1), .second, .val (.int p2), .val (.int p3), .val (.int p4), .val (.int p5), .val (.long (1420070400 : Int64)), .second, .val (.long (-31557014167219200 : Int64)), .second, .val (.long (31556889864403199 : Int64)), .second, .val (.long hi), .second, .val (.long lo), .second, .val (.long o5), .second, .val (.int k5), .val (.long (hi + o5)), .second, .unset, .unset, .unset]) rfl ?_
      show Steps p.tables e below (T.setTop (mkF m 66 #[.val (.long p1), .second, .val (.int p2), .val (.int p3), .val (.int p4), .val (.int p5), .val (.long (1420070400 : Int64)), .second, .val (.long (-31557014167219200 : Int64)), .second, .val (.long (31556889864403199 : Int64)), .second, .val (.long hi), .second, .val (.long lo), .second, .val (.long o5), .second, .val (.int k5), .val (.long (hi + o5)), .second, .unset, .unset, .unset] [])) _
      refine XS.goto X.here hx rfl (pc0 := 66) (pc' := 93) rfl (hb hby at_66) (by decide) (by decide) ?_
      show Steps p.tables e below (T.setTop (mkF m 93 #[.val (.long p1), .second, .val (.int p2), .val (.int p3), .val (.int p4), .val (.int p5), .val (.long (1420070400 : Int64)), .second, .val (.long (-31557014167219200 : Int64)), .second, .val (.long (31556889864403199 : Int64)), .second, .val (.long hi), .second, .val (.long lo), .second, .val (.long o5), .second, .val (.int k5), .val (.long (hi + o5)), .second, .unset, .unset, .unset] [])) _
      subst hv
      exact hk
    · rw [if_neg hc56] at hv
      refine XS.icmpYes X.here hx rfl (pc0 := 56) (pc' := 69) rfl (hb hby at_56) rfl (feq hc56).2 (by decide) (by decide) ?_
      show Steps p.tables e below (T.setTop (mkF m 69 #[.val (.long p1), .second, .val (.int p2), .val (.int p3), .val (.int p4), .val (.int p5), .val (.long (1420070400 : Int64)), .second, .val (.long (-31557014167219200 : Int64)), .second, .val (.long (31556889864403199 : Int64)), .second, .val (.long hi), .second, .val (.long lo), .second, .val (.long o5), .second, .val (.int k5), .unset, .unset, .unset, .unset, .unset] [])) _
      refine XS.iload X.here hx rfl (hb hby at_69) rfl ?_
      show Steps p.tables e below (T.setTop (mkF m 71 #[.val (.long p1), .second, .val (.int p2), .val (.int p3), .val (.int p4), .val (.int p5), .val (.long (1420070400 : Int64)), .second, .val (.long (-31557014167219200 : Int64)), .second, .val (.long (31556889864403199 : Int64)), .second, .val (.long hi), .second, .val (.long lo), .second, .val (.long o5), .second, .val (.int k5), .unset, .unset, .unset, .unset, .unset] [(.int k5)])) _
      refine XS.iconst X.here hx rfl (hb hby at_71) ?_
      show Steps p.tables e below (T.setTop (mkF m 72 #[.val (.long p1), .second, .val (.int p2), .val (.int p3), .val (.int p4), .val (.int p5), .val (.long (1420070400 : Int64)), .second, .val (.long (-31557014167219200 : Int64)), .second, .val (.long (31556889864403199 : Int64)), .second, .val (.long hi), .second, .val (.long lo), .second, .val (.long o5), .second, .val (.int k5), .unset, .unset, .unset, .unset, .unset] [(.int (2 : Int32)), (.int k5)])) _
      by_cases hc72 : k5 = (2 : Int32)
      · rw [if_pos hc72] at hv
        refine XS.icmpNo X.here hx rfl (hb hby at_72) rfl (teq hc72).2 ?_
        show Steps p.tables e below (T.setTop (mkF m 75 #[.val (.long p1), .second, .val (.int p2), .val (.int p3), .val (.int p4), .val (.int p5), .val (.long (1420070400 : Int64)), .second, .val (.long (-31557014167219200 : Int64)), .second, .val (.long (31556889864403199 : Int64)), .second, .val (.long hi), .second, .val (.long lo), .second, .val (.long o5), .second, .val (.int k5), .unset, .unset, .unset, .unset, .unset] [])) _
        refine XS.lload X.here hx rfl (hb hby at_75) rfl ?_
        show Steps p.tables e below (T.setTop (mkF m 77 #[.val (.long p1), .second, .val (.int p2), .val (.int p3), .val (.int p4), .val (.int p5), .val (.long (1420070400 : Int64)), .second, .val (.long (-31557014167219200 : Int64)), .second, .val (.long (31556889864403199 : Int64)), .second, .val (.long hi), .second, .val (.long lo), .second, .val (.long o5), .second, .val (.int k5), .unset, .unset, .unset, .unset, .unset] [(.long lo)])) _
        refine XS.lload X.here hx rfl (hb hby at_77) rfl ?_
        show Steps p.tables e below (T.setTop (mkF m 79 #[.val (.long p1), .second, .val (.int p2), .val (.int p3), .val (.int p4), .val (.int p5), .val (.long (1420070400 : Int64)), .second, .val (.long (-31557014167219200 : Int64)), .second, .val (.long (31556889864403199 : Int64)), .second, .val (.long hi), .second, .val (.long lo), .second, .val (.long o5), .second, .val (.int k5), .unset, .unset, .unset, .unset, .unset] [(.long o5), (.long lo)])) _
        refine XS.ladd X.here hx rfl (hb hby at_79) rfl ?_
        show Steps p.tables e below (T.setTop (mkF m 80 #[.val (.long p1), .second, .val (.int p2), .val (.int p3), .val (.int p4), .val (.int p5), .val (.long (1420070400 : Int64)), .second, .val (.long (-31557014167219200 : Int64)), .second, .val (.long (31556889864403199 : Int64)), .second, .val (.long hi), .second, .val (.long lo), .second, .val (.long o5), .second, .val (.int k5), .unset, .unset, .unset, .unset, .unset] [(.long (lo + o5))])) _
        refine XS.lstore X.here hx rfl (hb hby at_80) rfl (l' := #[.val (.long p1), .second, .val (.int p2), .val (.int p3), .val (.int p4), .val (.int p5), .val (.long (1420070400 : Int64)), .second, .val (.long (-31557014167219200 : Int64)), .second, .val (.long (31556889864403199 : Int64)), .second, .val (.long hi), .second, .val (.long lo), .second, .val (.long o5), .second, .val (.int k5), .val (.long (lo + o5)), .second, .unset, .unset, .unset]) rfl ?_
        show Steps p.tables e below (T.setTop (mkF m 82 #[.val (.long p1), .second, .val (.int p2), .val (.int p3), .val (.int p4), .val (.int p5), .val (.long (1420070400 : Int64)), .second, .val (.long (-31557014167219200 : Int64)), .second, .val (.long (31556889864403199 : Int64)), .second, .val (.long hi), .second, .val (.long lo), .second, .val (.long o5), .second, .val (.int k5), .val (.long (lo + o5)), .second, .unset, .unset, .unset] [])) _
        refine XS.goto X.here hx rfl (pc0 := 82) (pc' := 93) rfl (hb hby at_82) (by decide) (by decide) ?_
        show Steps p.tables e below (T.setTop (mkF m 93 #[.val (.long p1), .second, .val (.int p2), .val (.int p3), .val (.int p4), .val (.int p5), .val (.long (1420070400 : Int64)), .second, .val (.long (-31557014167219200 : Int64)), .second, .val (.long (31556889864403199 : Int64)), .second, .val (.long hi), .second, .val (.long lo), .second, .val (.long o5), .second, .val (.int k5), .val (.long (lo + o5)), .second, .unset, .unset, .unset] [])) _
        subst hv
        exact hk
      · rw [if_neg hc72] at hv
        refine XS.icmpYes X.here hx rfl (pc0 := 72) (pc' := 85) rfl (hb hby at_72) rfl (feq hc72).2 (by decide) (by decide) ?_
        show Steps p.tables e below (T.setTop (mkF m 85 #[.val (.long p1), .second, .val (.int p2), .val (.int p3), .val (.int p4), .val (.int p5), .val (.long (1420070400 : Int64)), .second, .val (.long (-31557014167219200 : Int64)), .second, .val (.long (31556889864403199 : Int64)), .second, .val (.long hi), .second, .val (.long lo), .second, .val (.long o5), .second, .val (.int k5), .unset, .unset, .unset, .unset, .unset] [])) _
        refine XS.lload X.here hx rfl (hb hby at_85) rfl ?_
        show Steps p.tables e below (T.setTop (mkF m 87 #[.val (.long p1), .second, .val (.int p2), .val (.int p3), .val (.int p4), .val (.int p5), .val (.long (1420070400 : Int64)), .second, .val (.long (-31557014167219200 : Int64)), .second, .val (.long (31556889864403199 : Int64)), .second, .val (.long hi), .second, .val (.long lo), .second, .val (.long o5), .second, .val (.int k5), .unset, .unset, .unset, .unset, .unset] [(.long (1420070400 : Int64))])) _
        refine XS.lneg X.here hx rfl (hb hby at_87) rfl ?_
        show Steps p.tables e below (T.setTop (mkF m 88 #[.val (.long p1), .second, .val (.int p2), .val (.int p3), .val (.int p4), .val (.int p5), .val (.long (1420070400 : Int64)), .second, .val (.long (-31557014167219200 : Int64)), .second, .val (.long (31556889864403199 : Int64)), .second, .val (.long hi), .second, .val (.long lo), .second, .val (.long o5), .second, .val (.int k5), .unset, .unset, .unset, .unset, .unset] [(.long (-(1420070400 : Int64)))])) _
        refine XS.lload X.here hx rfl (hb hby at_88) rfl ?_
        show Steps p.tables e below (T.setTop (mkF m 90 #[.val (.long p1), .second, .val (.int p2), .val (.int p3), .val (.int p4), .val (.int p5), .val (.long (1420070400 : Int64)), .second, .val (.long (-31557014167219200 : Int64)), .second, .val (.long (31556889864403199 : Int64)), .second, .val (.long hi), .second, .val (.long lo), .second, .val (.long o5), .second, .val (.int k5), .unset, .unset, .unset, .unset, .unset] [(.long o5), (.long (-(1420070400 : Int64)))])) _
        refine XS.ladd X.here hx rfl (hb hby at_90) rfl ?_
        show Steps p.tables e below (T.setTop (mkF m 91 #[.val (.long p1), .second, .val (.int p2), .val (.int p3), .val (.int p4), .val (.int p5), .val (.long (1420070400 : Int64)), .second, .val (.long (-31557014167219200 : Int64)), .second, .val (.long (31556889864403199 : Int64)), .second, .val (.long hi), .second, .val (.long lo), .second, .val (.long o5), .second, .val (.int k5), .unset, .unset, .unset, .unset, .unset] [(.long ((-(1420070400 : Int64)) + o5))])) _
        refine XS.lstore X.here hx rfl (hb hby at_91) rfl (l' := #[.val (.long p1), .second, .val (.int p2), .val (.int p3), .val (.int p4), .val (.int p5), .val (.long (1420070400 : Int64)), .second, .val (.long (-31557014167219200 : Int64)), .second, .val (.long (31556889864403199 : Int64)), .second, .val (.long hi), .second, .val (.long lo), .second, .val (.long o5), .second, .val (.int k5), .val (.long ((-(1420070400 : Int64)) + o5)), .second, .unset, .unset, .unset]) rfl ?_
        show Steps p.tables e below (T.setTop (mkF m 93 #[.val (.long p1), .second, .val (.int p2), .val (.int p3), .val (.int p4), .val (.int p5), .val (.long (1420070400 : Int64)), .second, .val (.long (-31557014167219200 : Int64)), .second, .val (.long (31556889864403199 : Int64)), .second, .val (.long hi), .second, .val (.long lo), .second, .val (.long o5), .second, .val (.int k5), .val (.long ((-(1420070400 : Int64)) + o5)), .second, .unset, .unset, .unset] [])) _
        subst hv
        exact hk
def own_nano (p1 : Int64) (p2 : Int32) (p3 : Int32) (p4 : Int32) (p5 : Int32) (hi : Int64) (lo : Int64) (o5 : Int64) (k5 : Int32) (dt : Int64) : Int32 := (if ((p3 >>> ((2 : Int32) &&& 31)) &&& (1 : Int32)) = (0 : Int32) then p2 else ((999998 : Int32) + (p5 &&& (3 : Int32))))
set_option maxRecDepth 65536 in
set_option maxHeartbeats 4000000 in
theorem own_nano_s {p : Program} {l : Launch} {e : Env} {R : Room} {s : State} {m : MethodId} {args : Array Value} {below : List Frame} {meth : Method} {c : Code} {T : State} {locs : List Loc} {cells slots : Nat} {Z : State} {a0 : Array Value} (X : Stand p l e R s m args below meth c T locs cells slots) (hx : p.tables.exec = Jvm.exec) (hby : c.code = code) (hown : s.vm.findClass "com/example/bitrun/bitrun/orc/timestamp/TimestampLayoutSecondPinLaw" = some m.cls) (hZ : Z.Warmed39 s.vm) (hw : ∀ d ∈ tables_1, d.before a0 Z = true) (p1 : Int64) (p2 : Int32) (p3 : Int32) (p4 : Int32) (p5 : Int32) (hi : Int64) (lo : Int64) (o5 : Int64) (k5 : Int32) (dt : Int64) (v : Int32) (hv : own_nano p1 p2 p3 p4 p5 hi lo o5 k5 dt = v) {target : State} (hk : Steps p.tables e below (T.setTop (mkF m 112 #[.val (.long p1), .second, .val (.int p2), .val (.int p3), .val (.int p4), .val (.int p5), .val (.long (1420070400 : Int64)), .second, .val (.long (-31557014167219200 : Int64)), .second, .val (.long (31556889864403199 : Int64)), .second, .val (.long hi), .second, .val (.long lo), .second, .val (.long o5), .second, .val (.int k5), .val (.long dt), .second, .unset, .unset, .unset] [(.int v)])) target) :
    Steps p.tables e below (T.setTop (mkF m 93 #[.val (.long p1), .second, .val (.int p2), .val (.int p3), .val (.int p4), .val (.int p5), .val (.long (1420070400 : Int64)), .second, .val (.long (-31557014167219200 : Int64)), .second, .val (.long (31556889864403199 : Int64)), .second, .val (.long hi), .second, .val (.long lo), .second, .val (.long o5), .second, .val (.int k5), .val (.long dt), .second, .unset, .unset, .unset] [])) target := by
  unfold own_nano at hv
  show Steps p.tables e below (T.setTop (mkF m 93 #[.val (.long p1), .second, .val (.int p2), .val (.int p3), .val (.int p4), .val (.int p5), .val (.long (1420070400 : Int64)), .second, .val (.long (-31557014167219200 : Int64)), .second, .val (.long (31556889864403199 : Int64)), .second, .val (.long hi), .second, .val (.long lo), .second, .val (.long o5), .second, .val (.int k5), .val (.long dt), .second, .unset, .unset, .unset] [])) _
  refine XS.iloadN X.here hx rfl (hb hby at_93) rfl ?_
  show Steps p.tables e below (T.setTop (mkF m 94 #[.val (.long p1), .second, .val (.int p2), .val (.int p3), .val (.int p4), .val (.int p5), .val (.long (1420070400 : Int64)), .second, .val (.long (-31557014167219200 : Int64)), .second, .val (.long (31556889864403199 : Int64)), .second, .val (.long hi), .second, .val (.long lo), .second, .val (.long o5), .second, .val (.int k5), .val (.long dt), .second, .unset, .unset, .unset] [(.int p3)])) _
  refine XS.iconst X.here hx rfl (hb hby at_94) ?_
  show Steps p.tables e below (T.setTop (mkF m 95 #[.val (.long p1), .second, .val (.int p2), .val (.int p3), .val (.int p4), .val (.int p5), .val (.long (1420070400 : Int64)), .second, .val (.long (-31557014167219200 : Int64)), .second, .val (.long (31556889864403199 : Int64)), .second, .val (.long hi), .second, .val (.long lo), .second, .val (.long o5), .second, .val (.int k5), .val (.long dt), .second, .unset, .unset, .unset] [(.int (2 : Int32)), (.int p3)])) _
  refine XS.ishr X.here hx rfl (hb hby at_95) rfl ?_
  show Steps p.tables e below (T.setTop (mkF m 96 #[.val (.long p1), .second, .val (.int p2), .val (.int p3), .val (.int p4), .val (.int p5), .val (.long (1420070400 : Int64)), .second, .val (.long (-31557014167219200 : Int64)), .second, .val (.long (31556889864403199 : Int64)), .second, .val (.long hi), .second, .val (.long lo), .second, .val (.long o5), .second, .val (.int k5), .val (.long dt), .second, .unset, .unset, .unset] [(.int (p3 >>> ((2 : Int32) &&& 31)))])) _
  refine XS.iconst X.here hx rfl (hb hby at_96) ?_
  show Steps p.tables e below (T.setTop (mkF m 97 #[.val (.long p1), .second, .val (.int p2), .val (.int p3), .val (.int p4), .val (.int p5), .val (.long (1420070400 : Int64)), .second, .val (.long (-31557014167219200 : Int64)), .second, .val (.long (31556889864403199 : Int64)), .second, .val (.long hi), .second, .val (.long lo), .second, .val (.long o5), .second, .val (.int k5), .val (.long dt), .second, .unset, .unset, .unset] [(.int (1 : Int32)), (.int (p3 >>> ((2 : Int32) &&& 31)))])) _
  refine XS.iand X.here hx rfl (hb hby at_97) rfl ?_
  show Steps p.tables e below (T.setTop (mkF m 98 #[.val (.long p1), .second, .val (.int p2), .val (.int p3), .val (.int p4), .val (.int p5), .val (.long (1420070400 : Int64)), .second, .val (.long (-31557014167219200 : Int64)), .second, .val (.long (31556889864403199 : Int64)), .second, .val (.long hi), .second, .val (.long lo), .second, .val (.long o5), .second, .val (.int k5), .val (.long dt), .second, .unset, .unset, .unset] [(.int ((p3 >>> ((2 : Int32) &&& 31)) &&& (1 : Int32)))])) _
  by_cases hc98 : ((p3 >>> ((2 : Int32) &&& 31)) &&& (1 : Int32)) = (0 : Int32)
  · rw [if_pos hc98] at hv
    refine XS.ifNo X.here hx rfl (hb hby at_98) rfl ((if0 _ _).trans (teq hc98).2) ?_
    show Steps p.tables e below (T.setTop (mkF m 101 #[.val (.long p1), .second, .val (.int p2), .val (.int p3), .val (.int p4), .val (.int p5), .val (.long (1420070400 : Int64)), .second, .val (.long (-31557014167219200 : Int64)), .second, .val (.long (31556889864403199 : Int64)), .second, .val (.long hi), .second, .val (.long lo), .second, .val (.long o5), .second, .val (.int k5), .val (.long dt), .second, .unset, .unset, .unset] [])) _
    refine XS.iloadN X.here hx rfl (hb hby at_101) rfl ?_
    show Steps p.tables e below (T.setTop (mkF m 102 #[.val (.long p1), .second, .val (.int p2), .val (.int p3), .val (.int p4), .val (.int p5), .val (.long (1420070400 : Int64)), .second, .val (.long (-31557014167219200 : Int64)), .second, .val (.long (31556889864403199 : Int64)), .second, .val (.long hi), .second, .val (.long lo), .second, .val (.long o5), .second, .val (.int k5), .val (.long dt), .second, .unset, .unset, .unset] [(.int p2)])) _
    refine XS.goto X.here hx rfl (pc0 := 102) (pc' := 112) rfl (hb hby at_102) (by decide) (by decide) ?_
    show Steps p.tables e below (T.setTop (mkF m 112 #[.val (.long p1), .second, .val (.int p2), .val (.int p3), .val (.int p4), .val (.int p5), .val (.long (1420070400 : Int64)), .second, .val (.long (-31557014167219200 : Int64)), .second, .val (.long (31556889864403199 : Int64)), .second, .val (.long hi), .second, .val (.long lo), .second, .val (.long o5), .second, .val (.int k5), .val (.long dt), .second, .unset, .unset, .unset] [(.int p2)])) _
    subst hv
    exact hk
  · rw [if_neg hc98] at hv
    refine XS.ifYes X.here hx rfl (pc0 := 98) (pc' := 105) rfl (hb hby at_98) rfl ((if0 _ _).trans (feq hc98).2) (by decide) (by decide) ?_
    show Steps p.tables e below (T.setTop (mkF m 105 #[.val (.long p1), .second, .val (.int p2), .val (.int p3), .val (.int p4), .val (.int p5), .val (.long (1420070400 : Int64)), .second, .val (.long (-31557014167219200 : Int64)), .second, .val (.long (31556889864403199 : Int64)), .second, .val (.long hi), .second, .val (.long lo), .second, .val (.long o5), .second, .val (.int k5), .val (.long dt), .second, .unset, .unset, .unset] [])) _
    refine X.ldcInt hx hown (mvT hZ (hw _ (List.mem_of_getElem? (i := 13) rfl))) (g := (mkF m 105 #[.val (.long p1), .second, .val (.int p2), .val (.int p3), .val (.int p4), .val (.int p5), .val (.long (1420070400 : Int64)), .second, .val (.long (-31557014167219200 : Int64)), .second, .val (.long (31556889864403199 : Int64)), .second, .val (.long hi), .second, .val (.long lo), .second, .val (.long o5), .second, .val (.int k5), .val (.long dt), .second, .unset, .unset, .unset] [])) rfl (hb hby at_105) _ ?_
    show Steps p.tables e below (T.setTop (mkF m 107 #[.val (.long p1), .second, .val (.int p2), .val (.int p3), .val (.int p4), .val (.int p5), .val (.long (1420070400 : Int64)), .second, .val (.long (-31557014167219200 : Int64)), .second, .val (.long (31556889864403199 : Int64)), .second, .val (.long hi), .second, .val (.long lo), .second, .val (.long o5), .second, .val (.int k5), .val (.long dt), .second, .unset, .unset, .unset] [(.int (999998 : Int32))])) _
    refine XS.iload X.here hx rfl (hb hby at_107) rfl ?_
    show Steps p.tables e below (T.setTop (mkF m 109 #[.val (.long p1), .second, .val (.int p2), .val (.int p3), .val (.int p4), .val (.int p5), .val (.long (1420070400 : Int64)), .second, .val (.long (-31557014167219200 : Int64)), .second, .val (.long (31556889864403199 : Int64)), .second, .val (.long hi), .second, .val (.long lo), .second, .val (.long o5), .second, .val (.int k5), .val (.long dt), .second, .unset, .unset, .unset] [(.int p5), (.int (999998 : Int32))])) _
    refine XS.iconst X.here hx rfl (hb hby at_109) ?_
    show Steps p.tables e below (T.setTop (mkF m 110 #[.val (.long p1), .second, .val (.int p2), .val (.int p3), .val (.int p4), .val (.int p5), .val (.long (1420070400 : Int64)), .second, .val (.long (-31557014167219200 : Int64)), .second, .val (.long (31556889864403199 : Int64)), .second, .val (.long hi), .second, .val (.long lo), .second, .val (.long o5), .second, .val (.int k5), .val (.long dt), .second, .unset, .unset, .unset] [(.int (3 : Int32)), (.int p5), (.int (999998 : Int32))])) _
    refine XS.iand X.here hx rfl (hb hby at_110) rfl ?_
    show Steps p.tables e below (T.setTop (mkF m 111 #[.val (.long p1), .second, .val (.int p2), .val (.int p3), .val (.int p4), .val (.int p5), .val (.long (1420070400 : Int64)), .second, .val (.long (-31557014167219200 : Int64)), .second, .val (.long (31556889864403199 : Int64)), .second, .val (.long hi), .second, .val (.long lo), .second, .val (.long o5), .second, .val (.int k5), .val (.long dt), .second, .unset, .unset, .unset] [(.int (p5 &&& (3 : Int32))), (.int (999998 : Int32))])) _
    refine XS.iadd X.here hx rfl (hb hby at_111) rfl ?_
    show Steps p.tables e below (T.setTop (mkF m 112 #[.val (.long p1), .second, .val (.int p2), .val (.int p3), .val (.int p4), .val (.int p5), .val (.long (1420070400 : Int64)), .second, .val (.long (-31557014167219200 : Int64)), .second, .val (.long (31556889864403199 : Int64)), .second, .val (.long hi), .second, .val (.long lo), .second, .val (.long o5), .second, .val (.int k5), .val (.long dt), .second, .unset, .unset, .unset] [(.int ((999998 : Int32) + (p5 &&& (3 : Int32))))])) _
    subst hv
    exact hk
def own_expd (p1 : Int64) (p2 : Int32) (p3 : Int32) (p4 : Int32) (p5 : Int32) (hi : Int64) (lo : Int64) (o5 : Int64) (k5 : Int32) (dt : Int64) (na : Int32) : Int64 := (if hi < dt then (-9223372036854775808 : Int64) else (if dt < (-(1420070400 : Int64)) then (if na < (1000000 : Int32) then (if dt < lo then (-9223372036854775808 : Int64) else (dt + (1420070400 : Int64))) else (if lo < dt then ((dt + (1420070400 : Int64)) - (1 : Int64)) else (-9223372036854775808 : Int64))) else (if dt < lo then (-9223372036854775808 : Int64) else (dt + (1420070400 : Int64)))))
set_option maxRecDepth 65536 in
set_option maxHeartbeats 4000000 in
theorem own_expd_s {p : Program} {l : Launch} {e : Env} {R : Room} {s : State} {m : MethodId} {args : Array Value} {below : List Frame} {meth : Method} {c : Code} {T : State} {locs : List Loc} {cells slots : Nat} {Z : State} {a0 : Array Value} (X : Stand p l e R s m args below meth c T locs cells slots) (hx : p.tables.exec = Jvm.exec) (hby : c.code = code) (hown : s.vm.findClass "com/example/bitrun/bitrun/orc/timestamp/TimestampLayoutSecondPinLaw" = some m.cls) (hZ : Z.Warmed39 s.vm) (hw : ∀ d ∈ tables_1, d.before a0 Z = true) (p1 : Int64) (p2 : Int32) (p3 : Int32) (p4 : Int32) (p5 : Int32) (hi : Int64) (lo : Int64) (o5 : Int64) (k5 : Int32) (dt : Int64) (na : Int32) (v : Int64) (hv : own_expd p1 p2 p3 p4 p5 hi lo o5 k5 dt na = v) {target : State} (hk : Steps p.tables e below (T.setTop (mkF m 193 #[.val (.long p1), .second, .val (.int p2), .val (.int p3), .val (.int p4), .val (.int p5), .val (.long (1420070400 : Int64)), .second, .val (.long (-31557014167219200 : Int64)), .second, .val (.long (31556889864403199 : Int64)), .second, .val (.long hi), .second, .val (.long lo), .second, .val (.long o5), .second, .val (.int k5), .val (.long dt), .second, .val (.int na), .val (.long v), .second] [])) target) :
    Steps p.tables e below (T.setTop (mkF m 114 #[.val (.long p1), .second, .val (.int p2), .val (.int p3), .val (.int p4), .val (.int p5), .val (.long (1420070400 : Int64)), .second, .val (.long (-31557014167219200 : Int64)), .second, .val (.long (31556889864403199 : Int64)), .second, .val (.long hi), .second, .val (.long lo), .second, .val (.long o5), .second, .val (.int k5), .val (.long dt), .second, .val (.int na), .unset, .unset] [])) target := by
  unfold own_expd at hv
  show Steps p.tables e below (T.setTop (mkF m 114 #[.val (.long p1), .second, .val (.int p2), .val (.int p3), .val (.int p4), .val (.int p5), .val (.long (1420070400 : Int64)), .second, .val (.long (-31557014167219200 : Int64)), .second, .val (.long (31556889864403199 : Int64)), .second, .val (.long hi), .second, .val (.long lo), .second, .val (.long o5), .second, .val (.int k5), .val (.long dt), .second, .val (.int na), .unset, .unset] [])) _
  refine XS.lload X.here hx rfl (hb hby at_114) rfl ?_
  show Steps p.tables e below (T.setTop (mkF m 116 #[.val (.long p1), .second, .val (.int p2), .val (.int p3), .val (.int p4), .val (.int p5), .val (.long (1420070400 : Int64)), .second, .val (.long (-31557014167219200 : Int64)), .second, .val (.long (31556889864403199 : Int64)), .second, .val (.long hi), .second, .val (.long lo), .second, .val (.long o5), .second, .val (.int k5), .val (.long dt), .second, .val (.int na), .unset, .unset] [(.long dt)])) _
  refine XS.lload X.here hx rfl (hb hby at_116) rfl ?_
  show Steps p.tables e below (T.setTop (mkF m 118 #[.val (.long p1), .second, .val (.int p2), .val (.int p3), .val (.int p4), .val (.int p5), .val (.long (1420070400 : Int64)), .second, .val (.long (-31557014167219200 : Int64)), .second, .val (.long (31556889864403199 : Int64)), .second, .val (.long hi), .second, .val (.long lo), .second, .val (.long o5), .second, .val (.int k5), .val (.long dt), .second, .val (.int na), .unset, .unset] [(.long hi), (.long dt)])) _
  refine XS.lcmp X.here hx rfl (hb hby at_118) rfl ?_
  show Steps p.tables e below (T.setTop (mkF m 119 #[.val (.long p1), .second, .val (.int p2), .val (.int p3), .val (.int p4), .val (.int p5), .val (.long (1420070400 : Int64)), .second, .val (.long (-31557014167219200 : Int64)), .second, .val (.long (31556889864403199 : Int64)), .second, .val (.long hi), .second, .val (.long lo), .second, .val (.long o5), .second, .val (.int k5), .val (.long dt), .second, .val (.int na), .unset, .unset] [(.int (lcmpW dt hi))])) _
  by_cases hc119 : hi < dt
  · rw [if_pos hc119] at hv
    refine XS.ifNo X.here hx rfl (hb hby at_119) rfl ((if0 _ _).trans (tlt ((lw_gt _ _).mpr hc119)).2.2.2) ?_
    show Steps p.tables e below (T.setTop (mkF m 122 #[.val (.long p1), .second, .val (.int p2), .val (.int p3), .val (.int p4), .val (.int p5), .val (.long (1420070400 : Int64)), .second, .val (.long (-31557014167219200 : Int64)), .second, .val (.long (31556889864403199 : Int64)), .second, .val (.long hi), .second, .val (.long lo), .second, .val (.long o5), .second, .val (.int k5), .val (.long dt), .second, .val (.int na), .unset, .unset] [])) _
    refine X.ldc2Long hx hown (mvT hZ (hw _ (List.mem_of_getElem? (i := 16) rfl))) (g := (mkF m 122 #[.val (.long p1), .second, .val (.int p2), .val (.int p3), .val (.int p4), .val (.int p5), .val (.long (1420070400 : Int64)), .second, .val (.long (-31557014167219200 : Int64)), .second, .val (.long (31556889864403199 : Int64)), .second, .val (.long hi), .second, .val (.long lo), .second, .val (.long o5), .second, .val (.int k5), .val (.long dt), .second, .val (.int na), .unset, .unset] [])) rfl (hb hby at_122) _ ?_
    show Steps p.tables e below (T.setTop (mkF m 125 #[.val (.long p1), .second, .val (.int p2), .val (.int p3), .val (.int p4), .val (.int p5), .val (.long (1420070400 : Int64)), .second, .val (.long (-31557014167219200 : Int64)), .second, .val (.long (31556889864403199 : Int64)), .second, .val (.long hi), .second, .val (.long lo), .second, .val (.long o5), .second, .val (.int k5), .val (.long dt), .second, .val (.int na), .unset, .unset] [(.long (-9223372036854775808 : Int64))])) _
    refine XS.lstore X.here hx rfl (hb hby at_125) rfl (l' := #[.val (.long p1), .second, .val (.int p2), .val (.int p3), .val (.int p4), .val (.int p5), .val (.long (1420070400 : Int64)), .second, .val (.long (-31557014167219200 : Int64)), .second, .val (.long (31556889864403199 : Int64)), .second, .val (.long hi), .second, .val (.long lo), .second, .val (.long o5), .second, .val (.int k5), .val (.long dt), .second, .val (.int na), .val (.long (-9223372036854775808 : Int64)), .second]) rfl ?_
    show Steps p.tables e below (T.setTop (mkF m 127 #[.val (.long p1), .second, .val (.int p2), .val (.int p3), .val (.int p4), .val (.int p5), .val (.long (1420070400 : Int64)), .second, .val (.long (-31557014167219200 : Int64)), .second, .val (.long (31556889864403199 : Int64)), .second, .val (.long hi), .second, .val (.long lo), .second, .val (.long o5), .second, .val (.int k5), .val (.long dt), .second, .val (.int na), .val (.long (-9223372036854775808 : Int64)), .second] [])) _
    refine XS.goto X.here hx rfl (pc0 := 127) (pc' := 193) rfl (hb hby at_127) (by decide) (by decide) ?_
    show Steps p.tables e below (T.setTop (mkF m 193 #[.val (.long p1), .second, .val (.int p2), .val (.int p3), .val (.int p4), .val (.int p5), .val (.long (1420070400 : Int64)), .second, .val (.long (-31557014167219200 : Int64)), .second, .val (.long (31556889864403199 : Int64)), .second, .val (.long hi), .second, .val (.long lo), .second, .val (.long o5), .second, .val (.int k5), .val (.long dt), .second, .val (.int na), .val (.long (-9223372036854775808 : Int64)), .second] [])) _
    subst hv
    exact hk
  · rw [if_neg hc119] at hv
    refine XS.ifYes X.here hx rfl (pc0 := 119) (pc' := 130) rfl (hb hby at_119) rfl ((if0 _ _).trans (flt (fun q => hc119 ((lw_gt _ _).mp q))).2.2.2) (by decide) (by decide) ?_
    show Steps p.tables e below (T.setTop (mkF m 130 #[.val (.long p1), .second, .val (.int p2), .val (.int p3), .val (.int p4), .val (.int p5), .val (.long (1420070400 : Int64)), .second, .val (.long (-31557014167219200 : Int64)), .second, .val (.long (31556889864403199 : Int64)), .second, .val (.long hi), .second, .val (.long lo), .second, .val (.long o5), .second, .val (.int k5), .val (.long dt), .second, .val (.int na), .unset, .unset] [])) _
    refine XS.lload X.here hx rfl (hb hby at_130) rfl ?_
    show Steps p.tables e below (T.setTop (mkF m 132 #[.val (.long p1), .second, .val (.int p2), .val (.int p3), .val (.int p4), .val (.int p5), .val (.long (1420070400 : Int64)), .second, .val (.long (-31557014167219200 : Int64)), .second, .val (.long (31556889864403199 : Int64)), .second, .val (.long hi), .second, .val (.long lo), .second, .val (.long o5), .second, .val (.int k5), .val (.long dt), .second, .val (.int na), .unset, .unset] [(.long dt)])) _
    refine XS.lload X.here hx rfl (hb hby at_132) rfl ?_
    show Steps p.tables e below (T.setTop (mkF m 134 #[.val (.long p1), .second, .val (.int p2), .val (.int p3), .val (.int p4), .val (.int p5), .val (.long (1420070400 : Int64)), .second, .val (.long (-31557014167219200 : Int64)), .second, .val (.long (31556889864403199 : Int64)), .second, .val (.long hi), .second, .val (.long lo), .second, .val (.long o5), .second, .val (.int k5), .val (.long dt), .second, .val (.int na), .unset, .unset] [(.long (1420070400 : Int64)), (.long dt)])) _
    refine XS.lneg X.here hx rfl (hb hby at_134) rfl ?_
    show Steps p.tables e below (T.setTop (mkF m 135 #[.val (.long p1), .second, .val (.int p2), .val (.int p3), .val (.int p4), .val (.int p5), .val (.long (1420070400 : Int64)), .second, .val (.long (-31557014167219200 : Int64)), .second, .val (.long (31556889864403199 : Int64)), .second, .val (.long hi), .second, .val (.long lo), .second, .val (.long o5), .second, .val (.int k5), .val (.long dt), .second, .val (.int na), .unset, .unset] [(.long (-(1420070400 : Int64))), (.long dt)])) _
    refine XS.lcmp X.here hx rfl (hb hby at_135) rfl ?_
    show Steps p.tables e below (T.setTop (mkF m 136 #[.val (.long p1), .second, .val (.int p2), .val (.int p3), .val (.int p4), .val (.int p5), .val (.long (1420070400 : Int64)), .second, .val (.long (-31557014167219200 : Int64)), .second, .val (.long (31556889864403199 : Int64)), .second, .val (.long hi), .second, .val (.long lo), .second, .val (.long o5), .second, .val (.int k5), .val (.long dt), .second, .val (.int na), .unset, .unset] [(.int (lcmpW dt (-(1420070400 : Int64))))])) _
    by_cases hc136 : dt < (-(1420070400 : Int64))
    · rw [if_pos hc136] at hv
      refine XS.ifNo X.here hx rfl (hb hby at_136) rfl ((if0 _ _).trans (tlt ((lw_lt _ _).mpr hc136)).2.1) ?_
      show Steps p.tables e below (T.setTop (mkF m 139 #[.val (.long p1), .second, .val (.int p2), .val (.int p3), .val (.int p4), .val (.int p5), .val (.long (1420070400 : Int64)), .second, .val (.long (-31557014167219200 : Int64)), .second, .val (.long (31556889864403199 : Int64)), .second, .val (.long hi), .second, .val (.long lo), .second, .val (.long o5), .second, .val (.int k5), .val (.long dt), .second, .val (.int na), .unset, .unset] [])) _
      refine XS.iload X.here hx rfl (hb hby at_139) rfl ?_
      show Steps p.tables e below (T.setTop (mkF m 141 #[.val (.long p1), .second, .val (.int p2), .val (.int p3), .val (.int p4), .val (.int p5), .val (.long (1420070400 : Int64)), .second, .val (.long (-31557014167219200 : Int64)), .second, .val (.long (31556889864403199 : Int64)), .second, .val (.long hi), .second, .val (.long lo), .second, .val (.long o5), .second, .val (.int k5), .val (.long dt), .second, .val (.int na), .unset, .unset] [(.int na)])) _
      refine X.ldcInt hx hown (mvT hZ (hw _ (List.mem_of_getElem? (i := 14) rfl))) (g := (mkF m 141 #[.val (.long p1), .second, .val (.int p2), .val (.int p3), .val (.int p4), .val (.int p5), .val (.long (1420070400 : Int64)), .second, .val (.long (-31557014167219200 : Int64)), .second, .val (.long (31556889864403199 : Int64)), .second, .val (.long hi), .second, .val (.long lo), .second, .val (.long o5), .second, .val (.int k5), .val (.long dt), .second, .val (.int na), .unset, .unset] [(.int na)])) rfl (hb hby at_141) _ ?_
      show Steps p.tables e below (T.setTop (mkF m 143 #[.val (.long p1), .second, .val (.int p2), .val (.int p3), .val (.int p4), .val (.int p5), .val (.long (1420070400 : Int64)), .second, .val (.long (-31557014167219200 : Int64)), .second, .val (.long (31556889864403199 : Int64)), .second, .val (.long hi), .second, .val (.long lo), .second, .val (.long o5), .second, .val (.int k5), .val (.long dt), .second, .val (.int na), .unset, .unset] [(.int (1000000 : Int32)), (.int na)])) _
      by_cases hc143 : na < (1000000 : Int32)
      · rw [if_pos hc143] at hv
        refine XS.icmpYes X.here hx rfl (pc0 := 143) (pc' := 172) rfl (hb hby at_143) rfl (tlt hc143).1 (by decide) (by decide) ?_
        show Steps p.tables e below (T.setTop (mkF m 172 #[.val (.long p1), .second, .val (.int p2), .val (.int p3), .val (.int p4), .val (.int p5), .val (.long (1420070400 : Int64)), .second, .val (.long (-31557014167219200 : Int64)), .second, .val (.long (31556889864403199 : Int64)), .second, .val (.long hi), .second, .val (.long lo), .second, .val (.long o5), .second, .val (.int k5), .val (.long dt), .second, .val (.int na), .unset, .unset] [])) _
        refine XS.lload X.here hx rfl (hb hby at_172) rfl ?_
        show Steps p.tables e below (T.setTop (mkF m 174 #[.val (.long p1), .second, .val (.int p2), .val (.int p3), .val (.int p4), .val (.int p5), .val (.long (1420070400 : Int64)), .second, .val (.long (-31557014167219200 : Int64)), .second, .val (.long (31556889864403199 : Int64)), .second, .val (.long hi), .second, .val (.long lo), .second, .val (.long o5), .second, .val (.int k5), .val (.long dt), .second, .val (.int na), .unset, .unset] [(.long dt)])) _
        refine XS.lload X.here hx rfl (hb hby at_174) rfl ?_
        show Steps p.tables e below (T.setTop (mkF m 176 #[.val (.long p1), .second, .val (.int p2), .val (.int p3), .val (.int p4), .val (.int p5), .val (.long (1420070400 : Int64)), .second, .val (.long (-31557014167219200 : Int64)), .second, .val (.long (31556889864403199 : Int64)), .second, .val (.long hi), .second, .val (.long lo), .second, .val (.long o5), .second, .val (.int k5), .val (.long dt), .second, .val (.int na), .unset, .unset] [(.long lo), (.long dt)])) _
        refine XS.lcmp X.here hx rfl (hb hby at_176) rfl ?_
        show Steps p.tables e below (T.setTop (mkF m 177 #[.val (.long p1), .second, .val (.int p2), .val (.int p3), .val (.int p4), .val (.int p5), .val (.long (1420070400 : Int64)), .second, .val (.long (-31557014167219200 : Int64)), .second, .val (.long (31556889864403199 : Int64)), .second, .val (.long hi), .second, .val (.long lo), .second, .val (.long o5), .second, .val (.int k5), .val (.long dt), .second, .val (.int na), .unset, .unset] [(.int (lcmpW dt lo))])) _
        by_cases hc177 : dt < lo
        · rw [if_pos hc177] at hv
          refine XS.ifNo X.here hx rfl (hb hby at_177) rfl ((if0 _ _).trans (tlt ((lw_lt _ _).mpr hc177)).2.1) ?_
          show Steps p.tables e below (T.setTop (mkF m 180 #[.val (.long p1), .second, .val (.int p2), .val (.int p3), .val (.int p4), .val (.int p5), .val (.long (1420070400 : Int64)), .second, .val (.long (-31557014167219200 : Int64)), .second, .val (.long (31556889864403199 : Int64)), .second, .val (.long hi), .second, .val (.long lo), .second, .val (.long o5), .second, .val (.int k5), .val (.long dt), .second, .val (.int na), .unset, .unset] [])) _
          refine X.ldc2Long hx hown (mvT hZ (hw _ (List.mem_of_getElem? (i := 16) rfl))) (g := (mkF m 180 #[.val (.long p1), .second, .val (.int p2), .val (.int p3), .val (.int p4), .val (.int p5), .val (.long (1420070400 : Int64)), .second, .val (.long (-31557014167219200 : Int64)), .second, .val (.long (31556889864403199 : Int64)), .second, .val (.long hi), .second, .val (.long lo), .second, .val (.long o5), .second, .val (.int k5), .val (.long dt), .second, .val (.int na), .unset, .unset] [])) rfl (hb hby at_180) _ ?_
          show Steps p.tables e below (T.setTop (mkF m 183 #[.val (.long p1), .second, .val (.int p2), .val (.int p3), .val (.int p4), .val (.int p5), .val (.long (1420070400 : Int64)), .second, .val (.long (-31557014167219200 : Int64)), .second, .val (.long (31556889864403199 : Int64)), .second, .val (.long hi), .second, .val (.long lo), .second, .val (.long o5), .second, .val (.int k5), .val (.long dt), .second, .val (.int na), .unset, .unset] [(.long (-9223372036854775808 : Int64))])) _
          refine XS.goto X.here hx rfl (pc0 := 183) (pc' := 191) rfl (hb hby at_183) (by decide) (by decide) ?_
          show Steps p.tables e below (T.setTop (mkF m 191 #[.val (.long p1), .second, .val (.int p2), .val (.int p3), .val (.int p4), .val (.int p5), .val (.long (1420070400 : Int64)), .second, .val (.long (-31557014167219200 : Int64)), .second, .val (.long (31556889864403199 : Int64)), .second, .val (.long hi), .second, .val (.long lo), .second, .val (.long o5), .second, .val (.int k5), .val (.long dt), .second, .val (.int na), .unset, .unset] [(.long (-9223372036854775808 : Int64))])) _
          refine XS.lstore X.here hx rfl (hb hby at_191) rfl (l' := #[.val (.long p1), .second, .val (.int p2), .val (.int p3), .val (.int p4), .val (.int p5), .val (.long (1420070400 : Int64)), .second, .val (.long (-31557014167219200 : Int64)), .second, .val (.long (31556889864403199 : Int64)), .second, .val (.long hi), .second, .val (.long lo), .second, .val (.long o5), .second, .val (.int k5), .val (.long dt), .second, .val (.int na), .val (.long (-9223372036854775808 : Int64)), .second]) rfl ?_
          show Steps p.tables e below (T.setTop (mkF m 193 #[.val (.long p1), .second, .val (.int p2), .val (.int p3), .val (.int p4), .val (.int p5), .val (.long (1420070400 : Int64)), .second, .val (.long (-31557014167219200 : Int64)), .second, .val (.long (31556889864403199 : Int64)), .second, .val (.long hi), .second, .val (.long lo), .second, .val (.long o5), .second, .val (.int k5), .val (.long dt), .second, .val (.int na), .val (.long (-9223372036854775808 : Int64)), .second] [])) _
          subst hv
          exact hk
        · rw [if_neg hc177] at hv
          refine XS.ifYes X.here hx rfl (pc0 := 177) (pc' := 186) rfl (hb hby at_177) rfl ((if0 _ _).trans (flt (fun q => hc177 ((lw_lt _ _).mp q))).2.1) (by decide) (by decide) ?_
          show Steps p.tables e below (T.setTop (mkF m 186 #[.val (.long p1), .second, .val (.int p2), .val (.int p3), .val (.int p4), .val (.int p5), .val (.long (1420070400 : Int64)), .second, .val (.long (-31557014167219200 : Int64)), .second, .val (.long (31556889864403199 : Int64)), .second, .val (.long hi), .second, .val (.long lo), .second, .val (.long o5), .second, .val (.int k5), .val (.long dt), .second, .val (.int na), .unset, .unset] [])) _
          refine XS.lload X.here hx rfl (hb hby at_186) rfl ?_
          show Steps p.tables e below (T.setTop (mkF m 188 #[.val (.long p1), .second, .val (.int p2), .val (.int p3), .val (.int p4), .val (.int p5), .val (.long (1420070400 : Int64)), .second, .val (.long (-31557014167219200 : Int64)), .second, .val (.long (31556889864403199 : Int64)), .second, .val (.long hi), .second, .val (.long lo), .second, .val (.long o5), .second, .val (.int k5), .val (.long dt), .second, .val (.int na), .unset, .unset] [(.long dt)])) _
          refine XS.lload X.here hx rfl (hb hby at_188) rfl ?_
          show Steps p.tables e below (T.setTop (mkF m 190 #[.val (.long p1), .second, .val (.int p2), .val (.int p3), .val (.int p4), .val (.int p5), .val (.long (1420070400 : Int64)), .second, .val (.long (-31557014167219200 : Int64)), .second, .val (.long (31556889864403199 : Int64)), .second, .val (.long hi), .second, .val (.long lo), .second, .val (.long o5), .second, .val (.int k5), .val (.long dt), .second, .val (.int na), .unset, .unset] [(.long (1420070400 : Int64)), (.long dt)])) _
          refine XS.ladd X.here hx rfl (hb hby at_190) rfl ?_
          show Steps p.tables e below (T.setTop (mkF m 191 #[.val (.long p1), .second, .val (.int p2), .val (.int p3), .val (.int p4), .val (.int p5), .val (.long (1420070400 : Int64)), .second, .val (.long (-31557014167219200 : Int64)), .second, .val (.long (31556889864403199 : Int64)), .second, .val (.long hi), .second, .val (.long lo), .second, .val (.long o5), .second, .val (.int k5), .val (.long dt), .second, .val (.int na), .unset, .unset] [(.long (dt + (1420070400 : Int64)))])) _
          refine XS.lstore X.here hx rfl (hb hby at_191) rfl (l' := #[.val (.long p1), .second, .val (.int p2), .val (.int p3), .val (.int p4), .val (.int p5), .val (.long (1420070400 : Int64)), .second, .val (.long (-31557014167219200 : Int64)), .second, .val (.long (31556889864403199 : Int64)), .second, .val (.long hi), .second, .val (.long lo), .second, .val (.long o5), .second, .val (.int k5), .val (.long dt), .second, .val (.int na), .val (.long (dt + (1420070400 : Int64))), .second]) rfl ?_
          show Steps p.tables e below (T.setTop (mkF m 193 #[.val (.long p1), .second, .val (.int p2), .val (.int p3), .val (.int p4), .val (.int p5), .val (.long (1420070400 : Int64)), .second, .val (.long (-31557014167219200 : Int64)), .second, .val (.long (31556889864403199 : Int64)), .second, .val (.long hi), .second, .val (.long lo), .second, .val (.long o5), .second, .val (.int k5), .val (.long dt), .second, .val (.int na), .val (.long (dt + (1420070400 : Int64))), .second] [])) _
          subst hv
          exact hk
      · rw [if_neg hc143] at hv
        refine XS.icmpNo X.here hx rfl (hb hby at_143) rfl (flt hc143).1 ?_
        show Steps p.tables e below (T.setTop (mkF m 146 #[.val (.long p1), .second, .val (.int p2), .val (.int p3), .val (.int p4), .val (.int p5), .val (.long (1420070400 : Int64)), .second, .val (.long (-31557014167219200 : Int64)), .second, .val (.long (31556889864403199 : Int64)), .second, .val (.long hi), .second, .val (.long lo), .second, .val (.long o5), .second, .val (.int k5), .val (.long dt), .second, .val (.int na), .unset, .unset] [])) _
        refine XS.lload X.here hx rfl (hb hby at_146) rfl ?_
        show Steps p.tables e below (T.setTop (mkF m 148 #[.val (.long p1), .second, .val (.int p2), .val (.int p3), .val (.int p4), .val (.int p5), .val (.long (1420070400 : Int64)), .second, .val (.long (-31557014167219200 : Int64)), .second, .val (.long (31556889864403199 : Int64)), .second, .val (.long hi), .second, .val (.long lo), .second, .val (.long o5), .second, .val (.int k5), .val (.long dt), .second, .val (.int na), .unset, .unset] [(.long dt)])) _
        refine XS.lload X.here hx rfl (hb hby at_148) rfl ?_
        show Steps p.tables e below (T.setTop (mkF m 150 #[.val (.long p1), .second, .val (.int p2), .val (.int p3), .val (.int p4), .val (.int p5), .val (.long (1420070400 : Int64)), .second, .val (.long (-31557014167219200 : Int64)), .second, .val (.long (31556889864403199 : Int64)), .second, .val (.long hi), .second, .val (.long lo), .second, .val (.long o5), .second, .val (.int k5), .val (.long dt), .second, .val (.int na), .unset, .unset] [(.long lo), (.long dt)])) _
        refine XS.lcmp X.here hx rfl (hb hby at_150) rfl ?_
        show Steps p.tables e below (T.setTop (mkF m 151 #[.val (.long p1), .second, .val (.int p2), .val (.int p3), .val (.int p4), .val (.int p5), .val (.long (1420070400 : Int64)), .second, .val (.long (-31557014167219200 : Int64)), .second, .val (.long (31556889864403199 : Int64)), .second, .val (.long hi), .second, .val (.long lo), .second, .val (.long o5), .second, .val (.int k5), .val (.long dt), .second, .val (.int na), .unset, .unset] [(.int (lcmpW dt lo))])) _
        by_cases hc151 : lo < dt
        · rw [if_pos hc151] at hv
          refine XS.ifYes X.here hx rfl (pc0 := 151) (pc' := 160) rfl (hb hby at_151) rfl ((if0 _ _).trans (tlt ((lw_gt _ _).mpr hc151)).2.2.1) (by decide) (by decide) ?_
          show Steps p.tables e below (T.setTop (mkF m 160 #[.val (.long p1), .second, .val (.int p2), .val (.int p3), .val (.int p4), .val (.int p5), .val (.long (1420070400 : Int64)), .second, .val (.long (-31557014167219200 : Int64)), .second, .val (.long (31556889864403199 : Int64)), .second, .val (.long hi), .second, .val (.long lo), .second, .val (.long o5), .second, .val (.int k5), .val (.long dt), .second, .val (.int na), .unset, .unset] [])) _
          refine XS.lload X.here hx rfl (hb hby at_160) rfl ?_
          show Steps p.tables e below (T.setTop (mkF m 162 #[.val (.long p1), .second, .val (.int p2), .val (.int p3), .val (.int p4), .val (.int p5), .val (.long (1420070400 : Int64)), .second, .val (.long (-31557014167219200 : Int64)), .second, .val (.long (31556889864403199 : Int64)), .second, .val (.long hi), .second, .val (.long lo), .second, .val (.long o5), .second, .val (.int k5), .val (.long dt), .second, .val (.int na), .unset, .unset] [(.long dt)])) _
          refine XS.lload X.here hx rfl (hb hby at_162) rfl ?_
          show Steps p.tables e below (T.setTop (mkF m 164 #[.val (.long p1), .second, .val (.int p2), .val (.int p3), .val (.int p4), .val (.int p5), .val (.long (1420070400 : Int64)), .second, .val (.long (-31557014167219200 : Int64)), .second, .val (.long (31556889864403199 : Int64)), .second, .val (.long hi), .second, .val (.long lo), .second, .val (.long o5), .second, .val (.int k5), .val (.long dt), .second, .val (.int na), .unset, .unset] [(.long (1420070400 : Int64)), (.long dt)])) _
          refine XS.ladd X.here hx rfl (hb hby at_164) rfl ?_
          show Steps p.tables e below (T.setTop (mkF m 165 #[.val (.long p1), .second, .val (.int p2), .val (.int p3), .val (.int p4), .val (.int p5), .val (.long (1420070400 : Int64)), .second, .val (.long (-31557014167219200 : Int64)), .second, .val (.long (31556889864403199 : Int64)), .second, .val (.long hi), .second, .val (.long lo), .second, .val (.long o5), .second, .val (.int k5), .val (.long dt), .second, .val (.int na), .unset, .unset] [(.long (dt + (1420070400 : Int64)))])) _
          refine XS.lconst X.here hx rfl (hb hby at_165) ?_
          show Steps p.tables e below (T.setTop (mkF m 166 #[.val (.long p1), .second, .val (.int p2), .val (.int p3), .val (.int p4), .val (.int p5), .val (.long (1420070400 : Int64)), .second, .val (.long (-31557014167219200 : Int64)), .second, .val (.long (31556889864403199 : Int64)), .second, .val (.long hi), .second, .val (.long lo), .second, .val (.long o5), .second, .val (.int k5), .val (.long dt), .second, .val (.int na), .unset, .unset] [(.long (1 : Int64)), (.long (dt + (1420070400 : Int64)))])) _
          refine XS.lsub X.here hx rfl (hb hby at_166) rfl ?_
          show Steps p.tables e below (T.setTop (mkF m 167 #[.val (.long p1), .second, .val (.int p2), .val (.int p3), .val (.int p4), .val (.int p5), .val (.long (1420070400 : Int64)), .second, .val (.long (-31557014167219200 : Int64)), .second, .val (.long (31556889864403199 : Int64)), .second, .val (.long hi), .second, .val (.long lo), .second, .val (.long o5), .second, .val (.int k5), .val (.long dt), .second, .val (.int na), .unset, .unset] [(.long ((dt + (1420070400 : Int64)) - (1 : Int64)))])) _
          refine XS.lstore X.here hx rfl (hb hby at_167) rfl (l' := #[.val (.long p1), .second, .val (.int p2), .val (.int p3), .val (.int p4), .val (.int p5), .val (.long (1420070400 : Int64)), .second, .val (.long (-31557014167219200 : Int64)), .second, .val (.long (31556889864403199 : Int64)), .second, .val (.long hi), .second, .val (.long lo), .second, .val (.long o5), .second, .val (.int k5), .val (.long dt), .second, .val (.int na), .val (.long ((dt + (1420070400 : Int64)) - (1 : Int64))), .second]) rfl ?_
          show Steps p.tables e below (T.setTop (mkF m 169 #[.val (.long p1), .second, .val (.int p2), .val (.int p3), .val (.int p4), .val (.int p5), .val (.long (1420070400 : Int64)), .second, .val (.long (-31557014167219200 : Int64)), .second, .val (.long (31556889864403199 : Int64)), .second, .val (.long hi), .second, .val (.long lo), .second, .val (.long o5), .second, .val (.int k5), .val (.long dt), .second, .val (.int na), .val (.long ((dt + (1420070400 : Int64)) - (1 : Int64))), .second] [])) _
          refine XS.goto X.here hx rfl (pc0 := 169) (pc' := 193) rfl (hb hby at_169) (by decide) (by decide) ?_
          show Steps p.tables e below (T.setTop (mkF m 193 #[.val (.long p1), .second, .val (.int p2), .val (.int p3), .val (.int p4), .val (.int p5), .val (.long (1420070400 : Int64)), .second, .val (.long (-31557014167219200 : Int64)), .second, .val (.long (31556889864403199 : Int64)), .second, .val (.long hi), .second, .val (.long lo), .second, .val (.long o5), .second, .val (.int k5), .val (.long dt), .second, .val (.int na), .val (.long ((dt + (1420070400 : Int64)) - (1 : Int64))), .second] [])) _
          subst hv
          exact hk
        · rw [if_neg hc151] at hv
          refine XS.ifNo X.here hx rfl (hb hby at_151) rfl ((if0 _ _).trans (flt (fun q => hc151 ((lw_gt _ _).mp q))).2.2.1) ?_
          show Steps p.tables e below (T.setTop (mkF m 154 #[.val (.long p1), .second, .val (.int p2), .val (.int p3), .val (.int p4), .val (.int p5), .val (.long (1420070400 : Int64)), .second, .val (.long (-31557014167219200 : Int64)), .second, .val (.long (31556889864403199 : Int64)), .second, .val (.long hi), .second, .val (.long lo), .second, .val (.long o5), .second, .val (.int k5), .val (.long dt), .second, .val (.int na), .unset, .unset] [])) _
          refine X.ldc2Long hx hown (mvT hZ (hw _ (List.mem_of_getElem? (i := 16) rfl))) (g := (mkF m 154 #[.val (.long p1), .second, .val (.int p2), .val (.int p3), .val (.int p4), .val (.int p5), .val (.long (1420070400 : Int64)), .second, .val (.long (-31557014167219200 : Int64)), .second, .val (.long (31556889864403199 : Int64)), .second, .val (.long hi), .second, .val (.long lo), .second, .val (.long o5), .second, .val (.int k5), .val (.long dt), .second, .val (.int na), .unset, .unset] [])) rfl (hb hby at_154) _ ?_
          show Steps p.tables e below (T.setTop (mkF m 157 #[.val (.long p1), .second, .val (.int p2), .val (.int p3), .val (.int p4), .val (.int p5), .val (.long (1420070400 : Int64)), .second, .val (.long (-31557014167219200 : Int64)), .second, .val (.long (31556889864403199 : Int64)), .second, .val (.long hi), .second, .val (.long lo), .second, .val (.long o5), .second, .val (.int k5), .val (.long dt), .second, .val (.int na), .unset, .unset] [(.long (-9223372036854775808 : Int64))])) _
          refine XS.goto X.here hx rfl (pc0 := 157) (pc' := 167) rfl (hb hby at_157) (by decide) (by decide) ?_
          show Steps p.tables e below (T.setTop (mkF m 167 #[.val (.long p1), .second, .val (.int p2), .val (.int p3), .val (.int p4), .val (.int p5), .val (.long (1420070400 : Int64)), .second, .val (.long (-31557014167219200 : Int64)), .second, .val (.long (31556889864403199 : Int64)), .second, .val (.long hi), .second, .val (.long lo), .second, .val (.long o5), .second, .val (.int k5), .val (.long dt), .second, .val (.int na), .unset, .unset] [(.long (-9223372036854775808 : Int64))])) _
          refine XS.lstore X.here hx rfl (hb hby at_167) rfl (l' := #[.val (.long p1), .second, .val (.int p2), .val (.int p3), .val (.int p4), .val (.int p5), .val (.long (1420070400 : Int64)), .second, .val (.long (-31557014167219200 : Int64)), .second, .val (.long (31556889864403199 : Int64)), .second, .val (.long hi), .second, .val (.long lo), .second, .val (.long o5), .second, .val (.int k5), .val (.long dt), .second, .val (.int na), .val (.long (-9223372036854775808 : Int64)), .second]) rfl ?_
          show Steps p.tables e below (T.setTop (mkF m 169 #[.val (.long p1), .second, .val (.int p2), .val (.int p3), .val (.int p4), .val (.int p5), .val (.long (1420070400 : Int64)), .second, .val (.long (-31557014167219200 : Int64)), .second, .val (.long (31556889864403199 : Int64)), .second, .val (.long hi), .second, .val (.long lo), .second, .val (.long o5), .second, .val (.int k5), .val (.long dt), .second, .val (.int na), .val (.long (-9223372036854775808 : Int64)), .second] [])) _
          refine XS.goto X.here hx rfl (pc0 := 169) (pc' := 193) rfl (hb hby at_169) (by decide) (by decide) ?_
          show Steps p.tables e below (T.setTop (mkF m 193 #[.val (.long p1), .second, .val (.int p2), .val (.int p3), .val (.int p4), .val (.int p5), .val (.long (1420070400 : Int64)), .second, .val (.long (-31557014167219200 : Int64)), .second, .val (.long (31556889864403199 : Int64)), .second, .val (.long hi), .second, .val (.long lo), .second, .val (.long o5), .second, .val (.int k5), .val (.long dt), .second, .val (.int na), .val (.long (-9223372036854775808 : Int64)), .second] [])) _
          subst hv
          exact hk
    · rw [if_neg hc136] at hv
      refine XS.ifYes X.here hx rfl (pc0 := 136) (pc' := 172) rfl (hb hby at_136) rfl ((if0 _ _).trans (flt (fun q => hc136 ((lw_lt _ _).mp q))).2.1) (by decide) (by decide) ?_
      show Steps p.tables e below (T.setTop (mkF m 172 #[.val (.long p1), .second, .val (.int p2), .val (.int p3), .val (.int p4), .val (.int p5), .val (.long (1420070400 : Int64)), .second, .val (.long (-31557014167219200 : Int64)), .second, .val (.long (31556889864403199 : Int64)), .second, .val (.long hi), .second, .val (.long lo), .second, .val (.long o5), .second, .val (.int k5), .val (.long dt), .second, .val (.int na), .unset, .unset] [])) _
      refine XS.lload X.here hx rfl (hb hby at_172) rfl ?_
      show Steps p.tables e below (T.setTop (mkF m 174 #[.val (.long p1), .second, .val (.int p2), .val (.int p3), .val (.int p4), .val (.int p5), .val (.long (1420070400 : Int64)), .second, .val (.long (-31557014167219200 : Int64)), .second, .val (.long (31556889864403199 : Int64)), .second, .val (.long hi), .second, .val (.long lo), .second, .val (.long o5), .second, .val (.int k5), .val (.long dt), .second, .val (.int na), .unset, .unset] [(.long dt)])) _
      refine XS.lload X.here hx rfl (hb hby at_174) rfl ?_
      show Steps p.tables e below (T.setTop (mkF m 176 #[.val (.long p1), .second, .val (.int p2), .val (.int p3), .val (.int p4), .val (.int p5), .val (.long (1420070400 : Int64)), .second, .val (.long (-31557014167219200 : Int64)), .second, .val (.long (31556889864403199 : Int64)), .second, .val (.long hi), .second, .val (.long lo), .second, .val (.long o5), .second, .val (.int k5), .val (.long dt), .second, .val (.int na), .unset, .unset] [(.long lo), (.long dt)])) _
      refine XS.lcmp X.here hx rfl (hb hby at_176) rfl ?_
      show Steps p.tables e below (T.setTop (mkF m 177 #[.val (.long p1), .second, .val (.int p2), .val (.int p3), .val (.int p4), .val (.int p5), .val (.long (1420070400 : Int64)), .second, .val (.long (-31557014167219200 : Int64)), .second, .val (.long (31556889864403199 : Int64)), .second, .val (.long hi), .second, .val (.long lo), .second, .val (.long o5), .second, .val (.int k5), .val (.long dt), .second, .val (.int na), .unset, .unset] [(.int (lcmpW dt lo))])) _
      by_cases hc177 : dt < lo
      · rw [if_pos hc177] at hv
        refine XS.ifNo X.here hx rfl (hb hby at_177) rfl ((if0 _ _).trans (tlt ((lw_lt _ _).mpr hc177)).2.1) ?_
        show Steps p.tables e below (T.setTop (mkF m 180 #[.val (.long p1), .second, .val (.int p2), .val (.int p3), .val (.int p4), .val (.int p5), .val (.long (1420070400 : Int64)), .second, .val (.long (-31557014167219200 : Int64)), .second, .val (.long (31556889864403199 : Int64)), .second, .val (.long hi), .second, .val (.long lo), .second, .val (.long o5), .second, .val (.int k5), .val (.long dt), .second, .val (.int na), .unset, .unset] [])) _
        refine X.ldc2Long hx hown (mvT hZ (hw _ (List.mem_of_getElem? (i := 16) rfl))) (g := (mkF m 180 #[.val (.long p1), .second, .val (.int p2), .val (.int p3), .val (.int p4), .val (.int p5), .val (.long (1420070400 : Int64)), .second, .val (.long (-31557014167219200 : Int64)), .second, .val (.long (31556889864403199 : Int64)), .second, .val (.long hi), .second, .val (.long lo), .second, .val (.long o5), .second, .val (.int k5), .val (.long dt), .second, .val (.int na), .unset, .unset] [])) rfl (hb hby at_180) _ ?_
        show Steps p.tables e below (T.setTop (mkF m 183 #[.val (.long p1), .second, .val (.int p2), .val (.int p3), .val (.int p4), .val (.int p5), .val (.long (1420070400 : Int64)), .second, .val (.long (-31557014167219200 : Int64)), .second, .val (.long (31556889864403199 : Int64)), .second, .val (.long hi), .second, .val (.long lo), .second, .val (.long o5), .second, .val (.int k5), .val (.long dt), .second, .val (.int na), .unset, .unset] [(.long (-9223372036854775808 : Int64))])) _
        refine XS.goto X.here hx rfl (pc0 := 183) (pc' := 191) rfl (hb hby at_183) (by decide) (by decide) ?_
        show Steps p.tables e below (T.setTop (mkF m 191 #[.val (.long p1), .second, .val (.int p2), .val (.int p3), .val (.int p4), .val (.int p5), .val (.long (1420070400 : Int64)), .second, .val (.long (-31557014167219200 : Int64)), .second, .val (.long (31556889864403199 : Int64)), .second, .val (.long hi), .second, .val (.long lo), .second, .val (.long o5), .second, .val (.int k5), .val (.long dt), .second, .val (.int na), .unset, .unset] [(.long (-9223372036854775808 : Int64))])) _
        refine XS.lstore X.here hx rfl (hb hby at_191) rfl (l' := #[.val (.long p1), .second, .val (.int p2), .val (.int p3), .val (.int p4), .val (.int p5), .val (.long (1420070400 : Int64)), .second, .val (.long (-31557014167219200 : Int64)), .second, .val (.long (31556889864403199 : Int64)), .second, .val (.long hi), .second, .val (.long lo), .second, .val (.long o5), .second, .val (.int k5), .val (.long dt), .second, .val (.int na), .val (.long (-9223372036854775808 : Int64)), .second]) rfl ?_
        show Steps p.tables e below (T.setTop (mkF m 193 #[.val (.long p1), .second, .val (.int p2), .val (.int p3), .val (.int p4), .val (.int p5), .val (.long (1420070400 : Int64)), .second, .val (.long (-31557014167219200 : Int64)), .second, .val (.long (31556889864403199 : Int64)), .second, .val (.long hi), .second, .val (.long lo), .second, .val (.long o5), .second, .val (.int k5), .val (.long dt), .second, .val (.int na), .val (.long (-9223372036854775808 : Int64)), .second] [])) _
        subst hv
        exact hk
      · rw [if_neg hc177] at hv
        refine XS.ifYes X.here hx rfl (pc0 := 177) (pc' := 186) rfl (hb hby at_177) rfl ((if0 _ _).trans (flt (fun q => hc177 ((lw_lt _ _).mp q))).2.1) (by decide) (by decide) ?_
        show Steps p.tables e below (T.setTop (mkF m 186 #[.val (.long p1), .second, .val (.int p2), .val (.int p3), .val (.int p4), .val (.int p5), .val (.long (1420070400 : Int64)), .second, .val (.long (-31557014167219200 : Int64)), .second, .val (.long (31556889864403199 : Int64)), .second, .val (.long hi), .second, .val (.long lo), .second, .val (.long o5), .second, .val (.int k5), .val (.long dt), .second, .val (.int na), .unset, .unset] [])) _
        refine XS.lload X.here hx rfl (hb hby at_186) rfl ?_
        show Steps p.tables e below (T.setTop (mkF m 188 #[.val (.long p1), .second, .val (.int p2), .val (.int p3), .val (.int p4), .val (.int p5), .val (.long (1420070400 : Int64)), .second, .val (.long (-31557014167219200 : Int64)), .second, .val (.long (31556889864403199 : Int64)), .second, .val (.long hi), .second, .val (.long lo), .second, .val (.long o5), .second, .val (.int k5), .val (.long dt), .second, .val (.int na), .unset, .unset] [(.long dt)])) _
        refine XS.lload X.here hx rfl (hb hby at_188) rfl ?_
        show Steps p.tables e below (T.setTop (mkF m 190 #[.val (.long p1), .second, .val (.int p2), .val (.int p3), .val (.int p4), .val (.int p5), .val (.long (1420070400 : Int64)), .second, .val (.long (-31557014167219200 : Int64)), .second, .val (.long (31556889864403199 : Int64)), .second, .val (.long hi), .second, .val (.long lo), .second, .val (.long o5), .second, .val (.int k5), .val (.long dt), .second, .val (.int na), .unset, .unset] [(.long (1420070400 : Int64)), (.long dt)])) _
        refine XS.ladd X.here hx rfl (hb hby at_190) rfl ?_
        show Steps p.tables e below (T.setTop (mkF m 191 #[.val (.long p1), .second, .val (.int p2), .val (.int p3), .val (.int p4), .val (.int p5), .val (.long (1420070400 : Int64)), .second, .val (.long (-31557014167219200 : Int64)), .second, .val (.long (31556889864403199 : Int64)), .second, .val (.long hi), .second, .val (.long lo), .second, .val (.long o5), .second, .val (.int k5), .val (.long dt), .second, .val (.int na), .unset, .unset] [(.long (dt + (1420070400 : Int64)))])) _
        refine XS.lstore X.here hx rfl (hb hby at_191) rfl (l' := #[.val (.long p1), .second, .val (.int p2), .val (.int p3), .val (.int p4), .val (.int p5), .val (.long (1420070400 : Int64)), .second, .val (.long (-31557014167219200 : Int64)), .second, .val (.long (31556889864403199 : Int64)), .second, .val (.long hi), .second, .val (.long lo), .second, .val (.long o5), .second, .val (.int k5), .val (.long dt), .second, .val (.int na), .val (.long (dt + (1420070400 : Int64))), .second]) rfl ?_
        show Steps p.tables e below (T.setTop (mkF m 193 #[.val (.long p1), .second, .val (.int p2), .val (.int p3), .val (.int p4), .val (.int p5), .val (.long (1420070400 : Int64)), .second, .val (.long (-31557014167219200 : Int64)), .second, .val (.long (31556889864403199 : Int64)), .second, .val (.long hi), .second, .val (.long lo), .second, .val (.long o5), .second, .val (.int k5), .val (.long dt), .second, .val (.int na), .val (.long (dt + (1420070400 : Int64))), .second] [])) _
        subst hv
        exact hk
set_option maxRecDepth 65536 in
theorem own_same (p1 : Int64) (p2 p3 p4 p5 : Int32) (o5 : Int64) (k5 : Int32) (dt : Int64) (na : Int32) : own_second dt na = own_expd p1 p2 p3 p4 p5 ((31556889864403199 : Int64) - (1420070400 : Int64)) ((-31557014167219200 : Int64) - (1420070400 : Int64)) o5 k5 dt na := by
  have E1 : (31556889864403199 : Int64) - (1420070400 : Int64) = (31556888444332799 : Int64) := by decide
  have E2 : (-31557014167219200 : Int64) - (1420070400 : Int64) = (-31557015587289600 : Int64) := by decide
  have E3 : -(1420070400 : Int64) = (-1420070400 : Int64) := by decide
  unfold own_second own_expd
  rw [E1, E2, E3]
  have b1 := Int64.le_toInt dt
  have c1 : (1420070400 : Int64).toInt = 1420070400 := by decide
  have c2 : (1 : Int64).toInt = 1 := by decide
  by_cases h : (31556888444332799 : Int64) < dt
  · rw [if_pos h, if_pos h]; split <;> rfl
  · rw [if_neg h, if_neg h]
    rw [Int64.lt_iff_toInt_lt] at h
    have c3 : (31556888444332799 : Int64).toInt = 31556888444332799 := by decide
    have S : (dt + (1420070400 : Int64)).toInt = dt.toInt + 1420070400 := by rw [(Int64.toInt_add _ _).trans (Int.bmod_eq_of_le (by omega) (by omega)), c1]
    have S1 : (dt + (1420070400 : Int64) - (1 : Int64)).toInt = dt.toInt + 1420070400 - 1 := by rw [(Int64.toInt_sub _ _).trans (Int.bmod_eq_of_le (by omega) (by omega)), S, c2]
    simp only [Int64.lt_iff_toInt_lt, S, S1, Int64.reduceToInt]
    repeat' split
    all_goals first | (exfalso; omega) | rfl
theorem own_eqL {args : Array Value} {first s : State} {o : Option Outcome} {idx : List Nat} {t : Term} {n : Int64} (h : (Jvm.Cond.eq t (Term.long n)).value args first o s idx = some true) : t.eval args first o idx s = some (.long n) := by
  obtain ⟨x, y, hx, hy, k1, k2⟩ := cmp_v (Or.inl h)
  have e : y = .long n := by simpa [Term.eval] using hy.symm
  subst e
  obtain ⟨z, rfl⟩ := k2
  have q := gotT (eq_L hx hy) h
  rw [hx, q]
theorem ef_0 (m : MethodId) (x0 : Int64) (x1 : Int32) (x2 : Int32) (x3 : Int32) (x4 : Int32) : entryFrame m #[(.long x0), (.int x1), (.int x2), (.int x3), (.int x4)] maxLocals = mkF m 0 #[.val (.long x0), .second, .val (.int x1), .val (.int x2), .val (.int x3), .val (.int x4), .unset, .unset, .unset, .unset, .unset, .unset, .unset, .unset, .unset, .unset, .unset, .unset, .unset, .unset, .unset, .unset, .unset, .unset] [] := by first | (simp [entryFrame, mkF, argsToLocals, Value.category, maxLocals]; done) | rfl
theorem pn_0 : plainName "com/example/bitrun/bitrun/orc/timestamp/TimestampLayoutSecondPinLaw" = true := by first | (simp [plainName, overriddenIn]; done) | decide +kernel
def Q_rm0 (Z : State) (p1 : Int64) (p2 : Int32) (p3 : Int32) (p4 : Int32) (p5 : Int32)  (h0 : Heap) (n0 : Nat) (v : Option Value) (h : Heap) (L : List Loc) : Prop := v = some (.int (1 : Int32)) ∧ Fr n0 L
set_option maxRecDepth 65536 in
set_option maxHeartbeats 40000000 in
theorem rm0 (l : Launch) (Z : State) (a0 : Array Value) (hw : ∀ d ∈ tables_1, d.before a0 Z = true) (ws : List Jvm.Cond) (p1 : Int64) (p2 : Int32) (p3 : Int32) (p4 : Int32) (p5 : Int32)  (h0 : Heap) (n0 : Nat) (Z0 : n0 ≤ h0.size) (SMX : Sta Z h0 "com/example/bitrun/bitrun/orc/timestamp/TimestampLayout" "MAX_SECOND" "J" (.long (31556889864403199 : Int64))) (SMN : Sta Z h0 "com/example/bitrun/bitrun/orc/timestamp/TimestampLayout" "MIN_SECOND" "J" (.long (-31557014167219200 : Int64))) :
    MetFree l x (head1 (Jvm.Cond.code x code maxLocals ret :: ws) room_1) (fun a U => a = #[(.long p1), (.int p2), (.int p3), (.int p4), (.int p5)] ∧ Z.Warmed39 U.vm ∧ U.heap = h0) (fun _ _ _ _ _ => True) (fun _ U o U' => ∃ v L, o = .returned v ∧ Q_rm0 Z p1 p2 p3 p4 p5  h0 n0 v U'.heap L ∧ FrameEnd U o U' L 0 0) := by
  refine MetFree.of_bodySF (plainFor_of_name pn_0) hisR ?_
  intro p e s m args below meth c s₁ Bd hml0 hP hK
  obtain ⟨rfl, hZ, hh⟩ := hP
  have hx := Bd.exec
  have hby := Bd.bytes
  have hml : c.maxLocals = 24 := hml0
  have hown : s.vm.findClass "com/example/bitrun/bitrun/orc/timestamp/TimestampLayoutSecondPinLaw" = some m.cls := findClass_of_methodNamed Bd.named
  have hnm := (name_of_methodNamed Bd.named Bd.method).1
  have X0 : Stand p l e room_1 s m #[(.long p1), (.int p2), (.int p3), (.int p4), (.int p5)] below meth c s₁ [] 0 0 := Stand.of_body Bd
  have e0 : s₁.heap = h0 := by rw [← hh, Bd.state]; rfl
  have N0 := Fr.nil n0
  have pre0 : ∀ t, Steps p.tables e below (s₁.setTop (mkF m 0 #[.val (.long p1), .second, .val (.int p2), .val (.int p3), .val (.int p4), .val (.int p5), .unset, .unset, .unset, .unset, .unset, .unset, .unset, .unset, .unset, .unset, .unset, .unset, .unset, .unset, .unset, .unset, .unset, .unset] [])) t → Steps p.tables e below (s₁.setTop (entryFrame m #[(.long p1), (.int p2), (.int p3), (.int p4), (.int p5)] maxLocals)) t := fun t k => castTop (ef_0 m p1 p2 p3 p4 p5) k
  have K1 : ∀ t, Steps p.tables e below (s₁.setTop (mkF m 35 #[.val (.long p1), .second, .val (.int p2), .val (.int p3), .val (.int p4), .val (.int p5), .val (.long (1420070400 : Int64)), .second, .val (.long (-31557014167219200 : Int64)), .second, .val (.long (31556889864403199 : Int64)), .second, .val (.long ((31556889864403199 : Int64) - (1420070400 : Int64))), .second, .val (.long ((-31557014167219200 : Int64) - (1420070400 : Int64))), .second, .unset, .unset, .unset, .unset, .unset, .unset, .unset, .unset] [(.long ((p4 % (8 : Int32)).toInt64))])) t → Steps p.tables e below (s₁.setTop (entryFrame m #[(.long p1), (.int p2), (.int p3), (.int p4), (.int p5)] maxLocals)) t := by
    intro t hk
    refine pre0 t ?_
    show Steps p.tables e below (s₁.setTop (mkF m 0 #[.val (.long p1), .second, .val (.int p2), .val (.int p3), .val (.int p4), .val (.int p5), .unset, .unset, .unset, .unset, .unset, .unset, .unset, .unset, .unset, .unset, .unset, .unset, .unset, .unset, .unset, .unset, .unset, .unset] [])) _
    refine X0.ldc2Long hx hown (mvT hZ (hw _ (List.mem_of_getElem? (i := 0) rfl))) (g := (mkF m 0 #[.val (.long p1), .second, .val (.int p2), .val (.int p3), .val (.int p4), .val (.int p5), .unset, .unset, .unset, .unset, .unset, .unset, .unset, .unset, .unset, .unset, .unset, .unset, .unset, .unset, .unset, .unset, .unset, .unset] [])) rfl (hb hby at_0) _ ?_
    show Steps p.tables e below (s₁.setTop (mkF m 3 #[.val (.long p1), .second, .val (.int p2), .val (.int p3), .val (.int p4), .val (.int p5), .unset, .unset, .unset, .unset, .unset, .unset, .unset, .unset, .unset, .unset, .unset, .unset, .unset, .unset, .unset, .unset, .unset, .unset] [(.long (1420070400 : Int64))])) _
    refine XS.lstore X0.here hx rfl (hb hby at_3) rfl (l' := #[.val (.long p1), .second, .val (.int p2), .val (.int p3), .val (.int p4), .val (.int p5), .val (.long (1420070400 : Int64)), .second, .unset, .unset, .unset, .unset, .unset, .unset, .unset, .unset, .unset, .unset, .unset, .unset, .unset, .unset, .unset, .unset]) rfl ?_
    show Steps p.tables e below (s₁.setTop (mkF m 5 #[.val (.long p1), .second, .val (.int p2), .val (.int p3), .val (.int p4), .val (.int p5), .val (.long (1420070400 : Int64)), .second, .unset, .unset, .unset, .unset, .unset, .unset, .unset, .unset, .unset, .unset, .unset, .unset, .unset, .unset, .unset, .unset] [])) _
    refine X0.ldc2Long hx hown (mvT hZ (hw _ (List.mem_of_getElem? (i := 1) rfl))) (g := (mkF m 5 #[.val (.long p1), .second, .val (.int p2), .val (.int p3), .val (.int p4), .val (.int p5), .val (.long (1420070400 : Int64)), .second, .unset, .unset, .unset, .unset, .unset, .unset, .unset, .unset, .unset, .unset, .unset, .unset, .unset, .unset, .unset, .unset] [])) rfl (hb hby at_5) _ ?_
    show Steps p.tables e below (s₁.setTop (mkF m 8 #[.val (.long p1), .second, .val (.int p2), .val (.int p3), .val (.int p4), .val (.int p5), .val (.long (1420070400 : Int64)), .second, .unset, .unset, .unset, .unset, .unset, .unset, .unset, .unset, .unset, .unset, .unset, .unset, .unset, .unset, .unset, .unset] [(.long (-31557014167219200 : Int64))])) _
    refine XS.lstore X0.here hx rfl (hb hby at_8) rfl (l' := #[.val (.long p1), .second, .val (.int p2), .val (.int p3), .val (.int p4), .val (.int p5), .val (.long (1420070400 : Int64)), .second, .val (.long (-31557014167219200 : Int64)), .second, .unset, .unset, .unset, .unset, .unset, .unset, .unset, .unset, .unset, .unset, .unset, .unset, .unset, .unset]) rfl ?_
    show Steps p.tables e below (s₁.setTop (mkF m 10 #[.val (.long p1), .second, .val (.int p2), .val (.int p3), .val (.int p4), .val (.int p5), .val (.long (1420070400 : Int64)), .second, .val (.long (-31557014167219200 : Int64)), .second, .unset, .unset, .unset, .unset, .unset, .unset, .unset, .unset, .unset, .unset, .unset, .unset, .unset, .unset] [])) _
    refine X0.ldc2Long hx hown (mvT hZ (hw _ (List.mem_of_getElem? (i := 2) rfl))) (g := (mkF m 10 #[.val (.long p1), .second, .val (.int p2), .val (.int p3), .val (.int p4), .val (.int p5), .val (.long (1420070400 : Int64)), .second, .val (.long (-31557014167219200 : Int64)), .second, .unset, .unset, .unset, .unset, .unset, .unset, .unset, .unset, .unset, .unset, .unset, .unset, .unset, .unset] [])) rfl (hb hby at_10) _ ?_
    show Steps p.tables e below (s₁.setTop (mkF m 13 #[.val (.long p1), .second, .val (.int p2), .val (.int p3), .val (.int p4), .val (.int p5), .val (.long (1420070400 : Int64)), .second, .val (.long (-31557014167219200 : Int64)), .second, .unset, .unset, .unset, .unset, .unset, .unset, .unset, .unset, .unset, .unset, .unset, .unset, .unset, .unset] [(.long (31556889864403199 : Int64))])) _
    refine XS.lstore X0.here hx rfl (hb hby at_13) rfl (l' := #[.val (.long p1), .second, .val (.int p2), .val (.int p3), .val (.int p4), .val (.int p5), .val (.long (1420070400 : Int64)), .second, .val (.long (-31557014167219200 : Int64)), .second, .val (.long (31556889864403199 : Int64)), .second, .unset, .unset, .unset, .unset, .unset, .unset, .unset, .unset, .unset, .unset, .unset, .unset]) rfl ?_
    show Steps p.tables e below (s₁.setTop (mkF m 15 #[.val (.long p1), .second, .val (.int p2), .val (.int p3), .val (.int p4), .val (.int p5), .val (.long (1420070400 : Int64)), .second, .val (.long (-31557014167219200 : Int64)), .second, .val (.long (31556889864403199 : Int64)), .second, .unset, .unset, .unset, .unset, .unset, .unset, .unset, .unset, .unset, .unset, .unset, .unset] [])) _
    refine XS.lload X0.here hx rfl (hb hby at_15) rfl ?_
    show Steps p.tables e below (s₁.setTop (mkF m 17 #[.val (.long p1), .second, .val (.int p2), .val (.int p3), .val (.int p4), .val (.int p5), .val (.long (1420070400 : Int64)), .second, .val (.long (-31557014167219200 : Int64)), .second, .val (.long (31556889864403199 : Int64)), .second, .unset, .unset, .unset, .unset, .unset, .unset, .unset, .unset, .unset, .unset, .unset, .unset] [(.long (31556889864403199 : Int64))])) _
    refine XS.lload X0.here hx rfl (hb hby at_17) rfl ?_
    show Steps p.tables e below (s₁.setTop (mkF m 19 #[.val (.long p1), .second, .val (.int p2), .val (.int p3), .val (.int p4), .val (.int p5), .val (.long (1420070400 : Int64)), .second, .val (.long (-31557014167219200 : Int64)), .second, .val (.long (31556889864403199 : Int64)), .second, .unset, .unset, .unset, .unset, .unset, .unset, .unset, .unset, .unset, .unset, .unset, .unset] [(.long (1420070400 : Int64)), (.long (31556889864403199 : Int64))])) _
    refine XS.lsub X0.here hx rfl (hb hby at_19) rfl ?_
    show Steps p.tables e below (s₁.setTop (mkF m 20 #[.val (.long p1), .second, .val (.int p2), .val (.int p3), .val (.int p4), .val (.int p5), .val (.long (1420070400 : Int64)), .second, .val (.long (-31557014167219200 : Int64)), .second, .val (.long (31556889864403199 : Int64)), .second, .unset, .unset, .unset, .unset, .unset, .unset, .unset, .unset, .unset, .unset, .unset, .unset] [(.long ((31556889864403199 : Int64) - (1420070400 : Int64)))])) _
    refine XS.lstore X0.here hx rfl (hb hby at_20) rfl (l' := #[.val (.long p1), .second, .val (.int p2), .val (.int p3), .val (.int p4), .val (.int p5), .val (.long (1420070400 : Int64)), .second, .val (.long (-31557014167219200 : Int64)), .second, .val (.long (31556889864403199 : Int64)), .second, .val (.long ((31556889864403199 : Int64) - (1420070400 : Int64))), .second, .unset, .unset, .unset, .unset, .unset, .unset, .unset, .unset, .unset, .unset]) rfl ?_
    show Steps p.tables e below (s₁.setTop (mkF m 22 #[.val (.long p1), .second, .val (.int p2), .val (.int p3), .val (.int p4), .val (.int p5), .val (.long (1420070400 : Int64)), .second, .val (.long (-31557014167219200 : Int64)), .second, .val (.long (31556889864403199 : Int64)), .second, .val (.long ((31556889864403199 : Int64) - (1420070400 : Int64))), .second, .unset, .unset, .unset, .unset, .unset, .unset, .unset, .unset, .unset, .unset] [])) _
    refine XS.lload X0.here hx rfl (hb hby at_22) rfl ?_
    show Steps p.tables e below (s₁.setTop (mkF m 24 #[.val (.long p1), .second, .val (.int p2), .val (.int p3), .val (.int p4), .val (.int p5), .val (.long (1420070400 : Int64)), .second, .val (.long (-31557014167219200 : Int64)), .second, .val (.long (31556889864403199 : Int64)), .second, .val (.long ((31556889864403199 : Int64) - (1420070400 : Int64))), .second, .unset, .unset, .unset, .unset, .unset, .unset, .unset, .unset, .unset, .unset] [(.long (-31557014167219200 : Int64))])) _
    refine XS.lload X0.here hx rfl (hb hby at_24) rfl ?_
    show Steps p.tables e below (s₁.setTop (mkF m 26 #[.val (.long p1), .second, .val (.int p2), .val (.int p3), .val (.int p4), .val (.int p5), .val (.long (1420070400 : Int64)), .second, .val (.long (-31557014167219200 : Int64)), .second, .val (.long (31556889864403199 : Int64)), .second, .val (.long ((31556889864403199 : Int64) - (1420070400 : Int64))), .second, .unset, .unset, .unset, .unset, .unset, .unset, .unset, .unset, .unset, .unset] [(.long (1420070400 : Int64)), (.long (-31557014167219200 : Int64))])) _
    refine XS.lsub X0.here hx rfl (hb hby at_26) rfl ?_
    show Steps p.tables e below (s₁.setTop (mkF m 27 #[.val (.long p1), .second, .val (.int p2), .val (.int p3), .val (.int p4), .val (.int p5), .val (.long (1420070400 : Int64)), .second, .val (.long (-31557014167219200 : Int64)), .second, .val (.long (31556889864403199 : Int64)), .second, .val (.long ((31556889864403199 : Int64) - (1420070400 : Int64))), .second, .unset, .unset, .unset, .unset, .unset, .unset, .unset, .unset, .unset, .unset] [(.long ((-31557014167219200 : Int64) - (1420070400 : Int64)))])) _
    refine XS.lstore X0.here hx rfl (hb hby at_27) rfl (l' := #[.val (.long p1), .second, .val (.int p2), .val (.int p3), .val (.int p4), .val (.int p5), .val (.long (1420070400 : Int64)), .second, .val (.long (-31557014167219200 : Int64)), .second, .val (.long (31556889864403199 : Int64)), .second, .val (.long ((31556889864403199 : Int64) - (1420070400 : Int64))), .second, .val (.long ((-31557014167219200 : Int64) - (1420070400 : Int64))), .second, .unset, .unset, .unset, .unset, .unset, .unset, .unset, .unset]) rfl ?_
    show Steps p.tables e below (s₁.setTop (mkF m 29 #[.val (.long p1), .second, .val (.int p2), .val (.int p3), .val (.int p4), .val (.int p5), .val (.long (1420070400 : Int64)), .second, .val (.long (-31557014167219200 : Int64)), .second, .val (.long (31556889864403199 : Int64)), .second, .val (.long ((31556889864403199 : Int64) - (1420070400 : Int64))), .second, .val (.long ((-31557014167219200 : Int64) - (1420070400 : Int64))), .second, .unset, .unset, .unset, .unset, .unset, .unset, .unset, .unset] [])) _
    refine XS.iload X0.here hx rfl (hb hby at_29) rfl ?_
    show Steps p.tables e below (s₁.setTop (mkF m 31 #[.val (.long p1), .second, .val (.int p2), .val (.int p3), .val (.int p4), .val (.int p5), .val (.long (1420070400 : Int64)), .second, .val (.long (-31557014167219200 : Int64)), .second, .val (.long (31556889864403199 : Int64)), .second, .val (.long ((31556889864403199 : Int64) - (1420070400 : Int64))), .second, .val (.long ((-31557014167219200 : Int64) - (1420070400 : Int64))), .second, .unset, .unset, .unset, .unset, .unset, .unset, .unset, .unset] [(.int p4)])) _
    refine XS.bipush X0.here hx rfl (hb hby at_31) ?_
    show Steps p.tables e below (s₁.setTop (mkF m 33 #[.val (.long p1), .second, .val (.int p2), .val (.int p3), .val (.int p4), .val (.int p5), .val (.long (1420070400 : Int64)), .second, .val (.long (-31557014167219200 : Int64)), .second, .val (.long (31556889864403199 : Int64)), .second, .val (.long ((31556889864403199 : Int64) - (1420070400 : Int64))), .second, .val (.long ((-31557014167219200 : Int64) - (1420070400 : Int64))), .second, .unset, .unset, .unset, .unset, .unset, .unset, .unset, .unset] [(.int (8 : Int32)), (.int p4)])) _
    refine XS.irem X0.here hx rfl (hb hby at_33) rfl (by decide) ?_
    rw [Jvm.irem_eq_mod p4 (8 : Int32)]
    show Steps p.tables e below (s₁.setTop (mkF m 34 #[.val (.long p1), .second, .val (.int p2), .val (.int p3), .val (.int p4), .val (.int p5), .val (.long (1420070400 : Int64)), .second, .val (.long (-31557014167219200 : Int64)), .second, .val (.long (31556889864403199 : Int64)), .second, .val (.long ((31556889864403199 : Int64) - (1420070400 : Int64))), .second, .val (.long ((-31557014167219200 : Int64) - (1420070400 : Int64))), .second, .unset, .unset, .unset, .unset, .unset, .unset, .unset, .unset] [(.int (p4 % (8 : Int32)))])) _
    refine XS.i2l X0.here hx rfl (hb hby at_34) rfl ?_
    show Steps p.tables e below (s₁.setTop (mkF m 35 #[.val (.long p1), .second, .val (.int p2), .val (.int p3), .val (.int p4), .val (.int p5), .val (.long (1420070400 : Int64)), .second, .val (.long (-31557014167219200 : Int64)), .second, .val (.long (31556889864403199 : Int64)), .second, .val (.long ((31556889864403199 : Int64) - (1420070400 : Int64))), .second, .val (.long ((-31557014167219200 : Int64) - (1420070400 : Int64))), .second, .unset, .unset, .unset, .unset, .unset, .unset, .unset, .unset] [(.long ((p4 % (8 : Int32)).toInt64))])) _
    exact hk
  obtain ⟨o5, ho5⟩ : ∃ z, z = ((p4 % (8 : Int32)).toInt64) := ⟨_, rfl⟩
  have K2 : ∀ t, Steps p.tables e below (s₁.setTop (mkF m 35 #[.val (.long p1), .second, .val (.int p2), .val (.int p3), .val (.int p4), .val (.int p5), .val (.long (1420070400 : Int64)), .second, .val (.long (-31557014167219200 : Int64)), .second, .val (.long (31556889864403199 : Int64)), .second, .val (.long ((31556889864403199 : Int64) - (1420070400 : Int64))), .second, .val (.long ((-31557014167219200 : Int64) - (1420070400 : Int64))), .second, .unset, .unset, .unset, .unset, .unset, .unset, .unset, .unset] [(.long o5)])) t → Steps p.tables e below (s₁.setTop (entryFrame m #[(.long p1), (.int p2), (.int p3), (.int p4), (.int p5)] maxLocals)) t := by rw [ho5]; exact K1
  have K3 : ∀ t, Steps p.tables e below (s₁.setTop (mkF m 40 #[.val (.long p1), .second, .val (.int p2), .val (.int p3), .val (.int p4), .val (.int p5), .val (.long (1420070400 : Int64)), .second, .val (.long (-31557014167219200 : Int64)), .second, .val (.long (31556889864403199 : Int64)), .second, .val (.long ((31556889864403199 : Int64) - (1420070400 : Int64))), .second, .val (.long ((-31557014167219200 : Int64) - (1420070400 : Int64))), .second, .val (.long o5), .second, .unset, .unset, .unset, .unset, .unset, .unset] [(.int (p3 &&& (3 : Int32)))])) t → Steps p.tables e below (s₁.setTop (entryFrame m #[(.long p1), (.int p2), (.int p3), (.int p4), (.int p5)] maxLocals)) t := by
    intro t hk
    refine K2 t ?_
    show Steps p.tables e below (s₁.setTop (mkF m 35 #[.val (.long p1), .second, .val (.int p2), .val (.int p3), .val (.int p4), .val (.int p5), .val (.long (1420070400 : Int64)), .second, .val (.long (-31557014167219200 : Int64)), .second, .val (.long (31556889864403199 : Int64)), .second, .val (.long ((31556889864403199 : Int64) - (1420070400 : Int64))), .second, .val (.long ((-31557014167219200 : Int64) - (1420070400 : Int64))), .second, .unset, .unset, .unset, .unset, .unset, .unset, .unset, .unset] [(.long o5)])) _
    refine XS.lstore X0.here hx rfl (hb hby at_35) rfl (l' := #[.val (.long p1), .second, .val (.int p2), .val (.int p3), .val (.int p4), .val (.int p5), .val (.long (1420070400 : Int64)), .second, .val (.long (-31557014167219200 : Int64)), .second, .val (.long (31556889864403199 : Int64)), .second, .val (.long ((31556889864403199 : Int64) - (1420070400 : Int64))), .second, .val (.long ((-31557014167219200 : Int64) - (1420070400 : Int64))), .second, .val (.long o5), .second, .unset, .unset, .unset, .unset, .unset, .unset]) rfl ?_
    show Steps p.tables e below (s₁.setTop (mkF m 37 #[.val (.long p1), .second, .val (.int p2), .val (.int p3), .val (.int p4), .val (.int p5), .val (.long (1420070400 : Int64)), .second, .val (.long (-31557014167219200 : Int64)), .second, .val (.long (31556889864403199 : Int64)), .second, .val (.long ((31556889864403199 : Int64) - (1420070400 : Int64))), .second, .val (.long ((-31557014167219200 : Int64) - (1420070400 : Int64))), .second, .val (.long o5), .second, .unset, .unset, .unset, .unset, .unset, .unset] [])) _
    refine XS.iloadN X0.here hx rfl (hb hby at_37) rfl ?_
    show Steps p.tables e below (s₁.setTop (mkF m 38 #[.val (.long p1), .second, .val (.int p2), .val (.int p3), .val (.int p4), .val (.int p5), .val (.long (1420070400 : Int64)), .second, .val (.long (-31557014167219200 : Int64)), .second, .val (.long (31556889864403199 : Int64)), .second, .val (.long ((31556889864403199 : Int64) - (1420070400 : Int64))), .second, .val (.long ((-31557014167219200 : Int64) - (1420070400 : Int64))), .second, .val (.long o5), .second, .unset, .unset, .unset, .unset, .unset, .unset] [(.int p3)])) _
    refine XS.iconst X0.here hx rfl (hb hby at_38) ?_
    show Steps p.tables e below (s₁.setTop (mkF m 39 #[.val (.long p1), .second, .val (.int p2), .val (.int p3), .val (.int p4), .val (.int p5), .val (.long (1420070400 : Int64)), .second, .val (.long (-31557014167219200 : Int64)), .second, .val (.long (31556889864403199 : Int64)), .second, .val (.long ((31556889864403199 : Int64) - (1420070400 : Int64))), .second, .val (.long ((-31557014167219200 : Int64) - (1420070400 : Int64))), .second, .val (.long o5), .second, .unset, .unset, .unset, .unset, .unset, .unset] [(.int (3 : Int32)), (.int p3)])) _
    refine XS.iand X0.here hx rfl (hb hby at_39) rfl ?_
    show Steps p.tables e below (s₁.setTop (mkF m 40 #[.val (.long p1), .second, .val (.int p2), .val (.int p3), .val (.int p4), .val (.int p5), .val (.long (1420070400 : Int64)), .second, .val (.long (-31557014167219200 : Int64)), .second, .val (.long (31556889864403199 : Int64)), .second, .val (.long ((31556889864403199 : Int64) - (1420070400 : Int64))), .second, .val (.long ((-31557014167219200 : Int64) - (1420070400 : Int64))), .second, .val (.long o5), .second, .unset, .unset, .unset, .unset, .unset, .unset] [(.int (p3 &&& (3 : Int32)))])) _
    exact hk
  obtain ⟨k5, hk5⟩ : ∃ z, z = (p3 &&& (3 : Int32)) := ⟨_, rfl⟩
  have K4 : ∀ t, Steps p.tables e below (s₁.setTop (mkF m 40 #[.val (.long p1), .second, .val (.int p2), .val (.int p3), .val (.int p4), .val (.int p5), .val (.long (1420070400 : Int64)), .second, .val (.long (-31557014167219200 : Int64)), .second, .val (.long (31556889864403199 : Int64)), .second, .val (.long ((31556889864403199 : Int64) - (1420070400 : Int64))), .second, .val (.long ((-31557014167219200 : Int64) - (1420070400 : Int64))), .second, .val (.long o5), .second, .unset, .unset, .unset, .unset, .unset, .unset] [(.int k5)])) t → Steps p.tables e below (s₁.setTop (entryFrame m #[(.long p1), (.int p2), (.int p3), (.int p4), (.int p5)] maxLocals)) t := by rw [hk5]; exact K3
  have K5 : ∀ t, Steps p.tables e below (s₁.setTop (mkF m 42 #[.val (.long p1), .second, .val (.int p2), .val (.int p3), .val (.int p4), .val (.int p5), .val (.long (1420070400 : Int64)), .second, .val (.long (-31557014167219200 : Int64)), .second, .val (.long (31556889864403199 : Int64)), .second, .val (.long ((31556889864403199 : Int64) - (1420070400 : Int64))), .second, .val (.long ((-31557014167219200 : Int64) - (1420070400 : Int64))), .second, .val (.long o5), .second, .val (.int k5), .unset, .unset, .unset, .unset, .unset] [])) t → Steps p.tables e below (s₁.setTop (entryFrame m #[(.long p1), (.int p2), (.int p3), (.int p4), (.int p5)] maxLocals)) t := by
    intro t hk
    refine K4 t ?_
    show Steps p.tables e below (s₁.setTop (mkF m 40 #[.val (.long p1), .second, .val (.int p2), .val (.int p3), .val (.int p4), .val (.int p5), .val (.long (1420070400 : Int64)), .second, .val (.long (-31557014167219200 : Int64)), .second, .val (.long (31556889864403199 : Int64)), .second, .val (.long ((31556889864403199 : Int64) - (1420070400 : Int64))), .second, .val (.long ((-31557014167219200 : Int64) - (1420070400 : Int64))), .second, .val (.long o5), .second, .unset, .unset, .unset, .unset, .unset, .unset] [(.int k5)])) _
    refine XS.istore X0.here hx rfl (hb hby at_40) rfl (l' := #[.val (.long p1), .second, .val (.int p2), .val (.int p3), .val (.int p4), .val (.int p5), .val (.long (1420070400 : Int64)), .second, .val (.long (-31557014167219200 : Int64)), .second, .val (.long (31556889864403199 : Int64)), .second, .val (.long ((31556889864403199 : Int64) - (1420070400 : Int64))), .second, .val (.long ((-31557014167219200 : Int64) - (1420070400 : Int64))), .second, .val (.long o5), .second, .val (.int k5), .unset, .unset, .unset, .unset, .unset]) rfl ?_
    show Steps p.tables e below (s₁.setTop (mkF m 42 #[.val (.long p1), .second, .val (.int p2), .val (.int p3), .val (.int p4), .val (.int p5), .val (.long (1420070400 : Int64)), .second, .val (.long (-31557014167219200 : Int64)), .second, .val (.long (31556889864403199 : Int64)), .second, .val (.long ((31556889864403199 : Int64) - (1420070400 : Int64))), .second, .val (.long ((-31557014167219200 : Int64) - (1420070400 : Int64))), .second, .val (.long o5), .second, .val (.int k5), .unset, .unset, .unset, .unset, .unset] [])) _
    exact hk
  have K7 : ∀ t, Steps p.tables e below (s₁.setTop (mkF m 93 #[.val (.long p1), .second, .val (.int p2), .val (.int p3), .val (.int p4), .val (.int p5), .val (.long (1420070400 : Int64)), .second, .val (.long (-31557014167219200 : Int64)), .second, .val (.long (31556889864403199 : Int64)), .second, .val (.long ((31556889864403199 : Int64) - (1420070400 : Int64))), .second, .val (.long ((-31557014167219200 : Int64) - (1420070400 : Int64))), .second, .val (.long o5), .second, .val (.int k5), .val (.long (own_data p1 p2 p3 p4 p5 ((31556889864403199 : Int64) - (1420070400 : Int64)) ((-31557014167219200 : Int64) - (1420070400 : Int64)) o5 k5)), .second, .unset, .unset, .unset] [])) t → Steps p.tables e below (s₁.setTop (entryFrame m #[(.long p1), (.int p2), (.int p3), (.int p4), (.int p5)] maxLocals)) t := fun t hk => K5 t (own_data_s X0 hx hby hown hZ hw p1 p2 p3 p4 p5 ((31556889864403199 : Int64) - (1420070400 : Int64)) ((-31557014167219200 : Int64) - (1420070400 : Int64)) o5 k5 _ rfl hk)
  obtain ⟨dt, hdt⟩ : ∃ z, z = (own_data p1 p2 p3 p4 p5 ((31556889864403199 : Int64) - (1420070400 : Int64)) ((-31557014167219200 : Int64) - (1420070400 : Int64)) o5 k5) := ⟨_, rfl⟩
  have K8 : ∀ t, Steps p.tables e below (s₁.setTop (mkF m 93 #[.val (.long p1), .second, .val (.int p2), .val (.int p3), .val (.int p4), .val (.int p5), .val (.long (1420070400 : Int64)), .second, .val (.long (-31557014167219200 : Int64)), .second, .val (.long (31556889864403199 : Int64)), .second, .val (.long ((31556889864403199 : Int64) - (1420070400 : Int64))), .second, .val (.long ((-31557014167219200 : Int64) - (1420070400 : Int64))), .second, .val (.long o5), .second, .val (.int k5), .val (.long dt), .second, .unset, .unset, .unset] [])) t → Steps p.tables e below (s₁.setTop (entryFrame m #[(.long p1), (.int p2), (.int p3), (.int p4), (.int p5)] maxLocals)) t := by rw [hdt]; exact K7
  have K9 : ∀ t, Steps p.tables e below (s₁.setTop (mkF m 112 #[.val (.long p1), .second, .val (.int p2), .val (.int p3), .val (.int p4), .val (.int p5), .val (.long (1420070400 : Int64)), .second, .val (.long (-31557014167219200 : Int64)), .second, .val (.long (31556889864403199 : Int64)), .second, .val (.long ((31556889864403199 : Int64) - (1420070400 : Int64))), .second, .val (.long ((-31557014167219200 : Int64) - (1420070400 : Int64))), .second, .val (.long o5), .second, .val (.int k5), .val (.long dt), .second, .unset, .unset, .unset] [(.int (own_nano p1 p2 p3 p4 p5 ((31556889864403199 : Int64) - (1420070400 : Int64)) ((-31557014167219200 : Int64) - (1420070400 : Int64)) o5 k5 dt))])) t → Steps p.tables e below (s₁.setTop (entryFrame m #[(.long p1), (.int p2), (.int p3), (.int p4), (.int p5)] maxLocals)) t := fun t hk => K8 t (own_nano_s X0 hx hby hown hZ hw p1 p2 p3 p4 p5 ((31556889864403199 : Int64) - (1420070400 : Int64)) ((-31557014167219200 : Int64) - (1420070400 : Int64)) o5 k5 dt _ rfl hk)
  obtain ⟨na, hna⟩ : ∃ z, z = (own_nano p1 p2 p3 p4 p5 ((31556889864403199 : Int64) - (1420070400 : Int64)) ((-31557014167219200 : Int64) - (1420070400 : Int64)) o5 k5 dt) := ⟨_, rfl⟩
  have K10 : ∀ t, Steps p.tables e below (s₁.setTop (mkF m 112 #[.val (.long p1), .second, .val (.int p2), .val (.int p3), .val (.int p4), .val (.int p5), .val (.long (1420070400 : Int64)), .second, .val (.long (-31557014167219200 : Int64)), .second, .val (.long (31556889864403199 : Int64)), .second, .val (.long ((31556889864403199 : Int64) - (1420070400 : Int64))), .second, .val (.long ((-31557014167219200 : Int64) - (1420070400 : Int64))), .second, .val (.long o5), .second, .val (.int k5), .val (.long dt), .second, .unset, .unset, .unset] [(.int na)])) t → Steps p.tables e below (s₁.setTop (entryFrame m #[(.long p1), (.int p2), (.int p3), (.int p4), (.int p5)] maxLocals)) t := by rw [hna]; exact K9
  have K11 : ∀ t, Steps p.tables e below (s₁.setTop (mkF m 114 #[.val (.long p1), .second, .val (.int p2), .val (.int p3), .val (.int p4), .val (.int p5), .val (.long (1420070400 : Int64)), .second, .val (.long (-31557014167219200 : Int64)), .second, .val (.long (31556889864403199 : Int64)), .second, .val (.long ((31556889864403199 : Int64) - (1420070400 : Int64))), .second, .val (.long ((-31557014167219200 : Int64) - (1420070400 : Int64))), .second, .val (.long o5), .second, .val (.int k5), .val (.long dt), .second, .val (.int na), .unset, .unset] [])) t → Steps p.tables e below (s₁.setTop (entryFrame m #[(.long p1), (.int p2), (.int p3), (.int p4), (.int p5)] maxLocals)) t := by
    intro t hk
    refine K10 t ?_
    show Steps p.tables e below (s₁.setTop (mkF m 112 #[.val (.long p1), .second, .val (.int p2), .val (.int p3), .val (.int p4), .val (.int p5), .val (.long (1420070400 : Int64)), .second, .val (.long (-31557014167219200 : Int64)), .second, .val (.long (31556889864403199 : Int64)), .second, .val (.long ((31556889864403199 : Int64) - (1420070400 : Int64))), .second, .val (.long ((-31557014167219200 : Int64) - (1420070400 : Int64))), .second, .val (.long o5), .second, .val (.int k5), .val (.long dt), .second, .unset, .unset, .unset] [(.int na)])) _
    refine XS.istore X0.here hx rfl (hb hby at_112) rfl (l' := #[.val (.long p1), .second, .val (.int p2), .val (.int p3), .val (.int p4), .val (.int p5), .val (.long (1420070400 : Int64)), .second, .val (.long (-31557014167219200 : Int64)), .second, .val (.long (31556889864403199 : Int64)), .second, .val (.long ((31556889864403199 : Int64) - (1420070400 : Int64))), .second, .val (.long ((-31557014167219200 : Int64) - (1420070400 : Int64))), .second, .val (.long o5), .second, .val (.int k5), .val (.long dt), .second, .val (.int na), .unset, .unset]) rfl ?_
    show Steps p.tables e below (s₁.setTop (mkF m 114 #[.val (.long p1), .second, .val (.int p2), .val (.int p3), .val (.int p4), .val (.int p5), .val (.long (1420070400 : Int64)), .second, .val (.long (-31557014167219200 : Int64)), .second, .val (.long (31556889864403199 : Int64)), .second, .val (.long ((31556889864403199 : Int64) - (1420070400 : Int64))), .second, .val (.long ((-31557014167219200 : Int64) - (1420070400 : Int64))), .second, .val (.long o5), .second, .val (.int k5), .val (.long dt), .second, .val (.int na), .unset, .unset] [])) _
    exact hk
  have K12 : ∀ t, Steps p.tables e below (s₁.setTop (mkF m 193 #[.val (.long p1), .second, .val (.int p2), .val (.int p3), .val (.int p4), .val (.int p5), .val (.long (1420070400 : Int64)), .second, .val (.long (-31557014167219200 : Int64)), .second, .val (.long (31556889864403199 : Int64)), .second, .val (.long ((31556889864403199 : Int64) - (1420070400 : Int64))), .second, .val (.long ((-31557014167219200 : Int64) - (1420070400 : Int64))), .second, .val (.long o5), .second, .val (.int k5), .val (.long dt), .second, .val (.int na), .val (.long (own_expd p1 p2 p3 p4 p5 ((31556889864403199 : Int64) - (1420070400 : Int64)) ((-31557014167219200 : Int64) - (1420070400 : Int64)) o5 k5 dt na)), .second] [])) t → Steps p.tables e below (s₁.setTop (entryFrame m #[(.long p1), (.int p2), (.int p3), (.int p4), (.int p5)] maxLocals)) t := fun t hk => K11 t (own_expd_s X0 hx hby hown hZ hw p1 p2 p3 p4 p5 ((31556889864403199 : Int64) - (1420070400 : Int64)) ((-31557014167219200 : Int64) - (1420070400 : Int64)) o5 k5 dt na _ rfl hk)
  have K13 : ∀ t, Steps p.tables e below (s₁.setTop (mkF m 197 #[.val (.long p1), .second, .val (.int p2), .val (.int p3), .val (.int p4), .val (.int p5), .val (.long (1420070400 : Int64)), .second, .val (.long (-31557014167219200 : Int64)), .second, .val (.long (31556889864403199 : Int64)), .second, .val (.long ((31556889864403199 : Int64) - (1420070400 : Int64))), .second, .val (.long ((-31557014167219200 : Int64) - (1420070400 : Int64))), .second, .val (.long o5), .second, .val (.int k5), .val (.long dt), .second, .val (.int na), .val (.long (own_expd p1 p2 p3 p4 p5 ((31556889864403199 : Int64) - (1420070400 : Int64)) ((-31557014167219200 : Int64) - (1420070400 : Int64)) o5 k5 dt na)), .second] [(.int na), (.long dt)])) t → Steps p.tables e below (s₁.setTop (entryFrame m #[(.long p1), (.int p2), (.int p3), (.int p4), (.int p5)] maxLocals)) t := by
    intro t hk
    refine K12 t ?_
    show Steps p.tables e below (s₁.setTop (mkF m 193 #[.val (.long p1), .second, .val (.int p2), .val (.int p3), .val (.int p4), .val (.int p5), .val (.long (1420070400 : Int64)), .second, .val (.long (-31557014167219200 : Int64)), .second, .val (.long (31556889864403199 : Int64)), .second, .val (.long ((31556889864403199 : Int64) - (1420070400 : Int64))), .second, .val (.long ((-31557014167219200 : Int64) - (1420070400 : Int64))), .second, .val (.long o5), .second, .val (.int k5), .val (.long dt), .second, .val (.int na), .val (.long (own_expd p1 p2 p3 p4 p5 ((31556889864403199 : Int64) - (1420070400 : Int64)) ((-31557014167219200 : Int64) - (1420070400 : Int64)) o5 k5 dt na)), .second] [])) _
    refine XS.lload X0.here hx rfl (hb hby at_193) rfl ?_
    show Steps p.tables e below (s₁.setTop (mkF m 195 #[.val (.long p1), .second, .val (.int p2), .val (.int p3), .val (.int p4), .val (.int p5), .val (.long (1420070400 : Int64)), .second, .val (.long (-31557014167219200 : Int64)), .second, .val (.long (31556889864403199 : Int64)), .second, .val (.long ((31556889864403199 : Int64) - (1420070400 : Int64))), .second, .val (.long ((-31557014167219200 : Int64) - (1420070400 : Int64))), .second, .val (.long o5), .second, .val (.int k5), .val (.long dt), .second, .val (.int na), .val (.long (own_expd p1 p2 p3 p4 p5 ((31556889864403199 : Int64) - (1420070400 : Int64)) ((-31557014167219200 : Int64) - (1420070400 : Int64)) o5 k5 dt na)), .second] [(.long dt)])) _
    refine XS.iload X0.here hx rfl (hb hby at_195) rfl ?_
    show Steps p.tables e below (s₁.setTop (mkF m 197 #[.val (.long p1), .second, .val (.int p2), .val (.int p3), .val (.int p4), .val (.int p5), .val (.long (1420070400 : Int64)), .second, .val (.long (-31557014167219200 : Int64)), .second, .val (.long (31556889864403199 : Int64)), .second, .val (.long ((31556889864403199 : Int64) - (1420070400 : Int64))), .second, .val (.long ((-31557014167219200 : Int64) - (1420070400 : Int64))), .second, .val (.long o5), .second, .val (.int k5), .val (.long dt), .second, .val (.int na), .val (.long (own_expd p1 p2 p3 p4 p5 ((31556889864403199 : Int64) - (1420070400 : Int64)) ((-31557014167219200 : Int64) - (1420070400 : Int64)) o5 k5 dt na)), .second] [(.int na), (.long dt)])) _
    exact hk
  obtain ⟨_, _, ⟨T14, L14, k14, n14⟩, -, X14, ⟨Lc14, hQ14, l14, y14, z14⟩, st14⟩ := Jvm.LawKit.callS X0 hx (y := (⟨"com/example/bitrun/bitrun/orc/timestamp/TimestampLayout", "second", "(JI)J"⟩ : MethodName)) hown (mvT hZ (hw _ (List.mem_of_getElem? (i := 3) rfl))) (mvT hZ (hw _ (List.mem_of_getElem? (i := 4) rfl))) (mvT hZ (hw _ (List.mem_of_getElem? (i := 5) rfl))) (mvT hZ (hw _ (List.mem_of_getElem? (i := 6) rfl))) (by decide) (backOf (W := 0) (rm1 l Z a0 hw [] dt na  h0 n0 Z0 SMX SMN) hZ (hw _ (List.mem_of_getElem? (i := 6) rfl)) (hw _ (List.mem_of_getElem? (i := 5) rfl)) (by decide) (by decide)) (g := (mkF m 197 #[.val (.long p1), .second, .val (.int p2), .val (.int p3), .val (.int p4), .val (.int p5), .val (.long (1420070400 : Int64)), .second, .val (.long (-31557014167219200 : Int64)), .second, .val (.long (31556889864403199 : Int64)), .second, .val (.long ((31556889864403199 : Int64) - (1420070400 : Int64))), .second, .val (.long ((-31557014167219200 : Int64) - (1420070400 : Int64))), .second, .val (.long o5), .second, .val (.int k5), .val (.long dt), .second, .val (.int na), .val (.long (own_expd p1 p2 p3 p4 p5 ((31556889864403199 : Int64) - (1420070400 : Int64)) ((-31557014167219200 : Int64) - (1420070400 : Int64)) o5 k5 dt na)), .second] [(.int na), (.long dt)])) rfl (by rw [hml]; rfl) (argsL := [(.long dt), (.int na)]) (rest := []) (lenOf (by decide +kernel : parseMethodDescriptor "(JI)J" = some ⟨[.long, .int], (some .long)⟩) rfl) rfl (by show 2 * 0 + _ ≤ _; exact Nat.le_of_eq rfl) (hb hby at_197) (fun _ _ => ⟨rfl, e0, (by decide : 0 + 0 ≤ _), (by decide : 0 + 0 ≤ _)⟩)
  dsimp only [Pt.U, Pt.locs, Pt.cells, Pt.slots] at X14 l14 y14 z14 st14 hQ14
  subst l14 y14 z14
  obtain ⟨rfl, Nq14, e14⟩ := hQ14
  have N14 := Fr.app N0 Nq14
  have K14 : ∀ t, Steps p.tables e below (T14.setTop (mkF m 200 #[.val (.long p1), .second, .val (.int p2), .val (.int p3), .val (.int p4), .val (.int p5), .val (.long (1420070400 : Int64)), .second, .val (.long (-31557014167219200 : Int64)), .second, .val (.long (31556889864403199 : Int64)), .second, .val (.long ((31556889864403199 : Int64) - (1420070400 : Int64))), .second, .val (.long ((-31557014167219200 : Int64) - (1420070400 : Int64))), .second, .val (.long o5), .second, .val (.int k5), .val (.long dt), .second, .val (.int na), .val (.long (own_expd p1 p2 p3 p4 p5 ((31556889864403199 : Int64) - (1420070400 : Int64)) ((-31557014167219200 : Int64) - (1420070400 : Int64)) o5 k5 dt na)), .second] [(.long (own_second dt na))])) t → Steps p.tables e below (s₁.setTop (entryFrame m #[(.long p1), (.int p2), (.int p3), (.int p4), (.int p5)] maxLocals)) t := fun t hk => K13 t (st14 _ hk)
  have K15 : ∀ t, Steps p.tables e below (T14.setTop (mkF m 203 #[.val (.long p1), .second, .val (.int p2), .val (.int p3), .val (.int p4), .val (.int p5), .val (.long (1420070400 : Int64)), .second, .val (.long (-31557014167219200 : Int64)), .second, .val (.long (31556889864403199 : Int64)), .second, .val (.long ((31556889864403199 : Int64) - (1420070400 : Int64))), .second, .val (.long ((-31557014167219200 : Int64) - (1420070400 : Int64))), .second, .val (.long o5), .second, .val (.int k5), .val (.long dt), .second, .val (.int na), .val (.long (own_expd p1 p2 p3 p4 p5 ((31556889864403199 : Int64) - (1420070400 : Int64)) ((-31557014167219200 : Int64) - (1420070400 : Int64)) o5 k5 dt na)), .second] [(.int (lcmpW (own_second dt na) (own_expd p1 p2 p3 p4 p5 ((31556889864403199 : Int64) - (1420070400 : Int64)) ((-31557014167219200 : Int64) - (1420070400 : Int64)) o5 k5 dt na)))])) t → Steps p.tables e below (s₁.setTop (entryFrame m #[(.long p1), (.int p2), (.int p3), (.int p4), (.int p5)] maxLocals)) t := by
    intro t hk
    refine K14 t ?_
    show Steps p.tables e below (T14.setTop (mkF m 200 #[.val (.long p1), .second, .val (.int p2), .val (.int p3), .val (.int p4), .val (.int p5), .val (.long (1420070400 : Int64)), .second, .val (.long (-31557014167219200 : Int64)), .second, .val (.long (31556889864403199 : Int64)), .second, .val (.long ((31556889864403199 : Int64) - (1420070400 : Int64))), .second, .val (.long ((-31557014167219200 : Int64) - (1420070400 : Int64))), .second, .val (.long o5), .second, .val (.int k5), .val (.long dt), .second, .val (.int na), .val (.long (own_expd p1 p2 p3 p4 p5 ((31556889864403199 : Int64) - (1420070400 : Int64)) ((-31557014167219200 : Int64) - (1420070400 : Int64)) o5 k5 dt na)), .second] [(.long (own_second dt na))])) _
    refine XS.lload X14.here hx rfl (hb hby at_200) rfl ?_
    show Steps p.tables e below (T14.setTop (mkF m 202 #[.val (.long p1), .second, .val (.int p2), .val (.int p3), .val (.int p4), .val (.int p5), .val (.long (1420070400 : Int64)), .second, .val (.long (-31557014167219200 : Int64)), .second, .val (.long (31556889864403199 : Int64)), .second, .val (.long ((31556889864403199 : Int64) - (1420070400 : Int64))), .second, .val (.long ((-31557014167219200 : Int64) - (1420070400 : Int64))), .second, .val (.long o5), .second, .val (.int k5), .val (.long dt), .second, .val (.int na), .val (.long (own_expd p1 p2 p3 p4 p5 ((31556889864403199 : Int64) - (1420070400 : Int64)) ((-31557014167219200 : Int64) - (1420070400 : Int64)) o5 k5 dt na)), .second] [(.long (own_expd p1 p2 p3 p4 p5 ((31556889864403199 : Int64) - (1420070400 : Int64)) ((-31557014167219200 : Int64) - (1420070400 : Int64)) o5 k5 dt na)), (.long (own_second dt na))])) _
    refine XS.lcmp X14.here hx rfl (hb hby at_202) rfl ?_
    show Steps p.tables e below (T14.setTop (mkF m 203 #[.val (.long p1), .second, .val (.int p2), .val (.int p3), .val (.int p4), .val (.int p5), .val (.long (1420070400 : Int64)), .second, .val (.long (-31557014167219200 : Int64)), .second, .val (.long (31556889864403199 : Int64)), .second, .val (.long ((31556889864403199 : Int64) - (1420070400 : Int64))), .second, .val (.long ((-31557014167219200 : Int64) - (1420070400 : Int64))), .second, .val (.long o5), .second, .val (.int k5), .val (.long dt), .second, .val (.int na), .val (.long (own_expd p1 p2 p3 p4 p5 ((31556889864403199 : Int64) - (1420070400 : Int64)) ((-31557014167219200 : Int64) - (1420070400 : Int64)) o5 k5 dt na)), .second] [(.int (lcmpW (own_second dt na) (own_expd p1 p2 p3 p4 p5 ((31556889864403199 : Int64) - (1420070400 : Int64)) ((-31557014167219200 : Int64) - (1420070400 : Int64)) o5 k5 dt na)))])) _
    exact hk
  have hc203 : (own_second dt na) = (own_expd p1 p2 p3 p4 p5 ((31556889864403199 : Int64) - (1420070400 : Int64)) ((-31557014167219200 : Int64) - (1420070400 : Int64)) o5 k5 dt na) := own_same p1 p2 p3 p4 p5 o5 k5 dt na
  have K16 : ∀ t, Steps p.tables e below (T14.setTop (mkF m 206 #[.val (.long p1), .second, .val (.int p2), .val (.int p3), .val (.int p4), .val (.int p5), .val (.long (1420070400 : Int64)), .second, .val (.long (-31557014167219200 : Int64)), .second, .val (.long (31556889864403199 : Int64)), .second, .val (.long ((31556889864403199 : Int64) - (1420070400 : Int64))), .second, .val (.long ((-31557014167219200 : Int64) - (1420070400 : Int64))), .second, .val (.long o5), .second, .val (.int k5), .val (.long dt), .second, .val (.int na), .val (.long (own_expd p1 p2 p3 p4 p5 ((31556889864403199 : Int64) - (1420070400 : Int64)) ((-31557014167219200 : Int64) - (1420070400 : Int64)) o5 k5 dt na)), .second] [])) t → Steps p.tables e below (s₁.setTop (entryFrame m #[(.long p1), (.int p2), (.int p3), (.int p4), (.int p5)] maxLocals)) t := by
    intro t hk
    refine K15 t ?_
    show Steps p.tables e below (T14.setTop (mkF m 203 #[.val (.long p1), .second, .val (.int p2), .val (.int p3), .val (.int p4), .val (.int p5), .val (.long (1420070400 : Int64)), .second, .val (.long (-31557014167219200 : Int64)), .second, .val (.long (31556889864403199 : Int64)), .second, .val (.long ((31556889864403199 : Int64) - (1420070400 : Int64))), .second, .val (.long ((-31557014167219200 : Int64) - (1420070400 : Int64))), .second, .val (.long o5), .second, .val (.int k5), .val (.long dt), .second, .val (.int na), .val (.long (own_expd p1 p2 p3 p4 p5 ((31556889864403199 : Int64) - (1420070400 : Int64)) ((-31557014167219200 : Int64) - (1420070400 : Int64)) o5 k5 dt na)), .second] [(.int (lcmpW (own_second dt na) (own_expd p1 p2 p3 p4 p5 ((31556889864403199 : Int64) - (1420070400 : Int64)) ((-31557014167219200 : Int64) - (1420070400 : Int64)) o5 k5 dt na)))])) _
    refine XS.ifNo X14.here hx rfl (hb hby at_203) rfl ((if0 _ _).trans (teq ((lw_eq _ _).mpr hc203)).2) ?_
    exact hk
  have K17 : ∀ t, Steps p.tables e below (T14.setTop (mkF m 211 #[.val (.long p1), .second, .val (.int p2), .val (.int p3), .val (.int p4), .val (.int p5), .val (.long (1420070400 : Int64)), .second, .val (.long (-31557014167219200 : Int64)), .second, .val (.long (31556889864403199 : Int64)), .second, .val (.long ((31556889864403199 : Int64) - (1420070400 : Int64))), .second, .val (.long ((-31557014167219200 : Int64) - (1420070400 : Int64))), .second, .val (.long o5), .second, .val (.int k5), .val (.long dt), .second, .val (.int na), .val (.long (own_expd p1 p2 p3 p4 p5 ((31556889864403199 : Int64) - (1420070400 : Int64)) ((-31557014167219200 : Int64) - (1420070400 : Int64)) o5 k5 dt na)), .second] [(.int (1 : Int32))])) t → Steps p.tables e below (s₁.setTop (entryFrame m #[(.long p1), (.int p2), (.int p3), (.int p4), (.int p5)] maxLocals)) t := by
    intro t hk
    refine K16 t ?_
    show Steps p.tables e below (T14.setTop (mkF m 206 #[.val (.long p1), .second, .val (.int p2), .val (.int p3), .val (.int p4), .val (.int p5), .val (.long (1420070400 : Int64)), .second, .val (.long (-31557014167219200 : Int64)), .second, .val (.long (31556889864403199 : Int64)), .second, .val (.long ((31556889864403199 : Int64) - (1420070400 : Int64))), .second, .val (.long ((-31557014167219200 : Int64) - (1420070400 : Int64))), .second, .val (.long o5), .second, .val (.int k5), .val (.long dt), .second, .val (.int na), .val (.long (own_expd p1 p2 p3 p4 p5 ((31556889864403199 : Int64) - (1420070400 : Int64)) ((-31557014167219200 : Int64) - (1420070400 : Int64)) o5 k5 dt na)), .second] [])) _
    refine XS.iconst X14.here hx rfl (hb hby at_206) ?_
    show Steps p.tables e below (T14.setTop (mkF m 207 #[.val (.long p1), .second, .val (.int p2), .val (.int p3), .val (.int p4), .val (.int p5), .val (.long (1420070400 : Int64)), .second, .val (.long (-31557014167219200 : Int64)), .second, .val (.long (31556889864403199 : Int64)), .second, .val (.long ((31556889864403199 : Int64) - (1420070400 : Int64))), .second, .val (.long ((-31557014167219200 : Int64) - (1420070400 : Int64))), .second, .val (.long o5), .second, .val (.int k5), .val (.long dt), .second, .val (.int na), .val (.long (own_expd p1 p2 p3 p4 p5 ((31556889864403199 : Int64) - (1420070400 : Int64)) ((-31557014167219200 : Int64) - (1420070400 : Int64)) o5 k5 dt na)), .second] [(.int (1 : Int32))])) _
    refine XS.goto X14.here hx rfl (pc0 := 207) (pc' := 211) rfl (hb hby at_207) (by decide) (by decide) ?_
    show Steps p.tables e below (T14.setTop (mkF m 211 #[.val (.long p1), .second, .val (.int p2), .val (.int p3), .val (.int p4), .val (.int p5), .val (.long (1420070400 : Int64)), .second, .val (.long (-31557014167219200 : Int64)), .second, .val (.long (31556889864403199 : Int64)), .second, .val (.long ((31556889864403199 : Int64) - (1420070400 : Int64))), .second, .val (.long ((-31557014167219200 : Int64) - (1420070400 : Int64))), .second, .val (.long o5), .second, .val (.int k5), .val (.long dt), .second, .val (.int na), .val (.long (own_expd p1 p2 p3 p4 p5 ((31556889864403199 : Int64) - (1420070400 : Int64)) ((-31557014167219200 : Int64) - (1420070400 : Int64)) o5 k5 dt na)), .second] [(.int (1 : Int32))])) _
    exact hk
  obtain ⟨fs, hr, hrun, hended, hW, hsame⟩ := X14.leave (v := some (.int (1 : Int32))) (fun h => by rw [Bd.returns] at h; cases h) Bd.notSynchronized
  exact ⟨_, _, K17 _ (retN X14 hx (t := .boolean) Bd.returns (by simp) (hb hby at_211) hr), hrun, hended, _, _, rfl, ⟨rfl, N14⟩, ⟨_, rfl⟩, hW, hsame.mono (by decide) (by decide)⟩
set_option maxRecDepth 65536 in
set_option maxHeartbeats 40000000 in
theorem comes_1 {Post : Tables → Env → Array Value → State → Outcome → State → Prop} (hpost : ∀ tb e args s v u, (limb_1_1.after args s (.returned v) u = true ∧ limb_1_2.after args s (.returned v) u = true ∧ True) → FrameEnd s (.returned v) u (Jvm.fieldLocs frame_1_writes args s ++ Jvm.arrayLocs frame_1_arrays args s ++ Jvm.staticLocs frame_1_statics s) 0 0 → Post tb e args s (.returned v) u) :
    ArmFor flags0 classFile x code maxLocals ret World_1 tables_1 room_1 Calls_1 rest_1 Pre_1 Post := by
  intro l hfl _ _ p e ha hc hk s m args below hf hA hF happ hP
  obtain ⟨hcalls, hrest, hpre⟩ := hP
  obtain ⟨-, -, -, hnamed, -, -, -, hat⟩ := (Spec.applies_iff hf).mp happ
  obtain ⟨hg, hn⟩ := and_e (Cond.before_iff.mp (show (Jvm.Cond.and given_1 narrow_1).before args s = true from hpre))
  obtain ⟨gc, gr⟩ := and_e hg
  obtain ⟨ga0, gr⟩ := and_e gr
  obtain ⟨ga1, gr⟩ := and_e gr
  obtain ⟨ga2, gr⟩ := and_e gr
  obtain ⟨ga3, gr⟩ := and_e gr
  obtain ⟨w0, w1, w2, w3, w4, rfl⟩ : ∃ w0 w1 w2 w3 w4 : Value, args = #[w0, w1, w2, w3, w4] := by
    have hs : args.size = 5 := by simpa [Cond.value, given_1] using gc
    obtain ⟨L⟩ := args
    match L, hs with
    | [w0, w1, w2, w3, w4], _ => exact ⟨w0, w1, w2, w3, w4, rfl⟩
  have hw := fun d (hd : d ∈ tables_1) => atoms_spec (ws := Jvm.Cond.code x code maxLocals ret :: tables_1) hat d (List.mem_cons_of_mem _ hd)
  have hfit : Fit s := fun {y c} hc i hi => by
    obtain ⟨ha, rfl⟩ := Array.getElem?_eq_some_iff.mp hc
    have q := List.all_eq_true.mp ((Array.all_eq_true_iff_forall_mem.mp hF) _ (Array.getElem_mem ha)) i (List.mem_range.mpr hi)
    simpa [Array.getElem?_eq_getElem hi] using q
  obtain ⟨i0, ei0⟩ := isL_v ga0
  obtain rfl : w0 = (.long i0) := Option.some.inj ei0
  obtain ⟨i1, ei1⟩ := is_v ga1
  obtain rfl : w1 = (.int i1) := Option.some.inj ei1
  obtain ⟨i2, ei2⟩ := is_v ga2
  obtain rfl : w2 = (.int i2) := Option.some.inj ei2
  obtain ⟨i3, ei3⟩ := is_v ga3
  obtain rfl : w3 = (.int i3) := Option.some.inj ei3
  obtain ⟨i4, ei4⟩ := is_v gr
  obtain rfl : w4 = (.int i4) := Option.some.inj ei4
  obtain ⟨hn1, hn2⟩ := and_e hn
  have SX := Sta.start (own_eqL hn1) (Or.inr ⟨(hw _ (List.mem_of_getElem? (i := 5) rfl)), (hw _ (List.mem_of_getElem? (i := 9) rfl))⟩)
  have SN := Sta.start (own_eqL hn2) (Or.inr ⟨(hw _ (List.mem_of_getElem? (i := 5) rfl)), (hw _ (List.mem_of_getElem? (i := 12) rfl))⟩)
  obtain ⟨n, o, h1, h2, h3, _, L, rfl, ⟨rfl, N⟩, hq⟩ := rm0 l s _ hw tables_1 i0 i1 i2 i3 i4  s.heap s.heap.size (Nat.le_refl _) SX SN p e ha hc hk s m _ below hf ((Spec.applies_iff_loose hf).mp happ).1 ⟨rfl, State.Warmed39.refl s, rfl⟩ trivial
  refine ⟨n, _, h1, h2, h3, hpost _ _ _ _ _ _ ⟨Cond.after_iff.mpr rfl, Cond.after_iff.mpr (eq_i res_at (Term.int_eval (1)) rfl), trivial⟩ ⟨hq.1, hq.2.1, (hq.2.2.sift fun y hy => Or.inr (N y hy)).mono (by decide) (by decide)⟩⟩
theorem main_1_1 : Claimed_1_1 := comes_1 fun _ _ _ _ _ _ h hF => ⟨h.1, hF⟩
theorem main_1_2 : Claimed_1_2 := comes_1 fun _ _ _ _ _ _ h hF => ⟨h.2.1, hF⟩
end Jvm.Pilot.@@N@@
namespace Jvm.Pilot.@@N@@
open Jvm Jvm.ClassFile Sem Op Lib Jvm.Free Jvm.Stand Jvm.Pilot.@@N@@.Jvm.D
/-! MADE BY PROGRAM (witnessworld.py) out of the Statement's table words and the real class files: 9 classes; the members and pool entries that the words name. The judged class is class 1, her method 1. -/
namespace start1
open Jvm.ClassFile
def u (s : String) : CpInfo := .utf8 (stringToUtf16 s)
/-- a pool by its gaps: so many unusable entries, then the entry; so many at the end -/
def gap : Nat → List CpInfo → List CpInfo
  | 0, r => r
  | n + 1, r => .unusable :: gap n r
def poolList (es : List (Nat × CpInfo)) (last : Nat) : List CpInfo := es.foldr (fun e r => gap e.1 (e.2 :: r)) (gap last [])
def pool (es : List (Nat × CpInfo)) (last : Nat) : Array CpInfo := ⟨poolList es last⟩
def fileOf (pool : Array CpInfo) (this : Nat) (attrs : Array Attribute := #[]) (ms : Array MethodInfo := #[]) (fl : Nat := 33) (sup : Nat := 0) (ifs : Array Nat := #[]) (fds : Array FieldInfo := #[]) : ClassFile where
  minorVersion := 0
  majorVersion := 65
  constantPool := pool
  accessFlags := fl
  thisClass := this
  superClass := sup
  interfaces := ifs
  fields := fds
  methods := ms
  attributes := attrs
def plain (name : String) (sup : Option ClassId) : Class where
  name := name
  kind := .ordinary
  loader := none
  accessFlags := 33
  super := sup
  interfaces := #[]
  cf := none
  fields := #[]
  methods := #[]
  instanceTypes := #[]
  staticTypes := #[]
  resolved := #[]
  callSites := []
  init := .initialized
  statics := none
  mirror := none

def pool0 : Array CpInfo := pool [(5, u "<init>"), (0, u "()V"), (1, .class_ 10), (1, u "java/lang/Object")] 113

def k0m0 : Method := { name := "<init>", desc := "()V", sig := { parameters := [], returnType := none }, accessFlags := 1, code := none }
/-- java/lang/Object -/
def k0 : Class := { plain "java/lang/Object" none with
  accessFlags := 33
  interfaces := #[]
  cf := some (fileOf pool0 8 #[] #[{ accessFlags := 1, nameIndex := 5, descriptorIndex := 6, attributes := #[] }] 33 0 #[] #[])
  fields := #[]
  methods := #[k0m0]
  instanceTypes := #[]
  staticTypes := #[]
  resolved := Array.replicate 124 none
  statics := none }

def pool1 : Array CpInfo := pool [(2, .class_ 4), (1, u "java/lang/Object"), (0, u "<init>"), (0, u "()V"), (0, .long 1420070400), (1, .long 18415187059542332416), (1, .long 31556889864403199), (1, .integer 999998), (2, .long 9223372036854775808), (1, .integer 1000000), (0, .methodref 20 21), (0, .class_ 22), (0, .nameAndType 23 24), (0, u "com/example/bitrun/bitrun/orc/timestamp/TimestampLayout"), (0, u "second"), (0, u "(JI)J"), (0, .class_ 26), (0, u "com/example/bitrun/bitrun/orc/timestamp/TimestampLayoutSecondPinLaw"), (2, u "law"), (0, u "(JIIII)Z")] 3

def k1m0 : Method := { name := "<init>", desc := "()V", sig := { parameters := [], returnType := none }, accessFlags := 1, code := none }
def k1c1 : Code := { maxStack := 4, maxLocals := 24, code := code, exceptionTable := #[], attributes := #[] }
def k1m1 : Method := { name := "law", desc := "(JIIII)Z", sig := { parameters := [.long, .int, .int, .int, .int], returnType := some .boolean }, accessFlags := 9, code := some k1c1 }
/-- com/example/bitrun/bitrun/orc/timestamp/TimestampLayoutSecondPinLaw -/
def k1 : Class := { plain "com/example/bitrun/bitrun/orc/timestamp/TimestampLayoutSecondPinLaw" (some 0) with
  accessFlags := 49
  interfaces := #[]
  cf := some (fileOf pool1 25 #[] #[{ accessFlags := 1, nameIndex := 5, descriptorIndex := 6, attributes := #[] }, { accessFlags := 9, nameIndex := 29, descriptorIndex := 30, attributes := #[] }] 49 2 #[] #[])
  fields := #[]
  methods := #[k1m0, k1m1]
  instanceTypes := #[]
  staticTypes := #[]
  resolved := Array.replicate 34 none
  statics := none }

def pool2 : Array CpInfo := pool [(4, .class_ 6), (1, u "java/lang/Object"), (0, u "<init>"), (0, u "()V"), (0, .class_ 10), (0, u "com/example/bitrun/bitrun/orc/timestamp/TimestampLayout"), (0, .integer 1000000), (0, .long 1420070400), (1, .long 9223372036854775808), (1, .fieldref 9 17), (0, .nameAndType 18 19), (0, u "MAX_SECOND"), (0, u "J"), (0, .fieldref 9 21), (0, .nameAndType 22 19), (0, u "MIN_SECOND"), (6, u "SCALES"), (0, u "[J"), (27, u "BASE_SECOND"), (1, u "NANOS_PER_SECOND"), (0, u "I"), (1, u "NANOS_PER_MILLI"), (0, u "NO_SECOND"), (3, u "(JI)J"), (1, u "second")] 7

def k2m0 : Method := { name := "<init>", desc := "()V", sig := { parameters := [], returnType := none }, accessFlags := 2, code := none }
def k2c1 : Code := { maxStack := 6, maxLocals := 7, code := prog_83_method_3_code, exceptionTable := #[], attributes := #[] }
def k2m1 : Method := { name := "second", desc := "(JI)J", sig := { parameters := [.long, .int], returnType := some .long }, accessFlags := 8, code := some k2c1 }
/-- com/example/bitrun/bitrun/orc/timestamp/TimestampLayout -/
def k2 : Class := { plain "com/example/bitrun/bitrun/orc/timestamp/TimestampLayout" (some 0) with
  accessFlags := 48
  interfaces := #[]
  cf := some (fileOf pool2 9 #[] #[{ accessFlags := 2, nameIndex := 7, descriptorIndex := 8, attributes := #[] }, { accessFlags := 8, nameIndex := 70, descriptorIndex := 68, attributes := #[] }] 48 4 #[] #[{ accessFlags := 24, nameIndex := 58, descriptorIndex := 19, attributes := #[] }, { accessFlags := 24, nameIndex := 60, descriptorIndex := 61, attributes := #[] }, { accessFlags := 24, nameIndex := 63, descriptorIndex := 61, attributes := #[] }, { accessFlags := 24, nameIndex := 22, descriptorIndex := 19, attributes := #[] }, { accessFlags := 24, nameIndex := 18, descriptorIndex := 19, attributes := #[] }, { accessFlags := 24, nameIndex := 64, descriptorIndex := 19, attributes := #[] }, { accessFlags := 24, nameIndex := 29, descriptorIndex := 30, attributes := #[] }])
  fields := #[{ name := "BASE_SECOND", type := .long, accessFlags := 24, slot := 0, constantValue := 0 }, { name := "NANOS_PER_SECOND", type := .int, accessFlags := 24, slot := 1, constantValue := 0 }, { name := "NANOS_PER_MILLI", type := .int, accessFlags := 24, slot := 2, constantValue := 0 }, { name := "MIN_SECOND", type := .long, accessFlags := 24, slot := 3, constantValue := 0 }, { name := "MAX_SECOND", type := .long, accessFlags := 24, slot := 4, constantValue := 0 }, { name := "NO_SECOND", type := .long, accessFlags := 24, slot := 5, constantValue := 0 }, { name := "SCALES", type := (.array .long), accessFlags := 24, slot := 6, constantValue := 0 }]
  methods := #[k2m0, k2m1]
  instanceTypes := #[]
  staticTypes := #[.long, .int, .int, .long, .long, .long, (.array .long)]
  resolved := Array.replicate 78 none
  statics := some 0 }

def pool3 : Array CpInfo := pool [(1, u "java/lang/Cloneable"), (0, .class_ 1), (0, u "java/lang/Object"), (0, .class_ 3)] 3

/-- java/lang/Cloneable -/
def k3 : Class := { plain "java/lang/Cloneable" (some 0) with
  accessFlags := 1537
  interfaces := #[]
  cf := some (fileOf pool3 2 #[] #[] 1537 4 #[] #[])
  fields := #[]
  methods := #[]
  instanceTypes := #[]
  staticTypes := #[]
  resolved := Array.replicate 8 none
  statics := none }

def pool4 : Array CpInfo := pool [(1, u "java/io/Serializable"), (0, .class_ 1), (0, u "java/lang/Object"), (0, .class_ 3)] 3

/-- java/io/Serializable -/
def k4 : Class := { plain "java/io/Serializable" (some 0) with
  accessFlags := 1537
  interfaces := #[]
  cf := some (fileOf pool4 2 #[] #[] 1537 4 #[] #[])
  fields := #[]
  methods := #[]
  instanceTypes := #[]
  staticTypes := #[]
  resolved := Array.replicate 8 none
  statics := none }

/-- the primitive byte -/
def k5 : Class := { plain "byte" none with kind := .primitive 'B', accessFlags := 0x411 }
/-- [B -/
def k6 : Class := { plain "[B" (some 0) with kind := .array 5 .byte, interfaces := #[3, 4], accessFlags := 1041 }

/-- the primitive int -/
def k7 : Class := { plain "int" none with kind := .primitive 'I', accessFlags := 0x411 }
/-- [I -/
def k8 : Class := { plain "[I" (some 0) with kind := .array 7 .int, interfaces := #[3, 4], accessFlags := 1041 }

def heap : Heap := #[{ cls := 2, slots := #[.long 0, .int 0, .int 0, .long (-31557014167219200), .long 31556889864403199, .long 0, .null], vm := .statics 2 }]
def classes : Array Class := #[k0, k1, k2, k3, k4, k5, k6, k7, k8]
def interned : List (Array UInt16 × Addr) := []
def slotsUsed : Nat := 7
def theMethod : MethodId := ⟨1, 1⟩
def args0 : Array Value := #[.long 5, .int 1, .int 2, .int 3, .int 4]
def aboutOver (below : List Frame) : State where
  vm := { classes := classes, interned := interned.toArray }
  heap := heap
  slotsUsed := slotsUsed
  threads := #[{ frames := .invoking theMethod args0 :: below }]
def below0 : List Frame := [.native { method := ⟨0, 0⟩, args := #[] }]
def about1 : State := aboutOver below0
def p0 : Program := .bare "" "" ""
def e0 : Env := launch0.env 0 0 0
theorem w_frames : about1.frames = Frame.invoking theMethod args0 :: below0 := rfl
set_option maxRecDepth 65536 in
theorem w_args : argsFit about1.vm theMethod args0 = true := by decide +kernel
set_option maxRecDepth 65536 in
theorem w_heap : heapFits about1 = true := by decide +kernel
set_option maxRecDepth 65536 in
theorem w_runnable : about1.curStatus? = some .runnable := by decide +kernel
set_option maxRecDepth 65536 in
theorem w_alone : about1.alone = true := by decide +kernel
set_option maxRecDepth 65536 in
theorem w_named : about1.methodNamed? x = some theMethod := by decide +kernel
set_option maxRecDepth 65536 in
theorem w_hears : about1.hears theMethod below0 = true := by decide +kernel
set_option maxRecDepth 65536 in
theorem w_ripe : about1.ripe theMethod args0 below0 = true := by decide +kernel
theorem w_running : about1.status = .running := rfl
set_option maxRecDepth 65536 in
theorem w_room : about1.hasRoom e0.platform room_1 = true :=
  launch0.hasRoom_least _ room_1 (by decide +kernel) (by decide +kernel) (by decide +kernel) (by decide +kernel) (by decide +kernel) (by decide +kernel)
theorem allAtoms_all (ts : List Jvm.Cond) (a : Array Jvm.Value) (st : Jvm.State) : (allAtoms ts).before a st = ts.all (fun c => c.before a st) := by
  induction ts with
  | nil => rfl
  | cons c t ih =>
    show (Jvm.Cond.and c (allAtoms t)).before a st = _
    rw [Jvm.Cond.before_and, ih, List.all_cons]
def words1 : List Jvm.Cond := Jvm.Cond.code x code maxLocals ret :: tables_1
/-- a 'code' word, met by the world's own term for the bytes: nothing is compared byte by byte -/
theorem code_word {y : MethodName} {bytes : ByteArray} {mx : Nat} {rt : Option FieldType} {a : Array Value} {s : State} {m : MethodId} {meth : Method} {c : Code} (h1 : s.methodNamed? y = some m) (h2 : s.vm.method? m = some meth) (h3 : meth.code = some c) (h4 : c.code = bytes)
    (h5 : (c.maxLocals == mx && c.exceptionTable.isEmpty && decide (c.maxStack ≤ mostOperands) && decide (meth.sig.returnType = rt) && !meth.locks && decide (parseMethodDescriptor y.desc = some meth.sig)) = true) : (Jvm.Cond.code y bytes mx rt).before a s = true := by
  simp only [Bool.and_eq_true, beq_iff_eq, Bool.not_eq_true', decide_eq_true_eq] at h5
  obtain ⟨⟨⟨⟨⟨g1, g2⟩, g3⟩, g4⟩, g5⟩, g6⟩ := h5
  simp [Cond.before, Cond.holds, Cond.value, h1, h2, h3, h4, g1, g2, g3, g4, g5, g6]
def isCode : Jvm.Cond → Bool
  | .code _ _ _ _ => true
  | _ => false
theorem all_split {L : List Jvm.Cond} {P : Jvm.Cond → Bool} (h1 : L.all (fun c => isCode c || P c) = true) (h2 : ∀ c ∈ L.filter isCode, P c = true) : L.all P = true := by
  refine List.all_eq_true.mpr fun c hc => ?_
  have h := List.all_eq_true.mp h1 c hc
  rcases Bool.eq_false_or_eq_true (isCode c) with hi | hi
  · exact h2 c (List.mem_filter.mpr ⟨hc, hi⟩)
  · simpa [hi] using h
set_option maxRecDepth 65536 in
theorem w_c0 : (Jvm.Cond.code x code maxLocals ret).before args0 about1 = true := code_word (m := ⟨1, 1⟩) (meth := k1m1) (c := k1c1) (by decide +kernel) rfl rfl rfl (by decide +kernel)
set_option maxRecDepth 65536 in
theorem w_c1 : (Jvm.Cond.code ({ cls := "com/example/bitrun/bitrun/orc/timestamp/TimestampLayout", name := "second", desc := "(JI)J" } : Jvm.MethodName) prog_83_method_3_code (7 : Nat) (Option.some Jvm.ClassFile.FieldType.long)).before args0 about1 = true := code_word (m := ⟨2, 1⟩) (meth := k2m1) (c := k2c1) (by decide +kernel) rfl rfl rfl (by decide +kernel)
def codes1 : List Jvm.Cond := [Jvm.Cond.code x code maxLocals ret, Jvm.Cond.code ({ cls := "com/example/bitrun/bitrun/orc/timestamp/TimestampLayout", name := "second", desc := "(JI)J" } : Jvm.MethodName) prog_83_method_3_code (7 : Nat) (Option.some Jvm.ClassFile.FieldType.long)]
set_option maxRecDepth 65536 in
theorem codes_eq : words1.filter isCode = codes1 := rfl
theorem w_codes : ∀ c ∈ words1.filter isCode, c.before args0 about1 = true := by
  rw [codes_eq]
  intro c hc
  simp only [codes1, List.mem_cons, List.not_mem_nil, or_false] at hc
  rcases hc with rfl | rfl
  · exact w_c0
  · exact w_c1
set_option maxRecDepth 65536 in
theorem w_t1 : words1.all (fun c => isCode c || c.before args0 about1) = true := by decide +kernel
theorem w_tables : (allAtoms (Jvm.Cond.code x code maxLocals ret :: tables_1)).before args0 about1 = true := by
  rw [allAtoms_all]
  show words1.all (fun c => c.before args0 about1) = true
  refine all_split ?_ w_codes
  rw [w_t1]
set_option maxRecDepth 65536 in
theorem w_case : (Jvm.Cond.and given_1 narrow_1).before args0 about1 = true := by decide +kernel
theorem w_applies : (headSpec (Jvm.Cond.code x code maxLocals ret :: tables_1) room_1).applies x e0.platform about1 = true :=
  (Spec.applies_iff w_frames).mpr ⟨w_running, w_runnable, w_alone, w_named, w_hears, w_ripe, w_room, w_tables⟩
theorem atStart : AtStart classFile x code maxLocals ret World_1 tables_1 room_1 Calls_1 rest_1 Pre_1 launch0 p0 e0 about1 theMethod args0 below0 :=
  ⟨lists_1, trivial, launch0.admits_env _ _ _, launch0.least_env, fairChoices_fair.cas, fairChoices_fair.clock, w_frames, w_args, w_heap, w_applies, trivial, trivial, w_case⟩
end start1
theorem witness_1 : WitnessClaimed_1 := ⟨start1.p0, start1.e0, start1.about1, start1.theMethod, start1.args0, start1.below0, start1.atStart⟩
end Jvm.Pilot.@@N@@
