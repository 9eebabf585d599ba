import JvmDerived
import JvmDerived.Pilot.@@N@@Statement
import JvmDerived.Pilot.@@N@@Code
set_option linter.unusedVariables false
set_option linter.unusedSimpArgs false
namespace Jvm.RoadKit
open Sem ClassFile Op Lib Jvm.Stand Jvm.Free Jvm.LawKit
section New
variable {p : Program} {l : Launch} {e : Env} {R : Room} {s : State} {m : MethodId} {args : Array Value} {below : List Frame} {meth : Method} {c : Code} {T : State} {locs : List Loc} {cells slots : Nat}
theorem retI (X : Stand p l e R s m args below meth c T locs cells slots) (hx : p.tables.exec = Jvm.exec) {pc : Nat} {Ls : Array Slot} {z : Int32} {rest : List Value} (hret : meth.sig.returnType = some .int) (hd : decode c.code pc = .ok (.ireturn, 1)) {fs : List Frame}
    (hl : ∀ (f : JFrame) (acts : List Action), f.method = m → f.locked = none → f.entered = [] → (doReturn e (T.setTop f) acts (some (.int z))).1 = T.setFrames fs) : Steps p.tables e below (T.setTop (mkF m pc Ls (.int z :: rest))) (T.setFrames fs) := by
  have hm' : T.vm.method? m = some meth := X.method'
  have hn : narrow .int (.int z) = .int z := rfl
  show Steps p.tables e below (T.setTop { method := m, pc := pc, locals := Ls, stack := _ :: rest, locked := none }) _
  jvm_step X.here [X.here.top, hx, hd, hm', hret, hn]
  first | (intro acts; rw [hl _ acts rfl rfl rfl]) | rw [hl _ _ rfl rfl rfl]
  exact Steps.refl _
end New
end Jvm.RoadKit
namespace Jvm.Pilot.@@N@@
open Jvm Jvm.ClassFile Sem Op Lib Jvm.Free Jvm.Stand Jvm.LawKit Jvm.RoadKit Bundle Jvm.Pilot.@@N@@.Jvm.D
abbrev lv (x : Int64) : Slot := .val (.long x)
def own_R (p : Program) (e : Env) (below : List Frame) (A B : State) : Prop := ∀ t, Steps p.tables e below A t → Steps p.tables e below B t
theorem own_stI {p : Program} {l : Launch} {e : Env} {R : Room} {s : State} {m : MethodId} {args : Array Value} {below : List Frame} {meth : Method} {c : Code} {T : State} {locs : List Loc} {cells slots : Nat} {Z : State} {h : Heap} {a : Addr} {k : ClassId} {z : Int32} {vs : List Value} {dv : Value}
    (X : Stand p l e R s m args below meth c T locs cells slots) (hx : p.tables.exec = Jvm.exec) (hZ : Z.Warmed39 s.vm) (eT : T.heap = h) (V : Arv Z h a k .int z vs dv) {j : Int32} (i : Nat) (hj : j.toNatClampNeg = i) (hb : ¬ j < 0 ∧ j < z) (hi : i < vs.length) {x : Int32} {g : JFrame} (hg : g.method = m) {rest : List Value} (hs : g.stack = .int x :: .int j :: .ref a :: rest) (hd : decode c.code g.pc = .ok (.iastore, 1)) :
    ∃ T' h', Stand p l e R s m args below meth c T' (locs ++ [⟨a, j.toNatClampNeg⟩]) cells slots ∧ T'.heap = h' ∧ Wr h h' a j.toNatClampNeg (.int x) ∧ Arv Z h' a k .int z (vs.set i (.int x)) dv ∧ ∀ target, Steps p.tables e below (T'.setTop { g with pc := g.pc + 1, stack := rest }) target → Steps p.tables e below (T.setTop g) target := by
  obtain ⟨cl, Ar, q, S, M, H, G⟩ := V
  obtain ⟨T', h', X', e', W, st⟩ := Jvm.RoadKit.stI X hx hZ eT Ar (j := j) (inb_of S hb) hg hs hd
  exact ⟨T', h', X', e', W, Arv.set Ar q S M H G rfl W i hj hi, st⟩
theorem own_ldI {p : Program} {l : Launch} {e : Env} {R : Room} {s : State} {m : MethodId} {args : Array Value} {below : List Frame} {meth : Method} {c : Code} {T : State} {locs : List Loc} {cells slots : Nat} {Z : State} {h : Heap} {a : Addr} {k : ClassId} {z : Int32} {vs : List Value} {dv : Value}
    (X : Stand p l e R s m args below meth c T locs cells slots) (hx : p.tables.exec = Jvm.exec) (hZ : Z.Warmed39 s.vm) (eT : T.heap = h) (V : Arv Z h a k .int z vs dv) {j : Int32} (hb : ¬ j < 0 ∧ j < z) {g : JFrame} (hg : g.method = m) {rest : List Value} (hs : g.stack = .int j :: .ref a :: rest) (hd : decode c.code g.pc = .ok (.iaload, 1)) :
    ∃ w, vs.getD j.toNatClampNeg dv = .int w ∧ ∀ target, Steps p.tables e below (T.setTop { g with pc := g.pc + 1, stack := .int w :: rest }) target → Steps p.tables e below (T.setTop g) target := by
  obtain ⟨cl, Ar, q, S, M, H, G⟩ := V
  have hin := inb_of S hb
  have hlt : j.toNatClampNeg < cl.slots.size := Nat.lt_of_not_le fun q => hin (Or.inr q)
  obtain ⟨w, hw⟩ := fit_I (G _ hlt) (by simp)
  exact ⟨w, hw, X.iaload hx (j := j) (v := .int w) (by rw [eT]; exact Ar.1) (State.isArrayOf_alike hZ.alike Ar.2.1) Ar.2.2 hin (by rw [H _ hlt, hw]) hg hs hd⟩
theorem own_stJ {p : Program} {l : Launch} {e : Env} {R : Room} {s : State} {m : MethodId} {args : Array Value} {below : List Frame} {meth : Method} {c : Code} {T : State} {locs : List Loc} {cells slots : Nat} {Z : State} {h : Heap} {a : Addr} {k : ClassId} {z : Int32} {vs : List Value} {dv : Value}
    (X : Stand p l e R s m args below meth c T locs cells slots) (hx : p.tables.exec = Jvm.exec) (hZ : Z.Warmed39 s.vm) (eT : T.heap = h) (V : Arv Z h a k .long z vs dv) {j : Int32} (i : Nat) (hj : j.toNatClampNeg = i) (hb : ¬ j < 0 ∧ j < z) (hi : i < vs.length) {x : Int64} {g : JFrame} (hg : g.method = m) {rest : List Value} (hs : g.stack = .long x :: .int j :: .ref a :: rest) (hd : decode c.code g.pc = .ok (.lastore, 1)) :
    ∃ T' h', Stand p l e R s m args below meth c T' (locs ++ [⟨a, j.toNatClampNeg⟩]) cells slots ∧ T'.heap = h' ∧ Wr h h' a j.toNatClampNeg (.long x) ∧ Arv Z h' a k .long z (vs.set i (.long x)) dv ∧ ∀ target, Steps p.tables e below (T'.setTop { g with pc := g.pc + 1, stack := rest }) target → Steps p.tables e below (T.setTop g) target := by
  obtain ⟨cl, Ar, q, S, M, H, G⟩ := V
  obtain ⟨T', h', X', e', W, st⟩ := Jvm.RoadKit.stJ X hx hZ eT Ar (j := j) (inb_of S hb) hg hs hd
  exact ⟨T', h', X', e', W, Arv.set Ar q S M H G rfl W i hj hi, st⟩
theorem own_ldJ {p : Program} {l : Launch} {e : Env} {R : Room} {s : State} {m : MethodId} {args : Array Value} {below : List Frame} {meth : Method} {c : Code} {T : State} {locs : List Loc} {cells slots : Nat} {Z : State} {h : Heap} {a : Addr} {k : ClassId} {z : Int32} {vs : List Value} {dv : Value}
    (X : Stand p l e R s m args below meth c T locs cells slots) (hx : p.tables.exec = Jvm.exec) (hZ : Z.Warmed39 s.vm) (eT : T.heap = h) (V : Arv Z h a k .long z vs dv) {j : Int32} (hb : ¬ j < 0 ∧ j < z) {g : JFrame} (hg : g.method = m) {rest : List Value} (hs : g.stack = .int j :: .ref a :: rest) (hd : decode c.code g.pc = .ok (.laload, 1)) :
    ∃ w, vs.getD j.toNatClampNeg dv = .long w ∧ ∀ target, Steps p.tables e below (T.setTop { g with pc := g.pc + 1, stack := .long w :: rest }) target → Steps p.tables e below (T.setTop g) target := by
  obtain ⟨cl, Ar, q, S, M, H, G⟩ := V
  have hin := inb_of S hb
  have hlt : j.toNatClampNeg < cl.slots.size := Nat.lt_of_not_le fun q => hin (Or.inr q)
  obtain ⟨w, hw⟩ := fit_J (G _ hlt)
  exact ⟨w, hw, X.laload hx (j := j) (v := .long w) (by rw [eT]; exact Ar.1) (State.isArrayOf_alike hZ.alike Ar.2.1) Ar.2.2 hin (by rw [H _ hlt, hw]) hg hs hd⟩
theorem own_stB {p : Program} {l : Launch} {e : Env} {R : Room} {s : State} {m : MethodId} {args : Array Value} {below : List Frame} {meth : Method} {c : Code} {T : State} {locs : List Loc} {cells slots : Nat} {Z : State} {h : Heap} {a : Addr} {k : ClassId} {z : Int32} {vs : List Value} {dv : Value}
    (X : Stand p l e R s m args below meth c T locs cells slots) (hx : p.tables.exec = Jvm.exec) (hZ : Z.Warmed39 s.vm) (eT : T.heap = h) (V : Arv Z h a k .byte z vs dv) {j : Int32} (i : Nat) (hj : j.toNatClampNeg = i) (hb : ¬ j < 0 ∧ j < z) (hi : i < vs.length) {x : Int32} {g : JFrame} (hg : g.method = m) {rest : List Value} (hs : g.stack = .int x :: .int j :: .ref a :: rest) (hd : decode c.code g.pc = .ok (.bastore, 1)) :
    ∃ T' h', Stand p l e R s m args below meth c T' (locs ++ [⟨a, j.toNatClampNeg⟩]) cells slots ∧ T'.heap = h' ∧ Wr h h' a j.toNatClampNeg (.int (nar .byte x)) ∧ Arv Z h' a k .byte z (vs.set i (.int (nar .byte x))) dv ∧ ∀ target, Steps p.tables e below (T'.setTop { g with pc := g.pc + 1, stack := rest }) target → Steps p.tables e below (T.setTop g) target := by
  obtain ⟨cl, Ar, q, S, M, H, G⟩ := V
  obtain ⟨T', h', X', e', W, st⟩ := Jvm.RoadKit.stB X hx hZ eT Ar (j := j) (inb_of S hb) hg hs hd
  exact ⟨T', h', X', e', W, Arv.set Ar q S M H G (fits_nar_byte x) W i hj hi, st⟩
theorem own_ldB {p : Program} {l : Launch} {e : Env} {R : Room} {s : State} {m : MethodId} {args : Array Value} {below : List Frame} {meth : Method} {c : Code} {T : State} {locs : List Loc} {cells slots : Nat} {Z : State} {h : Heap} {a : Addr} {k : ClassId} {z : Int32} {vs : List Value} {dv : Value}
    (X : Stand p l e R s m args below meth c T locs cells slots) (hx : p.tables.exec = Jvm.exec) (hZ : Z.Warmed39 s.vm) (eT : T.heap = h) (V : Arv Z h a k .byte z vs dv) {j : Int32} (hb : ¬ j < 0 ∧ j < z) {g : JFrame} (hg : g.method = m) {rest : List Value} (hs : g.stack = .int j :: .ref a :: rest) (hd : decode c.code g.pc = .ok (.baload, 1)) :
    ∃ w, vs.getD j.toNatClampNeg dv = .int w ∧ ∀ target, Steps p.tables e below (T.setTop { g with pc := g.pc + 1, stack := .int w :: rest }) target → Steps p.tables e below (T.setTop g) target := by
  obtain ⟨cl, Ar, q, S, M, H, G⟩ := V
  have hin := inb_of S hb
  have hlt : j.toNatClampNeg < cl.slots.size := Nat.lt_of_not_le fun q => hin (Or.inr q)
  obtain ⟨w, hw⟩ := fit_I (G _ hlt) (by simp)
  exact ⟨w, hw, X.baloadBytes hx (j := j) (v := .int w) (by rw [eT]; exact Ar.1) (State.isArrayOf_alike hZ.alike Ar.2.1) Ar.2.2 hin (by rw [H _ hlt, hw]) hg hs hd⟩
theorem own_selp {Z s : State} {a0 args : Array Value} {y z : MethodName} {C : String} (hZ : Z.Warmed39 s.vm) (hp : (Jvm.Cond.privateMethod y).before a0 Z = true) (hm : (Jvm.Cond.instanceMethod y).before a0 Z = true) (hy : y.cls ≠ "java/lang/invoke/MethodHandle" ∧ y.cls ≠ "java/lang/invoke/VarHandle") (hs : (Jvm.Cond.selects C z z).before a0 Z = true) (hz : z.cls = y.cls) : (Jvm.Cond.selects y.cls y y).before args s = true := by
  have hs' : (Jvm.Cond.selects C z z).before args s = true := mvT hZ hs
  obtain ⟨c2, r2, m2, q1, q2, q3, q4, kP, hkP, hkPi⟩ := Cond.selects_spec hs'
  exact selects_self_of_private (hz ▸ findClass_of_methodNamed q3) hkP hkPi (Cond.privateMethod_at (mvP hZ hp (args := #[]))) (mvT hZ hm) hy
def own_G (Z : State) (h : Heap) (ob va vb vl vh vf vg vs : Addr) (kv kb kl kh kf kg ks : ClassId) (fl : Int64) (nn nb : Int32) (VV : List Value) (vv : Value) (cn : Int32) (VB VL VH VF VG VS : List Value) : Prop := Exa Z h ob "com/example/bitrun/bitrun/orc/intv2/Segments" ∧ Fld Z h ob "com/example/bitrun/bitrun/orc/intv2/Segments" "bounded" "Z" (.int (0 : Int32)) ∧ Fld Z h ob "com/example/bitrun/bitrun/orc/intv2/Segments" "flip" "J" (.long fl) ∧ Fld Z h ob "com/example/bitrun/bitrun/orc/intv2/Segments" "values" "[J" vv ∧ Fld Z h ob "com/example/bitrun/bitrun/orc/intv2/Segments" "count" "I" (.int cn) ∧ Fld Z h ob "com/example/bitrun/bitrun/orc/intv2/Segments" "bounds" "[I" (.ref vb) ∧ Fld Z h ob "com/example/bitrun/bitrun/orc/intv2/Segments" "lowest" "[J" (.ref vl) ∧ Fld Z h ob "com/example/bitrun/bitrun/orc/intv2/Segments" "highest" "[J" (.ref vh) ∧ Fld Z h ob "com/example/bitrun/bitrun/orc/intv2/Segments" "firstStep" "[J" (.ref vf) ∧ Fld Z h ob "com/example/bitrun/bitrun/orc/intv2/Segments" "magnitudes" "[J" (.ref vg) ∧ Fld Z h ob "com/example/bitrun/bitrun/orc/intv2/Segments" "steps" "[B" (.ref vs) ∧ Arv Z h va kv .long (6 : Int32) VV (.long (0 : Int64)) ∧ Arv Z h vb kb .int nb VB (.int (0 : Int32)) ∧ Arv Z h vl kl .long nn VL (.long (0 : Int64)) ∧ Arv Z h vh kh .long nn VH (.long (0 : Int64)) ∧ Arv Z h vf kf .long nn VF (.long (0 : Int64)) ∧ Arv Z h vg kg .long nn VG (.long (0 : Int64)) ∧ Arv Z h vs ks .byte nn VS (.int (0 : Int32)) ∧ VB.length = nb.toNatClampNeg ∧ VL.length = nn.toNatClampNeg ∧ VH.length = nn.toNatClampNeg ∧ VF.length = nn.toNatClampNeg ∧ VG.length = nn.toNatClampNeg ∧ VS.length = nn.toNatClampNeg ∧ VV.length = 6
theorem own_neN {x y : Nat} (h : x < y ∨ y < x) : x ≠ y := by omega
def own_O (n0 : Nat) (ob va vb vl vh vf vg vs : Nat) (nn nb : Int32) : Prop := n0 ≤ va ∧ va < ob ∧ ob < vb ∧ vb < vl ∧ vl < vh ∧ vh < vf ∧ vf < vg ∧ vg < vs ∧ 0 ≤ nn.toInt ∧ nn.toInt ≤ 3 ∧ nb.toInt = nn.toInt + 1
theorem own_pE {Z : State} {h : Heap} {ob va vb vl vh vf vg vs : Addr} {kv kb kl kh kf kg ks : ClassId} {fl : Int64} {nn nb : Int32} {VV : List Value} {vv : Value} {cn : Int32} {VB VL VH VF VG VS : List Value} (hG : own_G Z h ob va vb vl vh vf vg vs kv kb kl kh kf kg ks fl nn nb VV vv cn VB VL VH VF VG VS) : Exa Z h ob "com/example/bitrun/bitrun/orc/intv2/Segments" := hG.1
theorem own_pF_bounded {Z : State} {h : Heap} {ob va vb vl vh vf vg vs : Addr} {kv kb kl kh kf kg ks : ClassId} {fl : Int64} {nn nb : Int32} {VV : List Value} {vv : Value} {cn : Int32} {VB VL VH VF VG VS : List Value} (hG : own_G Z h ob va vb vl vh vf vg vs kv kb kl kh kf kg ks fl nn nb VV vv cn VB VL VH VF VG VS) : Fld Z h ob "com/example/bitrun/bitrun/orc/intv2/Segments" "bounded" "Z" (.int (0 : Int32)) := hG.2.1
theorem own_pF_flip {Z : State} {h : Heap} {ob va vb vl vh vf vg vs : Addr} {kv kb kl kh kf kg ks : ClassId} {fl : Int64} {nn nb : Int32} {VV : List Value} {vv : Value} {cn : Int32} {VB VL VH VF VG VS : List Value} (hG : own_G Z h ob va vb vl vh vf vg vs kv kb kl kh kf kg ks fl nn nb VV vv cn VB VL VH VF VG VS) : Fld Z h ob "com/example/bitrun/bitrun/orc/intv2/Segments" "flip" "J" (.long fl) := hG.2.2.1
theorem own_pF_values {Z : State} {h : Heap} {ob va vb vl vh vf vg vs : Addr} {kv kb kl kh kf kg ks : ClassId} {fl : Int64} {nn nb : Int32} {VV : List Value} {vv : Value} {cn : Int32} {VB VL VH VF VG VS : List Value} (hG : own_G Z h ob va vb vl vh vf vg vs kv kb kl kh kf kg ks fl nn nb VV vv cn VB VL VH VF VG VS) : Fld Z h ob "com/example/bitrun/bitrun/orc/intv2/Segments" "values" "[J" vv := hG.2.2.2.1
theorem own_pF_count {Z : State} {h : Heap} {ob va vb vl vh vf vg vs : Addr} {kv kb kl kh kf kg ks : ClassId} {fl : Int64} {nn nb : Int32} {VV : List Value} {vv : Value} {cn : Int32} {VB VL VH VF VG VS : List Value} (hG : own_G Z h ob va vb vl vh vf vg vs kv kb kl kh kf kg ks fl nn nb VV vv cn VB VL VH VF VG VS) : Fld Z h ob "com/example/bitrun/bitrun/orc/intv2/Segments" "count" "I" (.int cn) := hG.2.2.2.2.1
theorem own_pF_bounds {Z : State} {h : Heap} {ob va vb vl vh vf vg vs : Addr} {kv kb kl kh kf kg ks : ClassId} {fl : Int64} {nn nb : Int32} {VV : List Value} {vv : Value} {cn : Int32} {VB VL VH VF VG VS : List Value} (hG : own_G Z h ob va vb vl vh vf vg vs kv kb kl kh kf kg ks fl nn nb VV vv cn VB VL VH VF VG VS) : Fld Z h ob "com/example/bitrun/bitrun/orc/intv2/Segments" "bounds" "[I" (.ref vb) := hG.2.2.2.2.2.1
theorem own_pF_lowest {Z : State} {h : Heap} {ob va vb vl vh vf vg vs : Addr} {kv kb kl kh kf kg ks : ClassId} {fl : Int64} {nn nb : Int32} {VV : List Value} {vv : Value} {cn : Int32} {VB VL VH VF VG VS : List Value} (hG : own_G Z h ob va vb vl vh vf vg vs kv kb kl kh kf kg ks fl nn nb VV vv cn VB VL VH VF VG VS) : Fld Z h ob "com/example/bitrun/bitrun/orc/intv2/Segments" "lowest" "[J" (.ref vl) := hG.2.2.2.2.2.2.1
theorem own_pF_highest {Z : State} {h : Heap} {ob va vb vl vh vf vg vs : Addr} {kv kb kl kh kf kg ks : ClassId} {fl : Int64} {nn nb : Int32} {VV : List Value} {vv : Value} {cn : Int32} {VB VL VH VF VG VS : List Value} (hG : own_G Z h ob va vb vl vh vf vg vs kv kb kl kh kf kg ks fl nn nb VV vv cn VB VL VH VF VG VS) : Fld Z h ob "com/example/bitrun/bitrun/orc/intv2/Segments" "highest" "[J" (.ref vh) := hG.2.2.2.2.2.2.2.1
theorem own_pF_firstStep {Z : State} {h : Heap} {ob va vb vl vh vf vg vs : Addr} {kv kb kl kh kf kg ks : ClassId} {fl : Int64} {nn nb : Int32} {VV : List Value} {vv : Value} {cn : Int32} {VB VL VH VF VG VS : List Value} (hG : own_G Z h ob va vb vl vh vf vg vs kv kb kl kh kf kg ks fl nn nb VV vv cn VB VL VH VF VG VS) : Fld Z h ob "com/example/bitrun/bitrun/orc/intv2/Segments" "firstStep" "[J" (.ref vf) := hG.2.2.2.2.2.2.2.2.1
theorem own_pF_magnitudes {Z : State} {h : Heap} {ob va vb vl vh vf vg vs : Addr} {kv kb kl kh kf kg ks : ClassId} {fl : Int64} {nn nb : Int32} {VV : List Value} {vv : Value} {cn : Int32} {VB VL VH VF VG VS : List Value} (hG : own_G Z h ob va vb vl vh vf vg vs kv kb kl kh kf kg ks fl nn nb VV vv cn VB VL VH VF VG VS) : Fld Z h ob "com/example/bitrun/bitrun/orc/intv2/Segments" "magnitudes" "[J" (.ref vg) := hG.2.2.2.2.2.2.2.2.2.1
theorem own_pF_steps {Z : State} {h : Heap} {ob va vb vl vh vf vg vs : Addr} {kv kb kl kh kf kg ks : ClassId} {fl : Int64} {nn nb : Int32} {VV : List Value} {vv : Value} {cn : Int32} {VB VL VH VF VG VS : List Value} (hG : own_G Z h ob va vb vl vh vf vg vs kv kb kl kh kf kg ks fl nn nb VV vv cn VB VL VH VF VG VS) : Fld Z h ob "com/example/bitrun/bitrun/orc/intv2/Segments" "steps" "[B" (.ref vs) := hG.2.2.2.2.2.2.2.2.2.2.1
theorem own_pV_va {Z : State} {h : Heap} {ob va vb vl vh vf vg vs : Addr} {kv kb kl kh kf kg ks : ClassId} {fl : Int64} {nn nb : Int32} {VV : List Value} {vv : Value} {cn : Int32} {VB VL VH VF VG VS : List Value} (hG : own_G Z h ob va vb vl vh vf vg vs kv kb kl kh kf kg ks fl nn nb VV vv cn VB VL VH VF VG VS) : Arv Z h va kv .long (6 : Int32) VV (.long (0 : Int64)) := hG.2.2.2.2.2.2.2.2.2.2.2.1
theorem own_pV_vb {Z : State} {h : Heap} {ob va vb vl vh vf vg vs : Addr} {kv kb kl kh kf kg ks : ClassId} {fl : Int64} {nn nb : Int32} {VV : List Value} {vv : Value} {cn : Int32} {VB VL VH VF VG VS : List Value} (hG : own_G Z h ob va vb vl vh vf vg vs kv kb kl kh kf kg ks fl nn nb VV vv cn VB VL VH VF VG VS) : Arv Z h vb kb .int nb VB (.int (0 : Int32)) := hG.2.2.2.2.2.2.2.2.2.2.2.2.1
theorem own_pV_vl {Z : State} {h : Heap} {ob va vb vl vh vf vg vs : Addr} {kv kb kl kh kf kg ks : ClassId} {fl : Int64} {nn nb : Int32} {VV : List Value} {vv : Value} {cn : Int32} {VB VL VH VF VG VS : List Value} (hG : own_G Z h ob va vb vl vh vf vg vs kv kb kl kh kf kg ks fl nn nb VV vv cn VB VL VH VF VG VS) : Arv Z h vl kl .long nn VL (.long (0 : Int64)) := hG.2.2.2.2.2.2.2.2.2.2.2.2.2.1
theorem own_pV_vh {Z : State} {h : Heap} {ob va vb vl vh vf vg vs : Addr} {kv kb kl kh kf kg ks : ClassId} {fl : Int64} {nn nb : Int32} {VV : List Value} {vv : Value} {cn : Int32} {VB VL VH VF VG VS : List Value} (hG : own_G Z h ob va vb vl vh vf vg vs kv kb kl kh kf kg ks fl nn nb VV vv cn VB VL VH VF VG VS) : Arv Z h vh kh .long nn VH (.long (0 : Int64)) := hG.2.2.2.2.2.2.2.2.2.2.2.2.2.2.1
theorem own_pV_vf {Z : State} {h : Heap} {ob va vb vl vh vf vg vs : Addr} {kv kb kl kh kf kg ks : ClassId} {fl : Int64} {nn nb : Int32} {VV : List Value} {vv : Value} {cn : Int32} {VB VL VH VF VG VS : List Value} (hG : own_G Z h ob va vb vl vh vf vg vs kv kb kl kh kf kg ks fl nn nb VV vv cn VB VL VH VF VG VS) : Arv Z h vf kf .long nn VF (.long (0 : Int64)) := hG.2.2.2.2.2.2.2.2.2.2.2.2.2.2.2.1
theorem own_pV_vg {Z : State} {h : Heap} {ob va vb vl vh vf vg vs : Addr} {kv kb kl kh kf kg ks : ClassId} {fl : Int64} {nn nb : Int32} {VV : List Value} {vv : Value} {cn : Int32} {VB VL VH VF VG VS : List Value} (hG : own_G Z h ob va vb vl vh vf vg vs kv kb kl kh kf kg ks fl nn nb VV vv cn VB VL VH VF VG VS) : Arv Z h vg kg .long nn VG (.long (0 : Int64)) := hG.2.2.2.2.2.2.2.2.2.2.2.2.2.2.2.2.1
theorem own_pV_vs {Z : State} {h : Heap} {ob va vb vl vh vf vg vs : Addr} {kv kb kl kh kf kg ks : ClassId} {fl : Int64} {nn nb : Int32} {VV : List Value} {vv : Value} {cn : Int32} {VB VL VH VF VG VS : List Value} (hG : own_G Z h ob va vb vl vh vf vg vs kv kb kl kh kf kg ks fl nn nb VV vv cn VB VL VH VF VG VS) : Arv Z h vs ks .byte nn VS (.int (0 : Int32)) := hG.2.2.2.2.2.2.2.2.2.2.2.2.2.2.2.2.2.1
theorem own_pL_vb {Z : State} {h : Heap} {ob va vb vl vh vf vg vs : Addr} {kv kb kl kh kf kg ks : ClassId} {fl : Int64} {nn nb : Int32} {VV : List Value} {vv : Value} {cn : Int32} {VB VL VH VF VG VS : List Value} (hG : own_G Z h ob va vb vl vh vf vg vs kv kb kl kh kf kg ks fl nn nb VV vv cn VB VL VH VF VG VS) : VB.length = nb.toNatClampNeg := hG.2.2.2.2.2.2.2.2.2.2.2.2.2.2.2.2.2.2.1
theorem own_pL_vl {Z : State} {h : Heap} {ob va vb vl vh vf vg vs : Addr} {kv kb kl kh kf kg ks : ClassId} {fl : Int64} {nn nb : Int32} {VV : List Value} {vv : Value} {cn : Int32} {VB VL VH VF VG VS : List Value} (hG : own_G Z h ob va vb vl vh vf vg vs kv kb kl kh kf kg ks fl nn nb VV vv cn VB VL VH VF VG VS) : VL.length = nn.toNatClampNeg := hG.2.2.2.2.2.2.2.2.2.2.2.2.2.2.2.2.2.2.2.1
theorem own_pL_vh {Z : State} {h : Heap} {ob va vb vl vh vf vg vs : Addr} {kv kb kl kh kf kg ks : ClassId} {fl : Int64} {nn nb : Int32} {VV : List Value} {vv : Value} {cn : Int32} {VB VL VH VF VG VS : List Value} (hG : own_G Z h ob va vb vl vh vf vg vs kv kb kl kh kf kg ks fl nn nb VV vv cn VB VL VH VF VG VS) : VH.length = nn.toNatClampNeg := hG.2.2.2.2.2.2.2.2.2.2.2.2.2.2.2.2.2.2.2.2.1
theorem own_pL_vf {Z : State} {h : Heap} {ob va vb vl vh vf vg vs : Addr} {kv kb kl kh kf kg ks : ClassId} {fl : Int64} {nn nb : Int32} {VV : List Value} {vv : Value} {cn : Int32} {VB VL VH VF VG VS : List Value} (hG : own_G Z h ob va vb vl vh vf vg vs kv kb kl kh kf kg ks fl nn nb VV vv cn VB VL VH VF VG VS) : VF.length = nn.toNatClampNeg := hG.2.2.2.2.2.2.2.2.2.2.2.2.2.2.2.2.2.2.2.2.2.1
theorem own_pL_vg {Z : State} {h : Heap} {ob va vb vl vh vf vg vs : Addr} {kv kb kl kh kf kg ks : ClassId} {fl : Int64} {nn nb : Int32} {VV : List Value} {vv : Value} {cn : Int32} {VB VL VH VF VG VS : List Value} (hG : own_G Z h ob va vb vl vh vf vg vs kv kb kl kh kf kg ks fl nn nb VV vv cn VB VL VH VF VG VS) : VG.length = nn.toNatClampNeg := hG.2.2.2.2.2.2.2.2.2.2.2.2.2.2.2.2.2.2.2.2.2.2.1
theorem own_pL_vs {Z : State} {h : Heap} {ob va vb vl vh vf vg vs : Addr} {kv kb kl kh kf kg ks : ClassId} {fl : Int64} {nn nb : Int32} {VV : List Value} {vv : Value} {cn : Int32} {VB VL VH VF VG VS : List Value} (hG : own_G Z h ob va vb vl vh vf vg vs kv kb kl kh kf kg ks fl nn nb VV vv cn VB VL VH VF VG VS) : VS.length = nn.toNatClampNeg := hG.2.2.2.2.2.2.2.2.2.2.2.2.2.2.2.2.2.2.2.2.2.2.2.1
theorem own_pL_va {Z : State} {h : Heap} {ob va vb vl vh vf vg vs : Addr} {kv kb kl kh kf kg ks : ClassId} {fl : Int64} {nn nb : Int32} {VV : List Value} {vv : Value} {cn : Int32} {VB VL VH VF VG VS : List Value} (hG : own_G Z h ob va vb vl vh vf vg vs kv kb kl kh kf kg ks fl nn nb VV vv cn VB VL VH VF VG VS) : VV.length = 6 := hG.2.2.2.2.2.2.2.2.2.2.2.2.2.2.2.2.2.2.2.2.2.2.2.2
theorem own_w_vb {Z : State} {h : Heap} {ob va vb vl vh vf vg vs : Addr} {kv kb kl kh kf kg ks : ClassId} {fl : Int64} {nn nb : Int32} {VV : List Value} {vv : Value} {cn : Int32} {VB VL VH VF VG VS : List Value} {h' : Heap} {n0 j : Nat} {x : Value} {VB' : List Value} (hG : own_G Z h ob va vb vl vh vf vg vs kv kb kl kh kf kg ks fl nn nb VV vv cn VB VL VH VF VG VS) (hO : own_O n0 ob va vb vl vh vf vg vs nn nb) (W : Wr h h' vb j x) (V' : Arv Z h' vb kb .int nb VB' (.int (0 : Int32))) (hl : VB'.length = nb.toNatClampNeg) : own_G Z h' ob va vb vl vh vf vg vs kv kb kl kh kf kg ks fl nn nb VV vv cn (VB') VL VH VF VG VS := by
  obtain ⟨E, F_bounded, F_flip, F_values, F_count, F_bounds, F_lowest, F_highest, F_firstStep, F_magnitudes, F_steps, V_va, V_vb, V_vl, V_vh, V_vf, V_vg, V_vs, L_vb, L_vl, L_vh, L_vf, L_vg, L_vs, L_va⟩ := hG
  obtain ⟨o1, o2, o3, o4, o5, o6, o7, o8, o9, o10, o11⟩ := hO
  exact ⟨E.wr W, F_bounded.other W (Or.inl (own_neN (by omega))), F_flip.other W (Or.inl (own_neN (by omega))), F_values.other W (Or.inl (own_neN (by omega))), F_count.other W (Or.inl (own_neN (by omega))), F_bounds.other W (Or.inl (own_neN (by omega))), F_lowest.other W (Or.inl (own_neN (by omega))), F_highest.other W (Or.inl (own_neN (by omega))), F_firstStep.other W (Or.inl (own_neN (by omega))), F_magnitudes.other W (Or.inl (own_neN (by omega))), F_steps.other W (Or.inl (own_neN (by omega))), V_va.other W (own_neN (by omega)), V', V_vl.other W (own_neN (by omega)), V_vh.other W (own_neN (by omega)), V_vf.other W (own_neN (by omega)), V_vg.other W (own_neN (by omega)), V_vs.other W (own_neN (by omega)), hl, L_vl, L_vh, L_vf, L_vg, L_vs, L_va⟩
theorem own_w_vl {Z : State} {h : Heap} {ob va vb vl vh vf vg vs : Addr} {kv kb kl kh kf kg ks : ClassId} {fl : Int64} {nn nb : Int32} {VV : List Value} {vv : Value} {cn : Int32} {VB VL VH VF VG VS : List Value} {h' : Heap} {n0 j : Nat} {x : Value} {VL' : List Value} (hG : own_G Z h ob va vb vl vh vf vg vs kv kb kl kh kf kg ks fl nn nb VV vv cn VB VL VH VF VG VS) (hO : own_O n0 ob va vb vl vh vf vg vs nn nb) (W : Wr h h' vl j x) (V' : Arv Z h' vl kl .long nn VL' (.long (0 : Int64))) (hl : VL'.length = nn.toNatClampNeg) : own_G Z h' ob va vb vl vh vf vg vs kv kb kl kh kf kg ks fl nn nb VV vv cn VB (VL') VH VF VG VS := by
  obtain ⟨E, F_bounded, F_flip, F_values, F_count, F_bounds, F_lowest, F_highest, F_firstStep, F_magnitudes, F_steps, V_va, V_vb, V_vl, V_vh, V_vf, V_vg, V_vs, L_vb, L_vl, L_vh, L_vf, L_vg, L_vs, L_va⟩ := hG
  obtain ⟨o1, o2, o3, o4, o5, o6, o7, o8, o9, o10, o11⟩ := hO
  exact ⟨E.wr W, F_bounded.other W (Or.inl (own_neN (by omega))), F_flip.other W (Or.inl (own_neN (by omega))), F_values.other W (Or.inl (own_neN (by omega))), F_count.other W (Or.inl (own_neN (by omega))), F_bounds.other W (Or.inl (own_neN (by omega))), F_lowest.other W (Or.inl (own_neN (by omega))), F_highest.other W (Or.inl (own_neN (by omega))), F_firstStep.other W (Or.inl (own_neN (by omega))), F_magnitudes.other W (Or.inl (own_neN (by omega))), F_steps.other W (Or.inl (own_neN (by omega))), V_va.other W (own_neN (by omega)), V_vb.other W (own_neN (by omega)), V', V_vh.other W (own_neN (by omega)), V_vf.other W (own_neN (by omega)), V_vg.other W (own_neN (by omega)), V_vs.other W (own_neN (by omega)), L_vb, hl, L_vh, L_vf, L_vg, L_vs, L_va⟩
theorem own_w_vh {Z : State} {h : Heap} {ob va vb vl vh vf vg vs : Addr} {kv kb kl kh kf kg ks : ClassId} {fl : Int64} {nn nb : Int32} {VV : List Value} {vv : Value} {cn : Int32} {VB VL VH VF VG VS : List Value} {h' : Heap} {n0 j : Nat} {x : Value} {VH' : List Value} (hG : own_G Z h ob va vb vl vh vf vg vs kv kb kl kh kf kg ks fl nn nb VV vv cn VB VL VH VF VG VS) (hO : own_O n0 ob va vb vl vh vf vg vs nn nb) (W : Wr h h' vh j x) (V' : Arv Z h' vh kh .long nn VH' (.long (0 : Int64))) (hl : VH'.length = nn.toNatClampNeg) : own_G Z h' ob va vb vl vh vf vg vs kv kb kl kh kf kg ks fl nn nb VV vv cn VB VL (VH') VF VG VS := by
  obtain ⟨E, F_bounded, F_flip, F_values, F_count, F_bounds, F_lowest, F_highest, F_firstStep, F_magnitudes, F_steps, V_va, V_vb, V_vl, V_vh, V_vf, V_vg, V_vs, L_vb, L_vl, L_vh, L_vf, L_vg, L_vs, L_va⟩ := hG
  obtain ⟨o1, o2, o3, o4, o5, o6, o7, o8, o9, o10, o11⟩ := hO
  exact ⟨E.wr W, F_bounded.other W (Or.inl (own_neN (by omega))), F_flip.other W (Or.inl (own_neN (by omega))), F_values.other W (Or.inl (own_neN (by omega))), F_count.other W (Or.inl (own_neN (by omega))), F_bounds.other W (Or.inl (own_neN (by omega))), F_lowest.other W (Or.inl (own_neN (by omega))), F_highest.other W (Or.inl (own_neN (by omega))), F_firstStep.other W (Or.inl (own_neN (by omega))), F_magnitudes.other W (Or.inl (own_neN (by omega))), F_steps.other W (Or.inl (own_neN (by omega))), V_va.other W (own_neN (by omega)), V_vb.other W (own_neN (by omega)), V_vl.other W (own_neN (by omega)), V', V_vf.other W (own_neN (by omega)), V_vg.other W (own_neN (by omega)), V_vs.other W (own_neN (by omega)), L_vb, L_vl, hl, L_vf, L_vg, L_vs, L_va⟩
theorem own_w_vf {Z : State} {h : Heap} {ob va vb vl vh vf vg vs : Addr} {kv kb kl kh kf kg ks : ClassId} {fl : Int64} {nn nb : Int32} {VV : List Value} {vv : Value} {cn : Int32} {VB VL VH VF VG VS : List Value} {h' : Heap} {n0 j : Nat} {x : Value} {VF' : List Value} (hG : own_G Z h ob va vb vl vh vf vg vs kv kb kl kh kf kg ks fl nn nb VV vv cn VB VL VH VF VG VS) (hO : own_O n0 ob va vb vl vh vf vg vs nn nb) (W : Wr h h' vf j x) (V' : Arv Z h' vf kf .long nn VF' (.long (0 : Int64))) (hl : VF'.length = nn.toNatClampNeg) : own_G Z h' ob va vb vl vh vf vg vs kv kb kl kh kf kg ks fl nn nb VV vv cn VB VL VH (VF') VG VS := by
  obtain ⟨E, F_bounded, F_flip, F_values, F_count, F_bounds, F_lowest, F_highest, F_firstStep, F_magnitudes, F_steps, V_va, V_vb, V_vl, V_vh, V_vf, V_vg, V_vs, L_vb, L_vl, L_vh, L_vf, L_vg, L_vs, L_va⟩ := hG
  obtain ⟨o1, o2, o3, o4, o5, o6, o7, o8, o9, o10, o11⟩ := hO
  exact ⟨E.wr W, F_bounded.other W (Or.inl (own_neN (by omega))), F_flip.other W (Or.inl (own_neN (by omega))), F_values.other W (Or.inl (own_neN (by omega))), F_count.other W (Or.inl (own_neN (by omega))), F_bounds.other W (Or.inl (own_neN (by omega))), F_lowest.other W (Or.inl (own_neN (by omega))), F_highest.other W (Or.inl (own_neN (by omega))), F_firstStep.other W (Or.inl (own_neN (by omega))), F_magnitudes.other W (Or.inl (own_neN (by omega))), F_steps.other W (Or.inl (own_neN (by omega))), V_va.other W (own_neN (by omega)), V_vb.other W (own_neN (by omega)), V_vl.other W (own_neN (by omega)), V_vh.other W (own_neN (by omega)), V', V_vg.other W (own_neN (by omega)), V_vs.other W (own_neN (by omega)), L_vb, L_vl, L_vh, hl, L_vg, L_vs, L_va⟩
theorem own_w_vg {Z : State} {h : Heap} {ob va vb vl vh vf vg vs : Addr} {kv kb kl kh kf kg ks : ClassId} {fl : Int64} {nn nb : Int32} {VV : List Value} {vv : Value} {cn : Int32} {VB VL VH VF VG VS : List Value} {h' : Heap} {n0 j : Nat} {x : Value} {VG' : List Value} (hG : own_G Z h ob va vb vl vh vf vg vs kv kb kl kh kf kg ks fl nn nb VV vv cn VB VL VH VF VG VS) (hO : own_O n0 ob va vb vl vh vf vg vs nn nb) (W : Wr h h' vg j x) (V' : Arv Z h' vg kg .long nn VG' (.long (0 : Int64))) (hl : VG'.length = nn.toNatClampNeg) : own_G Z h' ob va vb vl vh vf vg vs kv kb kl kh kf kg ks fl nn nb VV vv cn VB VL VH VF (VG') VS := by
  obtain ⟨E, F_bounded, F_flip, F_values, F_count, F_bounds, F_lowest, F_highest, F_firstStep, F_magnitudes, F_steps, V_va, V_vb, V_vl, V_vh, V_vf, V_vg, V_vs, L_vb, L_vl, L_vh, L_vf, L_vg, L_vs, L_va⟩ := hG
  obtain ⟨o1, o2, o3, o4, o5, o6, o7, o8, o9, o10, o11⟩ := hO
  exact ⟨E.wr W, F_bounded.other W (Or.inl (own_neN (by omega))), F_flip.other W (Or.inl (own_neN (by omega))), F_values.other W (Or.inl (own_neN (by omega))), F_count.other W (Or.inl (own_neN (by omega))), F_bounds.other W (Or.inl (own_neN (by omega))), F_lowest.other W (Or.inl (own_neN (by omega))), F_highest.other W (Or.inl (own_neN (by omega))), F_firstStep.other W (Or.inl (own_neN (by omega))), F_magnitudes.other W (Or.inl (own_neN (by omega))), F_steps.other W (Or.inl (own_neN (by omega))), V_va.other W (own_neN (by omega)), V_vb.other W (own_neN (by omega)), V_vl.other W (own_neN (by omega)), V_vh.other W (own_neN (by omega)), V_vf.other W (own_neN (by omega)), V', V_vs.other W (own_neN (by omega)), L_vb, L_vl, L_vh, L_vf, hl, L_vs, L_va⟩
theorem own_w_vs {Z : State} {h : Heap} {ob va vb vl vh vf vg vs : Addr} {kv kb kl kh kf kg ks : ClassId} {fl : Int64} {nn nb : Int32} {VV : List Value} {vv : Value} {cn : Int32} {VB VL VH VF VG VS : List Value} {h' : Heap} {n0 j : Nat} {x : Value} {VS' : List Value} (hG : own_G Z h ob va vb vl vh vf vg vs kv kb kl kh kf kg ks fl nn nb VV vv cn VB VL VH VF VG VS) (hO : own_O n0 ob va vb vl vh vf vg vs nn nb) (W : Wr h h' vs j x) (V' : Arv Z h' vs ks .byte nn VS' (.int (0 : Int32))) (hl : VS'.length = nn.toNatClampNeg) : own_G Z h' ob va vb vl vh vf vg vs kv kb kl kh kf kg ks fl nn nb VV vv cn VB VL VH VF VG (VS') := by
  obtain ⟨E, F_bounded, F_flip, F_values, F_count, F_bounds, F_lowest, F_highest, F_firstStep, F_magnitudes, F_steps, V_va, V_vb, V_vl, V_vh, V_vf, V_vg, V_vs, L_vb, L_vl, L_vh, L_vf, L_vg, L_vs, L_va⟩ := hG
  obtain ⟨o1, o2, o3, o4, o5, o6, o7, o8, o9, o10, o11⟩ := hO
  exact ⟨E.wr W, F_bounded.other W (Or.inl (own_neN (by omega))), F_flip.other W (Or.inl (own_neN (by omega))), F_values.other W (Or.inl (own_neN (by omega))), F_count.other W (Or.inl (own_neN (by omega))), F_bounds.other W (Or.inl (own_neN (by omega))), F_lowest.other W (Or.inl (own_neN (by omega))), F_highest.other W (Or.inl (own_neN (by omega))), F_firstStep.other W (Or.inl (own_neN (by omega))), F_magnitudes.other W (Or.inl (own_neN (by omega))), F_steps.other W (Or.inl (own_neN (by omega))), V_va.other W (own_neN (by omega)), V_vb.other W (own_neN (by omega)), V_vl.other W (own_neN (by omega)), V_vh.other W (own_neN (by omega)), V_vf.other W (own_neN (by omega)), V_vg.other W (own_neN (by omega)), V', L_vb, L_vl, L_vh, L_vf, L_vg, hl, L_va⟩
theorem own_w_count {Z : State} {h : Heap} {ob va vb vl vh vf vg vs : Addr} {kv kb kl kh kf kg ks : ClassId} {fl : Int64} {nn nb : Int32} {VV : List Value} {vv : Value} {cn : Int32} {VB VL VH VF VG VS : List Value} {h' : Heap} {n0 : Nat} {a0 : Array Value} {cn' : Int32} (hw : ∀ d ∈ tables_1, d.before a0 Z = true) (hG : own_G Z h ob va vb vl vh vf vg vs kv kb kl kh kf kg ks fl nn nb VV vv cn VB VL VH VF VG VS) (hO : own_O n0 ob va vb vl vh vf vg vs nn nb) (W : Wr h h' ob (Jvm.RoadKit.slotOf Z "com/example/bitrun/bitrun/orc/intv2/Segments" "count" "I") (.int cn')) : own_G Z h' ob va vb vl vh vf vg vs kv kb kl kh kf kg ks fl nn nb VV vv cn' VB VL VH VF VG VS := by
  obtain ⟨E, F_bounded, F_flip, F_values, F_count, F_bounds, F_lowest, F_highest, F_firstStep, F_magnitudes, F_steps, V_va, V_vb, V_vl, V_vh, V_vf, V_vg, V_vs, L_vb, L_vl, L_vh, L_vf, L_vg, L_vs, L_va⟩ := hG
  obtain ⟨o1, o2, o3, o4, o5, o6, o7, o8, o9, o10, o11⟩ := hO
  exact ⟨E.wr W, F_bounded.other W (Or.inr (slot_ne (Or.inr (hw _ (List.mem_of_getElem? (i := 20) rfl))) (Or.inl (hw _ (List.mem_of_getElem? (i := 74) rfl))) (by decide) (t := .boolean) (t' := .int) (by decide) (by decide))), F_flip.other W (Or.inr (slot_ne (Or.inr (hw _ (List.mem_of_getElem? (i := 18) rfl))) (Or.inl (hw _ (List.mem_of_getElem? (i := 74) rfl))) (by decide) (t := .long) (t' := .int) (by decide) (by decide))), F_values.other W (Or.inr (slot_ne (Or.inl (hw _ (List.mem_of_getElem? (i := 67) rfl))) (Or.inl (hw _ (List.mem_of_getElem? (i := 74) rfl))) (by decide) (t := (.array .long)) (t' := .int) (by decide) (by decide))), F_count.same W, F_bounds.other W (Or.inr (slot_ne (Or.inl (hw _ (List.mem_of_getElem? (i := 22) rfl))) (Or.inl (hw _ (List.mem_of_getElem? (i := 74) rfl))) (by decide) (t := (.array .int)) (t' := .int) (by decide) (by decide))), F_lowest.other W (Or.inr (slot_ne (Or.inl (hw _ (List.mem_of_getElem? (i := 24) rfl))) (Or.inl (hw _ (List.mem_of_getElem? (i := 74) rfl))) (by decide) (t := (.array .long)) (t' := .int) (by decide) (by decide))), F_highest.other W (Or.inr (slot_ne (Or.inl (hw _ (List.mem_of_getElem? (i := 26) rfl))) (Or.inl (hw _ (List.mem_of_getElem? (i := 74) rfl))) (by decide) (t := (.array .long)) (t' := .int) (by decide) (by decide))), F_firstStep.other W (Or.inr (slot_ne (Or.inl (hw _ (List.mem_of_getElem? (i := 28) rfl))) (Or.inl (hw _ (List.mem_of_getElem? (i := 74) rfl))) (by decide) (t := (.array .long)) (t' := .int) (by decide) (by decide))), F_magnitudes.other W (Or.inr (slot_ne (Or.inl (hw _ (List.mem_of_getElem? (i := 30) rfl))) (Or.inl (hw _ (List.mem_of_getElem? (i := 74) rfl))) (by decide) (t := (.array .long)) (t' := .int) (by decide) (by decide))), F_steps.other W (Or.inr (slot_ne (Or.inl (hw _ (List.mem_of_getElem? (i := 33) rfl))) (Or.inl (hw _ (List.mem_of_getElem? (i := 74) rfl))) (by decide) (t := (.array .byte)) (t' := .int) (by decide) (by decide))), V_va.other W (own_neN (by omega)), V_vb.other W (own_neN (by omega)), V_vl.other W (own_neN (by omega)), V_vh.other W (own_neN (by omega)), V_vf.other W (own_neN (by omega)), V_vg.other W (own_neN (by omega)), V_vs.other W (own_neN (by omega)), L_vb, L_vl, L_vh, L_vf, L_vg, L_vs, L_va⟩
theorem own_w_values {Z : State} {h : Heap} {ob va vb vl vh vf vg vs : Addr} {kv kb kl kh kf kg ks : ClassId} {fl : Int64} {nn nb : Int32} {VV : List Value} {vv : Value} {cn : Int32} {VB VL VH VF VG VS : List Value} {h' : Heap} {n0 : Nat} {a0 : Array Value} {vv' : Value} (hw : ∀ d ∈ tables_1, d.before a0 Z = true) (hG : own_G Z h ob va vb vl vh vf vg vs kv kb kl kh kf kg ks fl nn nb VV vv cn VB VL VH VF VG VS) (hO : own_O n0 ob va vb vl vh vf vg vs nn nb) (W : Wr h h' ob (Jvm.RoadKit.slotOf Z "com/example/bitrun/bitrun/orc/intv2/Segments" "values" "[J") vv') : own_G Z h' ob va vb vl vh vf vg vs kv kb kl kh kf kg ks fl nn nb VV vv' cn VB VL VH VF VG VS := by
  obtain ⟨E, F_bounded, F_flip, F_values, F_count, F_bounds, F_lowest, F_highest, F_firstStep, F_magnitudes, F_steps, V_va, V_vb, V_vl, V_vh, V_vf, V_vg, V_vs, L_vb, L_vl, L_vh, L_vf, L_vg, L_vs, L_va⟩ := hG
  obtain ⟨o1, o2, o3, o4, o5, o6, o7, o8, o9, o10, o11⟩ := hO
  exact ⟨E.wr W, F_bounded.other W (Or.inr (slot_ne (Or.inr (hw _ (List.mem_of_getElem? (i := 20) rfl))) (Or.inl (hw _ (List.mem_of_getElem? (i := 67) rfl))) (by decide) (t := .boolean) (t' := (.array .long)) (by decide) (by decide))), F_flip.other W (Or.inr (slot_ne (Or.inr (hw _ (List.mem_of_getElem? (i := 18) rfl))) (Or.inl (hw _ (List.mem_of_getElem? (i := 67) rfl))) (by decide) (t := .long) (t' := (.array .long)) (by decide) (by decide))), F_values.same W, F_count.other W (Or.inr (slot_ne (Or.inl (hw _ (List.mem_of_getElem? (i := 74) rfl))) (Or.inl (hw _ (List.mem_of_getElem? (i := 67) rfl))) (by decide) (t := .int) (t' := (.array .long)) (by decide) (by decide))), F_bounds.other W (Or.inr (slot_ne (Or.inl (hw _ (List.mem_of_getElem? (i := 22) rfl))) (Or.inl (hw _ (List.mem_of_getElem? (i := 67) rfl))) (by decide) (t := (.array .int)) (t' := (.array .long)) (by decide) (by decide))), F_lowest.other W (Or.inr (slot_ne (Or.inl (hw _ (List.mem_of_getElem? (i := 24) rfl))) (Or.inl (hw _ (List.mem_of_getElem? (i := 67) rfl))) (by decide) (t := (.array .long)) (t' := (.array .long)) (by decide) (by decide))), F_highest.other W (Or.inr (slot_ne (Or.inl (hw _ (List.mem_of_getElem? (i := 26) rfl))) (Or.inl (hw _ (List.mem_of_getElem? (i := 67) rfl))) (by decide) (t := (.array .long)) (t' := (.array .long)) (by decide) (by decide))), F_firstStep.other W (Or.inr (slot_ne (Or.inl (hw _ (List.mem_of_getElem? (i := 28) rfl))) (Or.inl (hw _ (List.mem_of_getElem? (i := 67) rfl))) (by decide) (t := (.array .long)) (t' := (.array .long)) (by decide) (by decide))), F_magnitudes.other W (Or.inr (slot_ne (Or.inl (hw _ (List.mem_of_getElem? (i := 30) rfl))) (Or.inl (hw _ (List.mem_of_getElem? (i := 67) rfl))) (by decide) (t := (.array .long)) (t' := (.array .long)) (by decide) (by decide))), F_steps.other W (Or.inr (slot_ne (Or.inl (hw _ (List.mem_of_getElem? (i := 33) rfl))) (Or.inl (hw _ (List.mem_of_getElem? (i := 67) rfl))) (by decide) (t := (.array .byte)) (t' := (.array .long)) (by decide) (by decide))), V_va.other W (own_neN (by omega)), V_vb.other W (own_neN (by omega)), V_vl.other W (own_neN (by omega)), V_vh.other W (own_neN (by omega)), V_vf.other W (own_neN (by omega)), V_vg.other W (own_neN (by omega)), V_vs.other W (own_neN (by omega)), L_vb, L_vl, L_vh, L_vf, L_vg, L_vs, L_va⟩
theorem own_b (j z : Int32) (h : 0 ≤ j.toInt ∧ j.toInt < z.toInt) : ¬ j < 0 ∧ j < z := by
  have e0 : (0 : Int32).toInt = 0 := by decide
  rw [Int32.lt_iff_toInt_lt, Int32.lt_iff_toInt_lt, e0]; omega
theorem own_cl (j z : Int32) (h : 0 ≤ j.toInt ∧ j.toInt < z.toInt) : j.toNatClampNeg < z.toNatClampNeg := by
  show j.toInt.toNat < z.toInt.toNat; omega
theorem own_add1 (j : Int32) (h : 0 ≤ j.toInt ∧ j.toInt < 1000) : (j + (1 : Int32)).toInt = j.toInt + 1 := by
  have e1 : (1 : Int32).toInt = 1 := by decide
  rw [(Int32.toInt_add j 1).trans (Int.bmod_eq_of_le (by omega) (by omega)), e1]
theorem own_sub1 (j : Int32) (h : 0 ≤ j.toInt ∧ j.toInt < 1000) : (j - (1 : Int32)).toInt = j.toInt - 1 := by
  have e1 : (1 : Int32).toInt = 1 := by decide
  rw [(Int32.toInt_sub j 1).trans (Int.bmod_eq_of_le (by omega) (by omega)), e1]
theorem own_six : (6 : Int32).toInt = 6 := by decide
theorem d15_0 : decode jdk_29_method_70_code 0 = .ok (.lload_n 0, 1) := by decide +kernel
theorem d15_1 : decode jdk_29_method_70_code 1 = .ok (.lload_n 2, 1) := by decide +kernel
theorem d15_2 : decode jdk_29_method_70_code 2 = .ok (.lcmp, 1) := by decide +kernel
theorem d15_3 : decode jdk_29_method_70_code 3 = .ok (.ifCond .gt 7, 3) := by decide +kernel
theorem d15_6 : decode jdk_29_method_70_code 6 = .ok (.lload_n 0, 1) := by decide +kernel
theorem d15_7 : decode jdk_29_method_70_code 7 = .ok (.goto 4, 3) := by decide +kernel
theorem d15_10 : decode jdk_29_method_70_code 10 = .ok (.lload_n 2, 1) := by decide +kernel
theorem d15_11 : decode jdk_29_method_70_code 11 = .ok (.lreturn, 1) := by decide +kernel
def own_f15_0 (p1 : Int64) (p2 : Int64) : Int64 := (if p2 < p1 then p2 else p1)
set_option maxRecDepth 65536 in
set_option maxHeartbeats 4000000 in
theorem own_b15_0 {p : Program} {l : Launch} {e : Env} {R : Room} {s : State} {m : MethodId} {args : Array Value} {below : List Frame} {meth : Method} {c : Code} {T : State} {locs : List Loc} {cells slots : Nat} {Z : State} {a0 : Array Value} (X : Stand p l e R s m args below meth c T locs cells slots) (hx : p.tables.exec = Jvm.exec) (hby : c.code = jdk_29_method_70_code) (hown : s.vm.findClass "java/lang/Math" = some m.cls) (hZ : Z.Warmed39 s.vm) (hw : ∀ d ∈ tables_1, d.before a0 Z = true) (hret : meth.sig.returnType = some .long) (p1 : Int64) (p2 : Int64) (v : Int64) (hv : own_f15_0 p1 p2 = v) {fs : List Frame} (hr : ∀ (f : JFrame) (acts : List Action), f.method = m → f.locked = none → f.entered = [] → (doReturn e (T.setTop f) acts (some (.long v))).1 = T.setFrames fs) :
    Steps p.tables e below (T.setTop (mkF m 0 #[lv p1, .second, lv p2, .second] [])) (T.setFrames fs) := by
  unfold own_f15_0 at hv
  show Steps p.tables e below (T.setTop (mkF m 0 #[lv p1, .second, lv p2, .second] [])) _
  refine XS.lloadN X.here hx rfl (hb hby d15_0) rfl ?_
  show Steps p.tables e below (T.setTop (mkF m 1 #[lv p1, .second, lv p2, .second] [(.long p1)])) _
  refine XS.lloadN X.here hx rfl (hb hby d15_1) rfl ?_
  show Steps p.tables e below (T.setTop (mkF m 2 #[lv p1, .second, lv p2, .second] [(.long p2), (.long p1)])) _
  refine XS.lcmp X.here hx rfl (hb hby d15_2) rfl ?_
  show Steps p.tables e below (T.setTop (mkF m 3 #[lv p1, .second, lv p2, .second] [(.int (lcmpW p1 p2))])) _
  by_cases hc3 : p2 < p1
  · rw [if_pos hc3] at hv
    refine XS.ifYes X.here hx rfl (pc0 := 3) (pc' := 10) rfl (hb hby d15_3) rfl ((if0 _ _).trans (tlt ((lw_gt _ _).mpr hc3)).2.2.1) (by decide) (by decide) ?_
    show Steps p.tables e below (T.setTop (mkF m 10 #[lv p1, .second, lv p2, .second] [])) _
    refine XS.lloadN X.here hx rfl (hb hby d15_10) rfl ?_
    show Steps p.tables e below (T.setTop (mkF m 11 #[lv p1, .second, lv p2, .second] [(.long p2)])) _
    subst hv
    exact X.lreturnOut hx hret (hb hby d15_11) hr
  · rw [if_neg hc3] at hv
    refine XS.ifNo X.here hx rfl (hb hby d15_3) rfl ((if0 _ _).trans (flt (fun q => hc3 ((lw_gt _ _).mp q))).2.2.1) ?_
    show Steps p.tables e below (T.setTop (mkF m 6 #[lv p1, .second, lv p2, .second] [])) _
    refine XS.lloadN X.here hx rfl (hb hby d15_6) rfl ?_
    show Steps p.tables e below (T.setTop (mkF m 7 #[lv p1, .second, lv p2, .second] [(.long p1)])) _
    refine XS.goto X.here hx rfl (pc0 := 7) (pc' := 11) rfl (hb hby d15_7) (by decide) (by decide) ?_
    show Steps p.tables e below (T.setTop (mkF m 11 #[lv p1, .second, lv p2, .second] [(.long p1)])) _
    subst hv
    exact X.lreturnOut hx hret (hb hby d15_11) hr
theorem ef_15 (m : MethodId) (x0 : Int64) (x1 : Int64) : entryFrame m #[(.long x0), (.long x1)] 4 = mkF m 0 #[lv x0, .second, lv x1, .second] [] := by first | (simp [entryFrame, mkF, argsToLocals, Value.category, maxLocals]; done) | rfl
theorem pn_15 : plainFor (⟨"java/lang/Math", "min", "(JJ)J"⟩ : MethodName) = true := by decide +kernel
def Q_rm15 (Z : State) (p1 : Int64) (p2 : Int64)  (h0 : Heap) (n0 : Nat) (v : Option Value) (h : Heap) (L : List Loc) : Prop := v = some (.long (own_f15_0 p1 p2)) ∧ Fr n0 L ∧ h = h0
set_option maxRecDepth 65536 in
set_option maxHeartbeats 40000000 in
theorem rm15 (l : Launch) (Z : State) (a0 : Array Value) (hw : ∀ d ∈ tables_1, d.before a0 Z = true) (ws : List Jvm.Cond) (p1 : Int64) (p2 : Int64)  (h0 : Heap) (n0 : Nat) (Z0 : n0 ≤ h0.size)  :
    MetFree l (⟨"java/lang/Math", "min", "(JJ)J"⟩ : MethodName) (head1 (Jvm.Cond.code (⟨"java/lang/Math", "min", "(JJ)J"⟩ : MethodName) jdk_29_method_70_code 4 (some .long) :: ws) ({ frames := 0, cells := 0, slots := 0, locals := 0 } : Room)) (fun a U => a = #[(.long p1), (.long p2)] ∧ Z.Warmed39 U.vm ∧ U.heap = h0) (fun _ _ _ _ _ => True) (fun _ U o U' => ∃ v L, o = .returned v ∧ Q_rm15 Z p1 p2  h0 n0 v U'.heap L ∧ FrameEnd U o U' L ({ frames := 0, cells := 0, slots := 0, locals := 0 } : Room).cells ({ frames := 0, cells := 0, slots := 0, locals := 0 } : Room).slots) := by
  refine MetFree.of_bodySF pn_15 hisR ?_
  intro p e s m args below meth c s₁ Bd hml0 hP hK
  obtain ⟨rfl, hZ, hh⟩ := hP
  have hx := Bd.exec
  have hby := Bd.bytes
  have hml : c.maxLocals = 4 := hml0
  have hown : s.vm.findClass "java/lang/Math" = some m.cls := findClass_of_methodNamed Bd.named
  have hnm := (name_of_methodNamed Bd.named Bd.method).1
  have X0 : Stand p l e ({ frames := 0, cells := 0, slots := 0, locals := 0 } : Room) s m #[(.long p1), (.long p2)] below meth c s₁ [] 0 0 := Stand.of_body Bd
  have e0 : s₁.heap = h0 := by rw [← hh, Bd.state]; rfl
  have N0 := Fr.nil n0
  have pre0 : ∀ t, Steps p.tables e below (s₁.setTop (mkF m 0 #[lv p1, .second, lv p2, .second] [])) t → Steps p.tables e below (s₁.setTop (entryFrame m #[(.long p1), (.long p2)] 4)) t := fun t k => castTop (ef_15 m p1 p2) k
  obtain ⟨fs, hr, hrun, hended, hW, hsame⟩ := X0.leave (v := some (.long (own_f15_0 p1 p2))) (fun h => by rw [Bd.returns] at h; cases h) Bd.notSynchronized
  refine ⟨_, _, pre0 _ ?_, hrun, hended, _, _, rfl, ?_, ⟨_, rfl⟩, hW, hsame.mono (by decide) (by decide)⟩
  · exact own_b15_0 X0 hx hby hown hZ hw Bd.returns p1 p2 _ rfl hr
  · exact ⟨rfl, N0, e0⟩
theorem d16_0 : decode jdk_29_method_66_code 0 = .ok (.lload_n 0, 1) := by decide +kernel
theorem d16_1 : decode jdk_29_method_66_code 1 = .ok (.lload_n 2, 1) := by decide +kernel
theorem d16_2 : decode jdk_29_method_66_code 2 = .ok (.lcmp, 1) := by decide +kernel
theorem d16_3 : decode jdk_29_method_66_code 3 = .ok (.ifCond .lt 7, 3) := by decide +kernel
theorem d16_6 : decode jdk_29_method_66_code 6 = .ok (.lload_n 0, 1) := by decide +kernel
theorem d16_7 : decode jdk_29_method_66_code 7 = .ok (.goto 4, 3) := by decide +kernel
theorem d16_10 : decode jdk_29_method_66_code 10 = .ok (.lload_n 2, 1) := by decide +kernel
theorem d16_11 : decode jdk_29_method_66_code 11 = .ok (.lreturn, 1) := by decide +kernel
def own_f16_0 (p1 : Int64) (p2 : Int64) : Int64 := (if p1 < p2 then p2 else p1)
set_option maxRecDepth 65536 in
set_option maxHeartbeats 4000000 in
theorem own_b16_0 {p : Program} {l : Launch} {e : Env} {R : Room} {s : State} {m : MethodId} {args : Array Value} {below : List Frame} {meth : Method} {c : Code} {T : State} {locs : List Loc} {cells slots : Nat} {Z : State} {a0 : Array Value} (X : Stand p l e R s m args below meth c T locs cells slots) (hx : p.tables.exec = Jvm.exec) (hby : c.code = jdk_29_method_66_code) (hown : s.vm.findClass "java/lang/Math" = some m.cls) (hZ : Z.Warmed39 s.vm) (hw : ∀ d ∈ tables_1, d.before a0 Z = true) (hret : meth.sig.returnType = some .long) (p1 : Int64) (p2 : Int64) (v : Int64) (hv : own_f16_0 p1 p2 = v) {fs : List Frame} (hr : ∀ (f : JFrame) (acts : List Action), f.method = m → f.locked = none → f.entered = [] → (doReturn e (T.setTop f) acts (some (.long v))).1 = T.setFrames fs) :
    Steps p.tables e below (T.setTop (mkF m 0 #[lv p1, .second, lv p2, .second] [])) (T.setFrames fs) := by
  unfold own_f16_0 at hv
  show Steps p.tables e below (T.setTop (mkF m 0 #[lv p1, .second, lv p2, .second] [])) _
  refine XS.lloadN X.here hx rfl (hb hby d16_0) rfl ?_
  show Steps p.tables e below (T.setTop (mkF m 1 #[lv p1, .second, lv p2, .second] [(.long p1)])) _
  refine XS.lloadN X.here hx rfl (hb hby d16_1) rfl ?_
  show Steps p.tables e below (T.setTop (mkF m 2 #[lv p1, .second, lv p2, .second] [(.long p2), (.long p1)])) _
  refine XS.lcmp X.here hx rfl (hb hby d16_2) rfl ?_
  show Steps p.tables e below (T.setTop (mkF m 3 #[lv p1, .second, lv p2, .second] [(.int (lcmpW p1 p2))])) _
  by_cases hc3 : p1 < p2
  · rw [if_pos hc3] at hv
    refine XS.ifYes X.here hx rfl (pc0 := 3) (pc' := 10) rfl (hb hby d16_3) rfl ((if0 _ _).trans (tlt ((lw_lt _ _).mpr hc3)).1) (by decide) (by decide) ?_
    show Steps p.tables e below (T.setTop (mkF m 10 #[lv p1, .second, lv p2, .second] [])) _
    refine XS.lloadN X.here hx rfl (hb hby d16_10) rfl ?_
    show Steps p.tables e below (T.setTop (mkF m 11 #[lv p1, .second, lv p2, .second] [(.long p2)])) _
    subst hv
    exact X.lreturnOut hx hret (hb hby d16_11) hr
  · rw [if_neg hc3] at hv
    refine XS.ifNo X.here hx rfl (hb hby d16_3) rfl ((if0 _ _).trans (flt (fun q => hc3 ((lw_lt _ _).mp q))).1) ?_
    show Steps p.tables e below (T.setTop (mkF m 6 #[lv p1, .second, lv p2, .second] [])) _
    refine XS.lloadN X.here hx rfl (hb hby d16_6) rfl ?_
    show Steps p.tables e below (T.setTop (mkF m 7 #[lv p1, .second, lv p2, .second] [(.long p1)])) _
    refine XS.goto X.here hx rfl (pc0 := 7) (pc' := 11) rfl (hb hby d16_7) (by decide) (by decide) ?_
    show Steps p.tables e below (T.setTop (mkF m 11 #[lv p1, .second, lv p2, .second] [(.long p1)])) _
    subst hv
    exact X.lreturnOut hx hret (hb hby d16_11) hr
theorem ef_16 (m : MethodId) (x0 : Int64) (x1 : Int64) : entryFrame m #[(.long x0), (.long x1)] 4 = mkF m 0 #[lv x0, .second, lv x1, .second] [] := by first | (simp [entryFrame, mkF, argsToLocals, Value.category, maxLocals]; done) | rfl
theorem pn_16 : plainFor (⟨"java/lang/Math", "max", "(JJ)J"⟩ : MethodName) = true := by decide +kernel
def Q_rm16 (Z : State) (p1 : Int64) (p2 : Int64)  (h0 : Heap) (n0 : Nat) (v : Option Value) (h : Heap) (L : List Loc) : Prop := v = some (.long (own_f16_0 p1 p2)) ∧ Fr n0 L ∧ h = h0
set_option maxRecDepth 65536 in
set_option maxHeartbeats 40000000 in
theorem rm16 (l : Launch) (Z : State) (a0 : Array Value) (hw : ∀ d ∈ tables_1, d.before a0 Z = true) (ws : List Jvm.Cond) (p1 : Int64) (p2 : Int64)  (h0 : Heap) (n0 : Nat) (Z0 : n0 ≤ h0.size)  :
    MetFree l (⟨"java/lang/Math", "max", "(JJ)J"⟩ : MethodName) (head1 (Jvm.Cond.code (⟨"java/lang/Math", "max", "(JJ)J"⟩ : MethodName) jdk_29_method_66_code 4 (some .long) :: ws) ({ frames := 0, cells := 0, slots := 0, locals := 0 } : Room)) (fun a U => a = #[(.long p1), (.long p2)] ∧ Z.Warmed39 U.vm ∧ U.heap = h0) (fun _ _ _ _ _ => True) (fun _ U o U' => ∃ v L, o = .returned v ∧ Q_rm16 Z p1 p2  h0 n0 v U'.heap L ∧ FrameEnd U o U' L ({ frames := 0, cells := 0, slots := 0, locals := 0 } : Room).cells ({ frames := 0, cells := 0, slots := 0, locals := 0 } : Room).slots) := by
  refine MetFree.of_bodySF pn_16 hisR ?_
  intro p e s m args below meth c s₁ Bd hml0 hP hK
  obtain ⟨rfl, hZ, hh⟩ := hP
  have hx := Bd.exec
  have hby := Bd.bytes
  have hml : c.maxLocals = 4 := hml0
  have hown : s.vm.findClass "java/lang/Math" = some m.cls := findClass_of_methodNamed Bd.named
  have hnm := (name_of_methodNamed Bd.named Bd.method).1
  have X0 : Stand p l e ({ frames := 0, cells := 0, slots := 0, locals := 0 } : Room) s m #[(.long p1), (.long p2)] below meth c s₁ [] 0 0 := Stand.of_body Bd
  have e0 : s₁.heap = h0 := by rw [← hh, Bd.state]; rfl
  have N0 := Fr.nil n0
  have pre0 : ∀ t, Steps p.tables e below (s₁.setTop (mkF m 0 #[lv p1, .second, lv p2, .second] [])) t → Steps p.tables e below (s₁.setTop (entryFrame m #[(.long p1), (.long p2)] 4)) t := fun t k => castTop (ef_16 m p1 p2) k
  obtain ⟨fs, hr, hrun, hended, hW, hsame⟩ := X0.leave (v := some (.long (own_f16_0 p1 p2))) (fun h => by rw [Bd.returns] at h; cases h) Bd.notSynchronized
  refine ⟨_, _, pre0 _ ?_, hrun, hended, _, _, rfl, ?_, ⟨_, rfl⟩, hW, hsame.mono (by decide) (by decide)⟩
  · exact own_b16_0 X0 hx hby hown hZ hw Bd.returns p1 p2 _ rfl hr
  · exact ⟨rfl, N0, e0⟩
theorem d7_0 : decode jdk_29_method_69_code 0 = .ok (.iload_n 0, 1) := by decide +kernel
theorem d7_1 : decode jdk_29_method_69_code 1 = .ok (.iload_n 1, 1) := by decide +kernel
theorem d7_2 : decode jdk_29_method_69_code 2 = .ok (.if_icmp .gt 7, 3) := by decide +kernel
theorem d7_5 : decode jdk_29_method_69_code 5 = .ok (.iload_n 0, 1) := by decide +kernel
theorem d7_6 : decode jdk_29_method_69_code 6 = .ok (.goto 4, 3) := by decide +kernel
theorem d7_9 : decode jdk_29_method_69_code 9 = .ok (.iload_n 1, 1) := by decide +kernel
theorem d7_10 : decode jdk_29_method_69_code 10 = .ok (.ireturn, 1) := by decide +kernel
def own_f7_0 (p1 : Int32) (p2 : Int32) : Int32 := (if p2 < p1 then p2 else p1)
set_option maxRecDepth 65536 in
set_option maxHeartbeats 4000000 in
theorem own_b7_0 {p : Program} {l : Launch} {e : Env} {R : Room} {s : State} {m : MethodId} {args : Array Value} {below : List Frame} {meth : Method} {c : Code} {T : State} {locs : List Loc} {cells slots : Nat} {Z : State} {a0 : Array Value} (X : Stand p l e R s m args below meth c T locs cells slots) (hx : p.tables.exec = Jvm.exec) (hby : c.code = jdk_29_method_69_code) (hown : s.vm.findClass "java/lang/Math" = some m.cls) (hZ : Z.Warmed39 s.vm) (hw : ∀ d ∈ tables_1, d.before a0 Z = true) (hret : meth.sig.returnType = some .int) (p1 : Int32) (p2 : Int32) (v : Int32) (hv : own_f7_0 p1 p2 = v) {fs : List Frame} (hr : ∀ (f : JFrame) (acts : List Action), f.method = m → f.locked = none → f.entered = [] → (doReturn e (T.setTop f) acts (some (.int v))).1 = T.setFrames fs) :
    Steps p.tables e below (T.setTop (mkF m 0 #[iv p1, iv p2] [])) (T.setFrames fs) := by
  unfold own_f7_0 at hv
  show Steps p.tables e below (T.setTop (mkF m 0 #[iv p1, iv p2] [])) _
  refine XS.iloadN X.here hx rfl (hb hby d7_0) rfl ?_
  show Steps p.tables e below (T.setTop (mkF m 1 #[iv p1, iv p2] [(.int p1)])) _
  refine XS.iloadN X.here hx rfl (hb hby d7_1) rfl ?_
  show Steps p.tables e below (T.setTop (mkF m 2 #[iv p1, iv p2] [(.int p2), (.int p1)])) _
  by_cases hc2 : p2 < p1
  · rw [if_pos hc2] at hv
    refine XS.icmpYes X.here hx rfl (pc0 := 2) (pc' := 9) rfl (hb hby d7_2) rfl (tlt hc2).2.2.1 (by decide) (by decide) ?_
    show Steps p.tables e below (T.setTop (mkF m 9 #[iv p1, iv p2] [])) _
    refine XS.iloadN X.here hx rfl (hb hby d7_9) rfl ?_
    show Steps p.tables e below (T.setTop (mkF m 10 #[iv p1, iv p2] [(.int p2)])) _
    subst hv
    exact retI X hx hret (hb hby d7_10) hr
  · rw [if_neg hc2] at hv
    refine XS.icmpNo X.here hx rfl (hb hby d7_2) rfl (flt hc2).2.2.1 ?_
    show Steps p.tables e below (T.setTop (mkF m 5 #[iv p1, iv p2] [])) _
    refine XS.iloadN X.here hx rfl (hb hby d7_5) rfl ?_
    show Steps p.tables e below (T.setTop (mkF m 6 #[iv p1, iv p2] [(.int p1)])) _
    refine XS.goto X.here hx rfl (pc0 := 6) (pc' := 10) rfl (hb hby d7_6) (by decide) (by decide) ?_
    show Steps p.tables e below (T.setTop (mkF m 10 #[iv p1, iv p2] [(.int p1)])) _
    subst hv
    exact retI X hx hret (hb hby d7_10) hr
theorem ef_7 (m : MethodId) (x0 : Int32) (x1 : Int32) : entryFrame m #[(.int x0), (.int x1)] 2 = mkF m 0 #[iv x0, iv x1] [] := by first | (simp [entryFrame, mkF, argsToLocals, Value.category, maxLocals]; done) | rfl
theorem pn_7 : plainFor (⟨"java/lang/Math", "min", "(II)I"⟩ : MethodName) = true := by decide +kernel
def Q_rm7 (Z : State) (p1 : Int32) (p2 : Int32)  (h0 : Heap) (n0 : Nat) (v : Option Value) (h : Heap) (L : List Loc) : Prop := v = some (.int (own_f7_0 p1 p2)) ∧ Fr n0 L ∧ h = h0
set_option maxRecDepth 65536 in
set_option maxHeartbeats 40000000 in
theorem rm7 (l : Launch) (Z : State) (a0 : Array Value) (hw : ∀ d ∈ tables_1, d.before a0 Z = true) (ws : List Jvm.Cond) (p1 : Int32) (p2 : Int32)  (h0 : Heap) (n0 : Nat) (Z0 : n0 ≤ h0.size)  :
    MetFree l (⟨"java/lang/Math", "min", "(II)I"⟩ : MethodName) (head1 (Jvm.Cond.code (⟨"java/lang/Math", "min", "(II)I"⟩ : MethodName) jdk_29_method_69_code 2 (some .int) :: ws) ({ frames := 0, cells := 0, slots := 0, locals := 0 } : Room)) (fun a U => a = #[(.int p1), (.int p2)] ∧ Z.Warmed39 U.vm ∧ U.heap = h0) (fun _ _ _ _ _ => True) (fun _ U o U' => ∃ v L, o = .returned v ∧ Q_rm7 Z p1 p2  h0 n0 v U'.heap L ∧ FrameEnd U o U' L ({ frames := 0, cells := 0, slots := 0, locals := 0 } : Room).cells ({ frames := 0, cells := 0, slots := 0, locals := 0 } : Room).slots) := by
  refine MetFree.of_bodySF pn_7 hisR ?_
  intro p e s m args below meth c s₁ Bd hml0 hP hK
  obtain ⟨rfl, hZ, hh⟩ := hP
  have hx := Bd.exec
  have hby := Bd.bytes
  have hml : c.maxLocals = 2 := hml0
  have hown : s.vm.findClass "java/lang/Math" = some m.cls := findClass_of_methodNamed Bd.named
  have hnm := (name_of_methodNamed Bd.named Bd.method).1
  have X0 : Stand p l e ({ frames := 0, cells := 0, slots := 0, locals := 0 } : Room) s m #[(.int p1), (.int p2)] below meth c s₁ [] 0 0 := Stand.of_body Bd
  have e0 : s₁.heap = h0 := by rw [← hh, Bd.state]; rfl
  have N0 := Fr.nil n0
  have pre0 : ∀ t, Steps p.tables e below (s₁.setTop (mkF m 0 #[iv p1, iv p2] [])) t → Steps p.tables e below (s₁.setTop (entryFrame m #[(.int p1), (.int p2)] 2)) t := fun t k => castTop (ef_7 m p1 p2) k
  obtain ⟨fs, hr, hrun, hended, hW, hsame⟩ := X0.leave (v := some (.int (own_f7_0 p1 p2))) (fun h => by rw [Bd.returns] at h; cases h) Bd.notSynchronized
  refine ⟨_, _, pre0 _ ?_, hrun, hended, _, _, rfl, ?_, ⟨_, rfl⟩, hW, hsame.mono (by decide) (by decide)⟩
  · exact own_b7_0 X0 hx hby hown hZ hw Bd.returns p1 p2 _ rfl hr
  · exact ⟨rfl, N0, e0⟩
theorem d14_0 : decode prog_74_method_29_code 0 = .ok (.lload_n 1, 1) := by decide +kernel
theorem d14_1 : decode prog_74_method_29_code 1 = .ok (.aload_n 0, 1) := by decide +kernel
theorem d14_2 : decode prog_74_method_29_code 2 = .ok (.getfield 20, 3) := by decide +kernel
theorem d14_5 : decode prog_74_method_29_code 5 = .ok (.lxor, 1) := by decide +kernel
theorem d14_6 : decode prog_74_method_29_code 6 = .ok (.lreturn, 1) := by decide +kernel
theorem ef_14 (m : MethodId) (x0 : Addr) (x1 : Int64) : entryFrame m #[(.ref x0), (.long x1)] 3 = mkF m 0 #[rv x0, lv x1, .second] [] := by first | (simp [entryFrame, mkF, argsToLocals, Value.category, maxLocals]; done) | rfl
theorem pn_14 : plainName "com/example/bitrun/bitrun/orc/intv2/Segments" = true := by first | (simp [plainName, overriddenIn]; done) | decide +kernel
def Q_rm14 (Z : State) (ob : Addr) (p1 : Int64) (va vb vl vh vf vg vs : Addr) (kv kb kl kh kf kg ks : ClassId) (fl : Int64) (nn nb : Int32) (VV : List Value) (cn : Int32) (VB VL VH VF VG VS : List Value) (h0 : Heap) (n0 : Nat) (v : Option Value) (h : Heap) (L : List Loc) : Prop := v = some (.long (p1 ^^^ fl)) ∧ Fr n0 L ∧ h = h0
set_option maxRecDepth 65536 in
set_option maxHeartbeats 40000000 in
theorem rm14 (l : Launch) (Z : State) (a0 : Array Value) (hw : ∀ d ∈ tables_1, d.before a0 Z = true) (ws : List Jvm.Cond) (ob : Addr) (p1 : Int64) (va vb vl vh vf vg vs : Addr) (kv kb kl kh kf kg ks : ClassId) (fl : Int64) (nn nb : Int32) (VV : List Value) (cn : Int32) (VB VL VH VF VG VS : List Value) (h0 : Heap) (n0 : Nat) (Z0 : n0 ≤ h0.size) (hO : own_O n0 ob va vb vl vh vf vg vs nn nb) (hG : own_G Z h0 ob va vb vl vh vf vg vs kv kb kl kh kf kg ks fl nn nb VV (.ref va) cn VB VL VH VF VG VS)  :
    MetFree l (⟨"com/example/bitrun/bitrun/orc/intv2/Segments", "key", "(J)J"⟩ : MethodName) (head1 (Jvm.Cond.code (⟨"com/example/bitrun/bitrun/orc/intv2/Segments", "key", "(J)J"⟩ : MethodName) prog_74_method_29_code 3 (some .long) :: ws) ({ frames := 0, cells := 0, slots := 0, locals := 0 } : Room)) (fun a U => a = #[(.ref ob), (.long p1)] ∧ Z.Warmed39 U.vm ∧ U.heap = h0) (fun _ _ _ _ _ => True) (fun _ U o U' => ∃ v L, o = .returned v ∧ Q_rm14 Z ob p1 va vb vl vh vf vg vs kv kb kl kh kf kg ks fl nn nb VV cn VB VL VH VF VG VS h0 n0 v U'.heap L ∧ FrameEnd U o U' L ({ frames := 0, cells := 0, slots := 0, locals := 0 } : Room).cells ({ frames := 0, cells := 0, slots := 0, locals := 0 } : Room).slots) := by
  refine MetFree.of_bodySF (plainFor_of_name pn_14) hisR ?_
  intro p e s m args below meth c s₁ Bd hml0 hP hK
  obtain ⟨rfl, hZ, hh⟩ := hP
  have hx := Bd.exec
  have hby := Bd.bytes
  have hml : c.maxLocals = 3 := hml0
  have hown : s.vm.findClass "com/example/bitrun/bitrun/orc/intv2/Segments" = some m.cls := findClass_of_methodNamed Bd.named
  have hnm := (name_of_methodNamed Bd.named Bd.method).1
  have X0 : Stand p l e ({ frames := 0, cells := 0, slots := 0, locals := 0 } : Room) s m #[(.ref ob), (.long p1)] below meth c s₁ [] 0 0 := Stand.of_body Bd
  have e0 : s₁.heap = h0 := by rw [← hh, Bd.state]; rfl
  have N0 := Fr.nil n0
  have pre0 : ∀ t, Steps p.tables e below (s₁.setTop (mkF m 0 #[rv ob, lv p1, .second] [])) t → Steps p.tables e below (s₁.setTop (entryFrame m #[(.ref ob), (.long p1)] 3)) t := fun t k => castTop (ef_14 m ob p1) k
  obtain ⟨S0, hS0⟩ : ∃ z, z = (s₁.setTop (entryFrame m #[(.ref ob), (.long p1)] 3)) := ⟨_, rfl⟩
  rw [← hS0] at pre0 ⊢
  have K0 : own_R p e below (s₁.setTop (mkF m 0 #[rv ob, lv p1, .second] [])) S0 := pre0
  obtain ⟨o1, o2, o3, o4, o5, o6, o7, o8, o9, o10, o11⟩ := id hO
  have K1 : own_R p e below (s₁.setTop (mkF m 2 #[rv ob, lv p1, .second] [(.ref ob), (.long p1)])) S0 := by
    intro t hk
    refine K0 t ?_
    show Steps p.tables e below (s₁.setTop (mkF m 0 #[rv ob, lv p1, .second] [])) _
    refine XS.lloadN X0.here hx rfl (hb hby d14_0) rfl ?_
    refine XS.aloadN X0.here hx rfl (hb hby d14_1) rfl rfl ?_
    exact hk
  obtain ⟨T2, X2, e2, st2⟩ := getF X0 hx hZ hown (host := "") (Or.inl (hw _ (List.mem_of_getElem? (i := 17) rfl))) Via.refl e0 (own_pF_flip hG) (g := (mkF m 2 #[rv ob, lv p1, .second] [(.ref ob), (.long p1)])) rfl rfl (hb hby d14_2)
  have K2 : own_R p e below (T2.setTop (mkF m 5 #[rv ob, lv p1, .second] [(.long fl), (.long p1)])) S0 := fun t hk => K1 t (st2 _ hk)
  have K3 : own_R p e below (T2.setTop (mkF m 6 #[rv ob, lv p1, .second] [(.long (p1 ^^^ fl))])) S0 := by
    intro t hk
    refine K2 t ?_
    show Steps p.tables e below (T2.setTop (mkF m 5 #[rv ob, lv p1, .second] [(.long fl), (.long p1)])) _
    refine XS.lxor X2.here hx rfl (hb hby d14_5) rfl ?_
    exact hk
  obtain ⟨fs, hr, hrun, hended, hW, hsame⟩ := X2.leave (v := some (.long (p1 ^^^ fl))) (fun h => by rw [Bd.returns] at h; cases h) Bd.notSynchronized
  exact ⟨_, _, K3 _ (X2.lreturnOut hx Bd.returns (hb hby d14_6) hr), hrun, hended, _, _, rfl, ⟨rfl, N0, e2⟩, ⟨_, rfl⟩, hW, hsame.mono (by decide) (by decide)⟩
theorem d13_0 : decode prog_74_method_12_code 0 = .ok (.aload_n 0, 1) := by decide +kernel
theorem d13_1 : decode prog_74_method_12_code 1 = .ok (.getfield 27, 3) := by decide +kernel
theorem d13_4 : decode prog_74_method_12_code 4 = .ok (.aload_n 0, 1) := by decide +kernel
theorem d13_5 : decode prog_74_method_12_code 5 = .ok (.getfield 64, 3) := by decide +kernel
theorem d13_8 : decode prog_74_method_12_code 8 = .ok (.iaload, 1) := by decide +kernel
theorem d13_9 : decode prog_74_method_12_code 9 = .ok (.istore_n 1, 1) := by decide +kernel
theorem d13_10 : decode prog_74_method_12_code 10 = .ok (.aload_n 0, 1) := by decide +kernel
theorem d13_11 : decode prog_74_method_12_code 11 = .ok (.aload_n 0, 1) := by decide +kernel
theorem d13_12 : decode prog_74_method_12_code 12 = .ok (.getfield 59, 3) := by decide +kernel
theorem d13_15 : decode prog_74_method_12_code 15 = .ok (.aload_n 0, 1) := by decide +kernel
theorem d13_16 : decode prog_74_method_12_code 16 = .ok (.getfield 64, 3) := by decide +kernel
theorem d13_19 : decode prog_74_method_12_code 19 = .ok (.ifCond .ne 7, 3) := by decide +kernel
theorem d13_22 : decode prog_74_method_12_code 22 = .ok (.iload_n 1, 1) := by decide +kernel
theorem d13_23 : decode prog_74_method_12_code 23 = .ok (.goto 6, 3) := by decide +kernel
theorem d13_26 : decode prog_74_method_12_code 26 = .ok (.iload_n 1, 1) := by decide +kernel
theorem d13_27 : decode prog_74_method_12_code 27 = .ok (.iconst 1, 1) := by decide +kernel
theorem d13_28 : decode prog_74_method_12_code 28 = .ok (.isub, 1) := by decide +kernel
theorem d13_29 : decode prog_74_method_12_code 29 = .ok (.laload, 1) := by decide +kernel
theorem d13_30 : decode prog_74_method_12_code 30 = .ok (.invokevirtual 87, 3) := by decide +kernel
theorem d13_33 : decode prog_74_method_12_code 33 = .ok (.lreturn, 1) := by decide +kernel
theorem ef_13 (m : MethodId) (x0 : Addr) : entryFrame m #[(.ref x0)] 2 = mkF m 0 #[rv x0, .unset] [] := by first | (simp [entryFrame, mkF, argsToLocals, Value.category, maxLocals]; done) | rfl
theorem pn_13 : plainName "com/example/bitrun/bitrun/orc/intv2/Segments" = true := by first | (simp [plainName, overriddenIn]; done) | decide +kernel
def Q_rm13 (Z : State) (ob : Addr) (va vb vl vh vf vg vs : Addr) (kv kb kl kh kf kg ks : ClassId) (fl : Int64) (nn nb : Int32) (VV : List Value) (cn : Int32) (VB VL VH VF VG VS : List Value) (h0 : Heap) (n0 : Nat) (v : Option Value) (h : Heap) (L : List Loc) : Prop := (∃ w, v = some (.long w)) ∧ Fr n0 L ∧ h = h0
set_option maxRecDepth 65536 in
set_option maxHeartbeats 40000000 in
theorem rm13 (l : Launch) (Z : State) (a0 : Array Value) (hw : ∀ d ∈ tables_1, d.before a0 Z = true) (ws : List Jvm.Cond) (ob : Addr) (va vb vl vh vf vg vs : Addr) (kv kb kl kh kf kg ks : ClassId) (fl : Int64) (nn nb : Int32) (VV : List Value) (cn : Int32) (VB VL VH VF VG VS : List Value) (h0 : Heap) (n0 : Nat) (Z0 : n0 ≤ h0.size) (hO : own_O n0 ob va vb vl vh vf vg vs nn nb) (hG : own_G Z h0 ob va vb vl vh vf vg vs kv kb kl kh kf kg ks fl nn nb VV (.ref va) cn VB VL VH VF VG VS) (hcn : 0 ≤ cn.toInt ∧ cn.toInt < nn.toInt) (sx : Int32) (hsx : VB.getD cn.toNatClampNeg (.int (0 : Int32)) = .int sx) (hs0 : 0 ≤ sx.toInt ∧ sx.toInt < 6) (hs1 : ¬ cn = (0 : Int32) → 1 ≤ sx.toInt) :
    MetFree l (⟨"com/example/bitrun/bitrun/orc/intv2/Segments", "keyBeforeNext", "()J"⟩ : MethodName) (head1 (Jvm.Cond.code (⟨"com/example/bitrun/bitrun/orc/intv2/Segments", "keyBeforeNext", "()J"⟩ : MethodName) prog_74_method_12_code 2 (some .long) :: ws) ({ frames := 1, cells := 0, slots := 0, locals := 14 } : Room)) (fun a U => a = #[(.ref ob)] ∧ Z.Warmed39 U.vm ∧ U.heap = h0) (fun _ _ _ _ _ => True) (fun _ U o U' => ∃ v L, o = .returned v ∧ Q_rm13 Z ob va vb vl vh vf vg vs kv kb kl kh kf kg ks fl nn nb VV cn VB VL VH VF VG VS h0 n0 v U'.heap L ∧ FrameEnd U o U' L ({ frames := 1, cells := 0, slots := 0, locals := 14 } : Room).cells ({ frames := 1, cells := 0, slots := 0, locals := 14 } : Room).slots) := by
  refine MetFree.of_bodySF (plainFor_of_name pn_13) hisR ?_
  intro p e s m args below meth c s₁ Bd hml0 hP hK
  obtain ⟨rfl, hZ, hh⟩ := hP
  have hx := Bd.exec
  have hby := Bd.bytes
  have hml : c.maxLocals = 2 := hml0
  have hown : s.vm.findClass "com/example/bitrun/bitrun/orc/intv2/Segments" = some m.cls := findClass_of_methodNamed Bd.named
  have hnm := (name_of_methodNamed Bd.named Bd.method).1
  have X0 : Stand p l e ({ frames := 1, cells := 0, slots := 0, locals := 14 } : Room) s m #[(.ref ob)] below meth c s₁ [] 0 0 := Stand.of_body Bd
  have e0 : s₁.heap = h0 := by rw [← hh, Bd.state]; rfl
  have N0 := Fr.nil n0
  have pre0 : ∀ t, Steps p.tables e below (s₁.setTop (mkF m 0 #[rv ob, .unset] [])) t → Steps p.tables e below (s₁.setTop (entryFrame m #[(.ref ob)] 2)) t := fun t k => castTop (ef_13 m ob) k
  obtain ⟨S0, hS0⟩ : ∃ z, z = (s₁.setTop (entryFrame m #[(.ref ob)] 2)) := ⟨_, rfl⟩
  rw [← hS0] at pre0 ⊢
  have K0 : own_R p e below (s₁.setTop (mkF m 0 #[rv ob, .unset] [])) S0 := pre0
  obtain ⟨o1, o2, o3, o4, o5, o6, o7, o8, o9, o10, o11⟩ := id hO
  have K1 : own_R p e below (s₁.setTop (mkF m 1 #[rv ob, .unset] [(.ref ob)])) S0 := by
    intro t hk
    refine K0 t ?_
    show Steps p.tables e below (s₁.setTop (mkF m 0 #[rv ob, .unset] [])) _
    refine XS.aloadN X0.here hx rfl (hb hby d13_0) rfl rfl ?_
    exact hk
  obtain ⟨T2, X2, e2, st2⟩ := getF X0 hx hZ hown (host := "") (Or.inl (hw _ (List.mem_of_getElem? (i := 21) rfl))) Via.refl e0 (own_pF_bounds hG) (g := (mkF m 1 #[rv ob, .unset] [(.ref ob)])) rfl rfl (hb hby d13_1)
  have K2 : own_R p e below (T2.setTop (mkF m 4 #[rv ob, .unset] [(.ref vb)])) S0 := fun t hk => K1 t (st2 _ hk)
  have K3 : own_R p e below (T2.setTop (mkF m 5 #[rv ob, .unset] [(.ref ob), (.ref vb)])) S0 := by
    intro t hk
    refine K2 t ?_
    show Steps p.tables e below (T2.setTop (mkF m 4 #[rv ob, .unset] [(.ref vb)])) _
    refine XS.aloadN X2.here hx rfl (hb hby d13_4) rfl rfl ?_
    exact hk
  obtain ⟨T4, X4, e4, st4⟩ := getF X2 hx hZ hown (host := "") (Or.inl (hw _ (List.mem_of_getElem? (i := 73) rfl))) Via.refl e2 (own_pF_count hG) (g := (mkF m 5 #[rv ob, .unset] [(.ref ob), (.ref vb)])) rfl rfl (hb hby d13_5)
  have K4 : own_R p e below (T4.setTop (mkF m 8 #[rv ob, .unset] [(.int cn), (.ref vb)])) S0 := fun t hk => K3 t (st4 _ hk)
  obtain ⟨w1, hv_w1, st5⟩ := own_ldI X4 hx hZ e4 (own_pV_vb hG) (j := cn) (own_b cn nb (by omega)) (g := (mkF m 8 #[rv ob, .unset] [(.int cn), (.ref vb)])) rfl rfl (hb hby d13_8)
  rw [show w1 = sx from Value.int.inj ((hsx).symm.trans hv_w1 |>.symm)] at st5
  have K5 : own_R p e below (T4.setTop (mkF m 9 #[rv ob, .unset] [(.int sx)])) S0 := fun t hk => K4 t (st5 _ hk)
  have K6 : own_R p e below (T4.setTop (mkF m 12 #[rv ob, iv sx] [(.ref ob), (.ref ob)])) S0 := by
    intro t hk
    refine K5 t ?_
    show Steps p.tables e below (T4.setTop (mkF m 9 #[rv ob, .unset] [(.int sx)])) _
    refine XS.istoreN X4.here hx rfl (hb hby d13_9) rfl (l' := #[rv ob, iv sx]) rfl ?_
    refine XS.aloadN X4.here hx rfl (hb hby d13_10) rfl rfl ?_
    refine XS.aloadN X4.here hx rfl (hb hby d13_11) rfl rfl ?_
    exact hk
  obtain ⟨T7, X7, e7, st7⟩ := getF X4 hx hZ hown (host := "") (Or.inl (hw _ (List.mem_of_getElem? (i := 66) rfl))) Via.refl e4 (own_pF_values hG) (g := (mkF m 12 #[rv ob, iv sx] [(.ref ob), (.ref ob)])) rfl rfl (hb hby d13_12)
  have K7 : own_R p e below (T7.setTop (mkF m 15 #[rv ob, iv sx] [(.ref va), (.ref ob)])) S0 := fun t hk => K6 t (st7 _ hk)
  have K8 : own_R p e below (T7.setTop (mkF m 16 #[rv ob, iv sx] [(.ref ob), (.ref va), (.ref ob)])) S0 := by
    intro t hk
    refine K7 t ?_
    show Steps p.tables e below (T7.setTop (mkF m 15 #[rv ob, iv sx] [(.ref va), (.ref ob)])) _
    refine XS.aloadN X7.here hx rfl (hb hby d13_15) rfl rfl ?_
    exact hk
  obtain ⟨T9, X9, e9, st9⟩ := getF X7 hx hZ hown (host := "") (Or.inl (hw _ (List.mem_of_getElem? (i := 73) rfl))) Via.refl e7 (own_pF_count hG) (g := (mkF m 16 #[rv ob, iv sx] [(.ref ob), (.ref va), (.ref ob)])) rfl rfl (hb hby d13_16)
  have K9 : own_R p e below (T9.setTop (mkF m 19 #[rv ob, iv sx] [(.int cn), (.ref va), (.ref ob)])) S0 := fun t hk => K8 t (st9 _ hk)
  by_cases hc19 : cn = (0 : Int32)
  · have K10 : own_R p e below (T9.setTop (mkF m 22 #[rv ob, iv sx] [(.ref va), (.ref ob)])) S0 := by
      intro t hk
      refine K9 t ?_
      show Steps p.tables e below (T9.setTop (mkF m 19 #[rv ob, iv sx] [(.int cn), (.ref va), (.ref ob)])) _
      refine XS.ifNo X9.here hx rfl (hb hby d13_19) rfl ((if0 _ _).trans (teq hc19).2) ?_
      exact hk
    have K11 : own_R p e below (T9.setTop (mkF m 29 #[rv ob, iv sx] [(.int sx), (.ref va), (.ref ob)])) S0 := by
      intro t hk
      refine K10 t ?_
      show Steps p.tables e below (T9.setTop (mkF m 22 #[rv ob, iv sx] [(.ref va), (.ref ob)])) _
      refine XS.iloadN X9.here hx rfl (hb hby d13_22) rfl ?_
      refine XS.goto X9.here hx rfl (pc0 := 23) (pc' := 29) rfl (hb hby d13_23) (by decide) (by decide) ?_
      exact hk
    obtain ⟨w2, hv_w2, st12⟩ := own_ldJ X9 hx hZ e9 (own_pV_va hG) (j := sx) (own_b sx (6 : Int32) (by rw [own_six]; omega)) (g := (mkF m 29 #[rv ob, iv sx] [(.int sx), (.ref va), (.ref ob)])) rfl rfl (hb hby d13_29)
    have K12 : own_R p e below (T9.setTop (mkF m 30 #[rv ob, iv sx] [(.long w2), (.ref ob)])) S0 := fun t hk => K11 t (st12 _ hk)
    obtain ⟨cq13, kq13, q13a, q13b, q13c⟩ := isOf hZ e9 (own_pE hG)
    obtain ⟨_, _, ⟨T13, L13, k13, n13⟩, -, X13, ⟨Lc13, hQ13, l13, y13, z13⟩, st13⟩ := X9.virtualBack hx (y := (⟨"com/example/bitrun/bitrun/orc/intv2/Segments", "key", "(J)J"⟩ : MethodName)) (z := (⟨"com/example/bitrun/bitrun/orc/intv2/Segments", "key", "(J)J"⟩ : MethodName)) hown (mvT hZ (hw _ (List.mem_of_getElem? (i := 85) rfl))) (mvT hZ (hw _ (List.mem_of_getElem? (i := 86) rfl))) (notFace_of_selects (args := #[]) (mvT hZ (hw _ (List.mem_of_getElem? (i := 88) rfl)))) (mvT hZ (hw _ (List.mem_of_getElem? (i := 88) rfl))) (mvT hZ (hw _ (List.mem_of_getElem? (i := 87) rfl))) (by decide) (backOf (W := 0) (rm14 l Z a0 hw [] ob w2 va vb vl vh vf vg vs kv kb kl kh kf kg ks fl nn nb VV cn VB VL VH VF VG VS h0 n0 Z0 hO hG) hZ (hw _ (List.mem_of_getElem? (i := 89) rfl)) (hw _ (List.mem_of_getElem? (i := 4) rfl)) (by decide) (by decide)) q13a q13c (g := (mkF m 30 #[rv ob, iv sx] [(.long w2), (.ref ob)])) rfl (by rw [hml]; rfl) (Steps.refl _) (argsL := [(.long w2)]) (rest := []) (lenOf (by decide +kernel : parseMethodDescriptor "(J)J" = some ⟨[.long], (some .long)⟩) rfl) rfl (by show 2 * 0 + _ ≤ _; exact Nat.le_of_eq rfl) (hb hby d13_30) (fun _ _ => ⟨rfl, e9, (by decide : 0 + 0 ≤ _), (by decide : 0 + 0 ≤ _)⟩)
    dsimp only [Pt.U, Pt.locs, Pt.cells, Pt.slots] at X13 l13 y13 z13 st13 hQ13
    replace y13 := y13.symm; replace z13 := z13.symm; subst l13 y13 z13
    obtain ⟨rfl, Nq13, e13⟩ := hQ13
    have N13 := Fr.app N0 Nq13
    have K13 : own_R p e below (T13.setTop (mkF m 33 #[rv ob, iv sx] [(.long (w2 ^^^ fl))])) S0 := fun t hk => K12 t (st13.trans hk)
    obtain ⟨fs, hr, hrun, hended, hW, hsame⟩ := X13.leave (v := some (.long (w2 ^^^ fl))) (fun h => by rw [Bd.returns] at h; cases h) Bd.notSynchronized
    exact ⟨_, _, K13 _ (X13.lreturnOut hx Bd.returns (hb hby d13_33) hr), hrun, hended, _, _, rfl, ⟨⟨_, rfl⟩, N13, e13⟩, ⟨_, rfl⟩, hW, hsame.mono (by decide) (by decide)⟩
  · have K14 : own_R p e below (T9.setTop (mkF m 26 #[rv ob, iv sx] [(.ref va), (.ref ob)])) S0 := by
      intro t hk
      refine K9 t ?_
      show Steps p.tables e below (T9.setTop (mkF m 19 #[rv ob, iv sx] [(.int cn), (.ref va), (.ref ob)])) _
      refine XS.ifYes X9.here hx rfl (pc0 := 19) (pc' := 26) rfl (hb hby d13_19) rfl ((if0 _ _).trans (feq hc19).2) (by decide) (by decide) ?_
      exact hk
    have hq := hs1 hc19
    have hq2 := own_sub1 sx (by omega)
    have K15 : own_R p e below (T9.setTop (mkF m 29 #[rv ob, iv sx] [(.int (sx - (1 : Int32))), (.ref va), (.ref ob)])) S0 := by
      intro t hk
      refine K14 t ?_
      show Steps p.tables e below (T9.setTop (mkF m 26 #[rv ob, iv sx] [(.ref va), (.ref ob)])) _
      refine XS.iloadN X9.here hx rfl (hb hby d13_26) rfl ?_
      refine XS.iconst X9.here hx rfl (hb hby d13_27) ?_
      refine XS.isub X9.here hx rfl (hb hby d13_28) rfl ?_
      exact hk
    obtain ⟨w2, hv_w2, st16⟩ := own_ldJ X9 hx hZ e9 (own_pV_va hG) (j := (sx - (1 : Int32))) (own_b (sx - (1 : Int32)) (6 : Int32) (by rw [own_six, hq2]; omega)) (g := (mkF m 29 #[rv ob, iv sx] [(.int (sx - (1 : Int32))), (.ref va), (.ref ob)])) rfl rfl (hb hby d13_29)
    have K16 : own_R p e below (T9.setTop (mkF m 30 #[rv ob, iv sx] [(.long w2), (.ref ob)])) S0 := fun t hk => K15 t (st16 _ hk)
    obtain ⟨cq17, kq17, q17a, q17b, q17c⟩ := isOf hZ e9 (own_pE hG)
    obtain ⟨_, _, ⟨T17, L17, k17, n17⟩, -, X17, ⟨Lc17, hQ17, l17, y17, z17⟩, st17⟩ := X9.virtualBack hx (y := (⟨"com/example/bitrun/bitrun/orc/intv2/Segments", "key", "(J)J"⟩ : MethodName)) (z := (⟨"com/example/bitrun/bitrun/orc/intv2/Segments", "key", "(J)J"⟩ : MethodName)) hown (mvT hZ (hw _ (List.mem_of_getElem? (i := 85) rfl))) (mvT hZ (hw _ (List.mem_of_getElem? (i := 86) rfl))) (notFace_of_selects (args := #[]) (mvT hZ (hw _ (List.mem_of_getElem? (i := 88) rfl)))) (mvT hZ (hw _ (List.mem_of_getElem? (i := 88) rfl))) (mvT hZ (hw _ (List.mem_of_getElem? (i := 87) rfl))) (by decide) (backOf (W := 0) (rm14 l Z a0 hw [] ob w2 va vb vl vh vf vg vs kv kb kl kh kf kg ks fl nn nb VV cn VB VL VH VF VG VS h0 n0 Z0 hO hG) hZ (hw _ (List.mem_of_getElem? (i := 89) rfl)) (hw _ (List.mem_of_getElem? (i := 4) rfl)) (by decide) (by decide)) q17a q17c (g := (mkF m 30 #[rv ob, iv sx] [(.long w2), (.ref ob)])) rfl (by rw [hml]; rfl) (Steps.refl _) (argsL := [(.long w2)]) (rest := []) (lenOf (by decide +kernel : parseMethodDescriptor "(J)J" = some ⟨[.long], (some .long)⟩) rfl) rfl (by show 2 * 0 + _ ≤ _; exact Nat.le_of_eq rfl) (hb hby d13_30) (fun _ _ => ⟨rfl, e9, (by decide : 0 + 0 ≤ _), (by decide : 0 + 0 ≤ _)⟩)
    dsimp only [Pt.U, Pt.locs, Pt.cells, Pt.slots] at X17 l17 y17 z17 st17 hQ17
    replace y17 := y17.symm; replace z17 := z17.symm; subst l17 y17 z17
    obtain ⟨rfl, Nq17, e17⟩ := hQ17
    have N17 := Fr.app N0 Nq17
    have K17 : own_R p e below (T17.setTop (mkF m 33 #[rv ob, iv sx] [(.long (w2 ^^^ fl))])) S0 := fun t hk => K16 t (st17.trans hk)
    obtain ⟨fs, hr, hrun, hended, hW, hsame⟩ := X17.leave (v := some (.long (w2 ^^^ fl))) (fun h => by rw [Bd.returns] at h; cases h) Bd.notSynchronized
    exact ⟨_, _, K17 _ (X17.lreturnOut hx Bd.returns (hb hby d13_33) hr), hrun, hended, _, _, rfl, ⟨⟨_, rfl⟩, N17, e17⟩, ⟨_, rfl⟩, hW, hsame.mono (by decide) (by decide)⟩
theorem d18_0 : decode prog_74_method_16_code 0 = .ok (.aload_n 0, 1) := by decide +kernel
theorem d18_1 : decode prog_74_method_16_code 1 = .ok (.getfield 64, 3) := by decide +kernel
theorem d18_4 : decode prog_74_method_16_code 4 = .ok (.aload_n 0, 1) := by decide +kernel
theorem d18_5 : decode prog_74_method_16_code 5 = .ok (.getfield 31, 3) := by decide +kernel
theorem d18_8 : decode prog_74_method_16_code 8 = .ok (.arraylength, 1) := by decide +kernel
theorem d18_9 : decode prog_74_method_16_code 9 = .ok (.if_icmp .ne 17, 3) := by decide +kernel
theorem d18_12 : decode prog_74_method_16_code 12 = .ok (.aload_n 0, 1) := by decide +kernel
theorem d18_13 : decode prog_74_method_16_code 13 = .ok (.getfield 24, 3) := by decide +kernel
theorem d18_16 : decode prog_74_method_16_code 16 = .ok (.ifCond .eq 10, 3) := by decide +kernel
theorem d18_19 : decode prog_74_method_16_code 19 = .ok (.aload_n 0, 1) := by decide +kernel
theorem d18_20 : decode prog_74_method_16_code 20 = .ok (.invokevirtual 106, 3) := by decide +kernel
theorem d18_23 : decode prog_74_method_16_code 23 = .ok (.goto 31, 3) := by decide +kernel
theorem d18_26 : decode prog_74_method_16_code 26 = .ok (.aload_n 0, 1) := by decide +kernel
theorem d18_27 : decode prog_74_method_16_code 27 = .ok (.getfield 64, 3) := by decide +kernel
theorem d18_30 : decode prog_74_method_16_code 30 = .ok (.aload_n 0, 1) := by decide +kernel
theorem d18_31 : decode prog_74_method_16_code 31 = .ok (.getfield 31, 3) := by decide +kernel
theorem d18_34 : decode prog_74_method_16_code 34 = .ok (.arraylength, 1) := by decide +kernel
theorem d18_35 : decode prog_74_method_16_code 35 = .ok (.if_icmp .ne 19, 3) := by decide +kernel
theorem d18_38 : decode prog_74_method_16_code 38 = .ok (.aload_n 0, 1) := by decide +kernel
theorem d18_39 : decode prog_74_method_16_code 39 = .ok (.bipush 16, 2) := by decide +kernel
theorem d18_41 : decode prog_74_method_16_code 41 = .ok (.iconst 2, 1) := by decide +kernel
theorem d18_42 : decode prog_74_method_16_code 42 = .ok (.aload_n 0, 1) := by decide +kernel
theorem d18_43 : decode prog_74_method_16_code 43 = .ok (.getfield 31, 3) := by decide +kernel
theorem d18_46 : decode prog_74_method_16_code 46 = .ok (.arraylength, 1) := by decide +kernel
theorem d18_47 : decode prog_74_method_16_code 47 = .ok (.imul, 1) := by decide +kernel
theorem d18_48 : decode prog_74_method_16_code 48 = .ok (.invokestatic 109, 3) := by decide +kernel
theorem d18_51 : decode prog_74_method_16_code 51 = .ok (.invokevirtual 48, 3) := by decide +kernel
theorem d18_54 : decode prog_74_method_16_code 54 = .ok (.aload_n 0, 1) := by decide +kernel
theorem d18_55 : decode prog_74_method_16_code 55 = .ok (.dup, 1) := by decide +kernel
theorem d18_56 : decode prog_74_method_16_code 56 = .ok (.getfield 64, 3) := by decide +kernel
theorem d18_59 : decode prog_74_method_16_code 59 = .ok (.dup_x1, 1) := by decide +kernel
theorem d18_60 : decode prog_74_method_16_code 60 = .ok (.iconst 1, 1) := by decide +kernel
theorem d18_61 : decode prog_74_method_16_code 61 = .ok (.iadd, 1) := by decide +kernel
theorem d18_62 : decode prog_74_method_16_code 62 = .ok (.putfield 64, 3) := by decide +kernel
theorem d18_65 : decode prog_74_method_16_code 65 = .ok (.ireturn, 1) := by decide +kernel
theorem ef_18 (m : MethodId) (x0 : Addr) : entryFrame m #[(.ref x0)] 1 = mkF m 0 #[rv x0] [] := by first | (simp [entryFrame, mkF, argsToLocals, Value.category, maxLocals]; done) | rfl
theorem pn_18 : plainName "com/example/bitrun/bitrun/orc/intv2/Segments" = true := by first | (simp [plainName, overriddenIn]; done) | decide +kernel
def Q_rm18 (Z : State) (ob : Addr) (va vb vl vh vf vg vs : Addr) (kv kb kl kh kf kg ks : ClassId) (fl : Int64) (nn nb : Int32) (VV : List Value) (cn : Int32) (VB VL VH VF VG VS : List Value) (h0 : Heap) (n0 : Nat) (v : Option Value) (h : Heap) (L : List Loc) : Prop := v = some (.int cn) ∧ Fr n0 L ∧ Keep h0 h [ob, vb, vl, vh, vf, vg, vs] ∧ own_G Z h ob va vb vl vh vf vg vs kv kb kl kh kf kg ks fl nn nb VV (.ref va) (cn + (1 : Int32)) VB VL VH VF VG VS
set_option maxRecDepth 65536 in
set_option maxHeartbeats 40000000 in
theorem rm18 (l : Launch) (Z : State) (a0 : Array Value) (hw : ∀ d ∈ tables_1, d.before a0 Z = true) (ws : List Jvm.Cond) (ob : Addr) (va vb vl vh vf vg vs : Addr) (kv kb kl kh kf kg ks : ClassId) (fl : Int64) (nn nb : Int32) (VV : List Value) (cn : Int32) (VB VL VH VF VG VS : List Value) (h0 : Heap) (n0 : Nat) (Z0 : n0 ≤ h0.size) (hO : own_O n0 ob va vb vl vh vf vg vs nn nb) (hG : own_G Z h0 ob va vb vl vh vf vg vs kv kb kl kh kf kg ks fl nn nb VV (.ref va) cn VB VL VH VF VG VS) (hcn : 0 ≤ cn.toInt ∧ cn.toInt < nn.toInt) :
    MetFree l (⟨"com/example/bitrun/bitrun/orc/intv2/Segments", "next", "()I"⟩ : MethodName) (head1 (Jvm.Cond.code (⟨"com/example/bitrun/bitrun/orc/intv2/Segments", "next", "()I"⟩ : MethodName) prog_74_method_16_code 1 (some .int) :: ws) ({ frames := 0, cells := 0, slots := 0, locals := 0 } : Room)) (fun a U => a = #[(.ref ob)] ∧ Z.Warmed39 U.vm ∧ U.heap = h0) (fun _ _ _ _ _ => True) (fun _ U o U' => ∃ v L, o = .returned v ∧ Q_rm18 Z ob va vb vl vh vf vg vs kv kb kl kh kf kg ks fl nn nb VV cn VB VL VH VF VG VS h0 n0 v U'.heap L ∧ FrameEnd U o U' L ({ frames := 0, cells := 0, slots := 0, locals := 0 } : Room).cells ({ frames := 0, cells := 0, slots := 0, locals := 0 } : Room).slots) := by
  refine MetFree.of_bodySF (plainFor_of_name pn_18) hisR ?_
  intro p e s m args below meth c s₁ Bd hml0 hP hK
  obtain ⟨rfl, hZ, hh⟩ := hP
  have hx := Bd.exec
  have hby := Bd.bytes
  have hml : c.maxLocals = 1 := hml0
  have hown : s.vm.findClass "com/example/bitrun/bitrun/orc/intv2/Segments" = some m.cls := findClass_of_methodNamed Bd.named
  have hnm := (name_of_methodNamed Bd.named Bd.method).1
  have X0 : Stand p l e ({ frames := 0, cells := 0, slots := 0, locals := 0 } : Room) s m #[(.ref ob)] below meth c s₁ [] 0 0 := Stand.of_body Bd
  have e0 : s₁.heap = h0 := by rw [← hh, Bd.state]; rfl
  have N0 := Fr.nil n0
  have pre0 : ∀ t, Steps p.tables e below (s₁.setTop (mkF m 0 #[rv ob] [])) t → Steps p.tables e below (s₁.setTop (entryFrame m #[(.ref ob)] 1)) t := fun t k => castTop (ef_18 m ob) k
  obtain ⟨S0, hS0⟩ : ∃ z, z = (s₁.setTop (entryFrame m #[(.ref ob)] 1)) := ⟨_, rfl⟩
  rw [← hS0] at pre0 ⊢
  have K0 : own_R p e below (s₁.setTop (mkF m 0 #[rv ob] [])) S0 := pre0
  obtain ⟨o1, o2, o3, o4, o5, o6, o7, o8, o9, o10, o11⟩ := id hO
  have hne : ¬ (cn = nn) := fun q => by rw [q] at hcn; omega
  have K1 : own_R p e below (s₁.setTop (mkF m 1 #[rv ob] [(.ref ob)])) S0 := by
    intro t hk
    refine K0 t ?_
    show Steps p.tables e below (s₁.setTop (mkF m 0 #[rv ob] [])) _
    refine XS.aloadN X0.here hx rfl (hb hby d18_0) rfl rfl ?_
    exact hk
  obtain ⟨T2, X2, e2, st2⟩ := getF X0 hx hZ hown (host := "") (Or.inl (hw _ (List.mem_of_getElem? (i := 73) rfl))) Via.refl e0 (own_pF_count hG) (g := (mkF m 1 #[rv ob] [(.ref ob)])) rfl rfl (hb hby d18_1)
  have K2 : own_R p e below (T2.setTop (mkF m 4 #[rv ob] [(.int cn)])) S0 := fun t hk => K1 t (st2 _ hk)
  have K3 : own_R p e below (T2.setTop (mkF m 5 #[rv ob] [(.ref ob), (.int cn)])) S0 := by
    intro t hk
    refine K2 t ?_
    show Steps p.tables e below (T2.setTop (mkF m 4 #[rv ob] [(.int cn)])) _
    refine XS.aloadN X2.here hx rfl (hb hby d18_4) rfl rfl ?_
    exact hk
  obtain ⟨T4, X4, e4, st4⟩ := getF X2 hx hZ hown (host := "") (Or.inl (hw _ (List.mem_of_getElem? (i := 23) rfl))) Via.refl e2 (own_pF_lowest hG) (g := (mkF m 5 #[rv ob] [(.ref ob), (.int cn)])) rfl rfl (hb hby d18_5)
  have K4 : own_R p e below (T4.setTop (mkF m 8 #[rv ob] [(.ref vl), (.int cn)])) S0 := fun t hk => K3 t (st4 _ hk)
  obtain ⟨cl5, Ar5, -, S5, M5, -, -⟩ := id (own_pV_vl hG)
  have K5 : own_R p e below (T4.setTop (mkF m 9 #[rv ob] [(.int nn), (.int cn)])) S0 := by
    intro t hk
    refine K4 t ?_
    refine X4.arraylength hx (by rw [e4]; exact Ar5.1) (State.isArrayOf_alike hZ.alike Ar5.2.1) (g := (mkF m 8 #[rv ob] [(.ref vl), (.int cn)])) rfl rfl (hb hby d18_8) _ ?_
    rw [len_of S5 M5]
    exact hk
  have hc9 : ¬ (cn = nn) := hne
  have K6 : own_R p e below (T4.setTop (mkF m 26 #[rv ob] [])) S0 := by
    intro t hk
    refine K5 t ?_
    show Steps p.tables e below (T4.setTop (mkF m 9 #[rv ob] [(.int nn), (.int cn)])) _
    refine XS.icmpYes X4.here hx rfl (pc0 := 9) (pc' := 26) rfl (hb hby d18_9) rfl (feq hc9).2 (by decide) (by decide) ?_
    exact hk
  have K7 : own_R p e below (T4.setTop (mkF m 27 #[rv ob] [(.ref ob)])) S0 := by
    intro t hk
    refine K6 t ?_
    show Steps p.tables e below (T4.setTop (mkF m 26 #[rv ob] [])) _
    refine XS.aloadN X4.here hx rfl (hb hby d18_26) rfl rfl ?_
    exact hk
  obtain ⟨T8, X8, e8, st8⟩ := getF X4 hx hZ hown (host := "") (Or.inl (hw _ (List.mem_of_getElem? (i := 73) rfl))) Via.refl e4 (own_pF_count hG) (g := (mkF m 27 #[rv ob] [(.ref ob)])) rfl rfl (hb hby d18_27)
  have K8 : own_R p e below (T8.setTop (mkF m 30 #[rv ob] [(.int cn)])) S0 := fun t hk => K7 t (st8 _ hk)
  have K9 : own_R p e below (T8.setTop (mkF m 31 #[rv ob] [(.ref ob), (.int cn)])) S0 := by
    intro t hk
    refine K8 t ?_
    show Steps p.tables e below (T8.setTop (mkF m 30 #[rv ob] [(.int cn)])) _
    refine XS.aloadN X8.here hx rfl (hb hby d18_30) rfl rfl ?_
    exact hk
  obtain ⟨T10, X10, e10, st10⟩ := getF X8 hx hZ hown (host := "") (Or.inl (hw _ (List.mem_of_getElem? (i := 23) rfl))) Via.refl e8 (own_pF_lowest hG) (g := (mkF m 31 #[rv ob] [(.ref ob), (.int cn)])) rfl rfl (hb hby d18_31)
  have K10 : own_R p e below (T10.setTop (mkF m 34 #[rv ob] [(.ref vl), (.int cn)])) S0 := fun t hk => K9 t (st10 _ hk)
  obtain ⟨cl11, Ar11, -, S11, M11, -, -⟩ := id (own_pV_vl hG)
  have K11 : own_R p e below (T10.setTop (mkF m 35 #[rv ob] [(.int nn), (.int cn)])) S0 := by
    intro t hk
    refine K10 t ?_
    refine X10.arraylength hx (by rw [e10]; exact Ar11.1) (State.isArrayOf_alike hZ.alike Ar11.2.1) (g := (mkF m 34 #[rv ob] [(.ref vl), (.int cn)])) rfl rfl (hb hby d18_34) _ ?_
    rw [len_of S11 M11]
    exact hk
  have hc35 : ¬ (cn = nn) := hne
  have K12 : own_R p e below (T10.setTop (mkF m 54 #[rv ob] [])) S0 := by
    intro t hk
    refine K11 t ?_
    show Steps p.tables e below (T10.setTop (mkF m 35 #[rv ob] [(.int nn), (.int cn)])) _
    refine XS.icmpYes X10.here hx rfl (pc0 := 35) (pc' := 54) rfl (hb hby d18_35) rfl (feq hc35).2 (by decide) (by decide) ?_
    exact hk
  have K13 : own_R p e below (T10.setTop (mkF m 56 #[rv ob] [(.ref ob), (.ref ob)])) S0 := by
    intro t hk
    refine K12 t ?_
    show Steps p.tables e below (T10.setTop (mkF m 54 #[rv ob] [])) _
    refine XS.aloadN X10.here hx rfl (hb hby d18_54) rfl rfl ?_
    refine XS.dup X10.here hx rfl (hb hby d18_55) rfl rfl ?_
    exact hk
  obtain ⟨T14, X14, e14, st14⟩ := getF X10 hx hZ hown (host := "") (Or.inl (hw _ (List.mem_of_getElem? (i := 73) rfl))) Via.refl e10 (own_pF_count hG) (g := (mkF m 56 #[rv ob] [(.ref ob), (.ref ob)])) rfl rfl (hb hby d18_56)
  have K14 : own_R p e below (T14.setTop (mkF m 59 #[rv ob] [(.int cn), (.ref ob)])) S0 := fun t hk => K13 t (st14 _ hk)
  have K15 : own_R p e below (T14.setTop (mkF m 62 #[rv ob] [(.int (cn + (1 : Int32))), (.ref ob), (.int cn)])) S0 := by
    intro t hk
    refine K14 t ?_
    show Steps p.tables e below (T14.setTop (mkF m 59 #[rv ob] [(.int cn), (.ref ob)])) _
    refine XS.dupX1 X14.here hx rfl (hb hby d18_59) rfl rfl rfl ?_
    refine XS.iconst X14.here hx rfl (hb hby d18_60) ?_
    refine XS.iadd X14.here hx rfl (hb hby d18_61) rfl ?_
    exact hk
  obtain ⟨T16, h16, X16, e16, W16, st16⟩ := putF X14 hx hZ hown (host := "") (Or.inl (hw _ (List.mem_of_getElem? (i := 73) rfl))) Via.refl e14 (own_pF_count hG) (own_pE hG) (Or.inl (hw _ (List.mem_of_getElem? (i := 74) rfl))) (hw _ (List.mem_of_getElem? (i := 3) rfl)) (ty := .int) (by decide) rfl rfl (g := (mkF m 62 #[rv ob] [(.int (cn + (1 : Int32))), (.ref ob), (.int cn)])) rfl rfl (hb hby d18_62)
  have K16 : own_R p e below (T16.setTop (mkF m 65 #[rv ob] [(.int cn)])) S0 := fun t hk => K15 t (st16 _ hk)
  have Kp17 := (Keep.refl h0 [ob, vb, vl, vh, vf, vg, vs]).wr W16 (Or.inl (List.mem_of_getElem? (i := 0) rfl))
  have N16 := Fr.snoc X16 N0 (by omega : n0 ≤ ob)
  have G16 := own_w_count hw hG hO W16
  have KP : Keep h0 T16.heap [ob, vb, vl, vh, vf, vg, vs] := by rw [e16]; exact Kp17
  have GG : own_G Z T16.heap ob va vb vl vh vf vg vs kv kb kl kh kf kg ks fl nn nb VV (.ref va) (cn + (1 : Int32)) VB VL VH VF VG VS := by rw [e16]; exact G16
  obtain ⟨fs, hr, hrun, hended, hW, hsame⟩ := X16.leave (v := some (.int cn)) (fun h => by rw [Bd.returns] at h; cases h) Bd.notSynchronized
  exact ⟨_, _, K16 _ (retI X16 hx Bd.returns (hb hby d18_65) hr), hrun, hended, _, _, rfl, ⟨rfl, N16, KP, GG⟩, ⟨_, rfl⟩, hW, hsame.mono (by decide) (by decide)⟩
theorem d19_0 : decode prog_74_method_20_code 0 = .ok (.aload_n 0, 1) := by decide +kernel
theorem d19_1 : decode prog_74_method_20_code 1 = .ok (.getfield 27, 3) := by decide +kernel
theorem d19_4 : decode prog_74_method_20_code 4 = .ok (.iload_n 1, 1) := by decide +kernel
theorem d19_5 : decode prog_74_method_20_code 5 = .ok (.iconst 1, 1) := by decide +kernel
theorem d19_6 : decode prog_74_method_20_code 6 = .ok (.iadd, 1) := by decide +kernel
theorem d19_7 : decode prog_74_method_20_code 7 = .ok (.iload_n 2, 1) := by decide +kernel
theorem d19_8 : decode prog_74_method_20_code 8 = .ok (.iastore, 1) := by decide +kernel
theorem d19_9 : decode prog_74_method_20_code 9 = .ok (.aload_n 0, 1) := by decide +kernel
theorem d19_10 : decode prog_74_method_20_code 10 = .ok (.getfield 31, 3) := by decide +kernel
theorem d19_13 : decode prog_74_method_20_code 13 = .ok (.iload_n 1, 1) := by decide +kernel
theorem d19_14 : decode prog_74_method_20_code 14 = .ok (.lload_n 3, 1) := by decide +kernel
theorem d19_15 : decode prog_74_method_20_code 15 = .ok (.lastore, 1) := by decide +kernel
theorem d19_16 : decode prog_74_method_20_code 16 = .ok (.aload_n 0, 1) := by decide +kernel
theorem d19_17 : decode prog_74_method_20_code 17 = .ok (.getfield 35, 3) := by decide +kernel
theorem d19_20 : decode prog_74_method_20_code 20 = .ok (.iload_n 1, 1) := by decide +kernel
theorem d19_21 : decode prog_74_method_20_code 21 = .ok (.lload 5, 2) := by decide +kernel
theorem d19_23 : decode prog_74_method_20_code 23 = .ok (.lastore, 1) := by decide +kernel
theorem d19_24 : decode prog_74_method_20_code 24 = .ok (.aload_n 0, 1) := by decide +kernel
theorem d19_25 : decode prog_74_method_20_code 25 = .ok (.getfield 38, 3) := by decide +kernel
theorem d19_28 : decode prog_74_method_20_code 28 = .ok (.iload_n 1, 1) := by decide +kernel
theorem d19_29 : decode prog_74_method_20_code 29 = .ok (.lload 7, 2) := by decide +kernel
theorem d19_31 : decode prog_74_method_20_code 31 = .ok (.lastore, 1) := by decide +kernel
theorem d19_32 : decode prog_74_method_20_code 32 = .ok (.aload_n 0, 1) := by decide +kernel
theorem d19_33 : decode prog_74_method_20_code 33 = .ok (.getfield 41, 3) := by decide +kernel
theorem d19_36 : decode prog_74_method_20_code 36 = .ok (.iload_n 1, 1) := by decide +kernel
theorem d19_37 : decode prog_74_method_20_code 37 = .ok (.lload 9, 2) := by decide +kernel
theorem d19_39 : decode prog_74_method_20_code 39 = .ok (.lastore, 1) := by decide +kernel
theorem d19_40 : decode prog_74_method_20_code 40 = .ok (.aload_n 0, 1) := by decide +kernel
theorem d19_41 : decode prog_74_method_20_code 41 = .ok (.getfield 44, 3) := by decide +kernel
theorem d19_44 : decode prog_74_method_20_code 44 = .ok (.iload_n 1, 1) := by decide +kernel
theorem d19_45 : decode prog_74_method_20_code 45 = .ok (.iload 11, 2) := by decide +kernel
theorem d19_47 : decode prog_74_method_20_code 47 = .ok (.i2b, 1) := by decide +kernel
theorem d19_48 : decode prog_74_method_20_code 48 = .ok (.bastore, 1) := by decide +kernel
theorem d19_49 : decode prog_74_method_20_code 49 = .ok (.return_, 1) := by decide +kernel
theorem ef_19 (m : MethodId) (x0 : Addr) (x1 : Int32) (x2 : Int32) (x3 : Int64) (x4 : Int64) (x5 : Int64) (x6 : Int64) (x7 : Int32) : entryFrame m #[(.ref x0), (.int x1), (.int x2), (.long x3), (.long x4), (.long x5), (.long x6), (.int x7)] 12 = mkF m 0 #[rv x0, iv x1, iv x2, lv x3, .second, lv x4, .second, lv x5, .second, lv x6, .second, iv x7] [] := by first | (simp [entryFrame, mkF, argsToLocals, Value.category, maxLocals]; done) | rfl
theorem pn_19 : plainName "com/example/bitrun/bitrun/orc/intv2/Segments" = true := by first | (simp [plainName, overriddenIn]; done) | decide +kernel
def Q_rm19 (Z : State) (ob : Addr) (p1 : Int32) (p2 : Int32) (p3 : Int64) (p4 : Int64) (p5 : Int64) (p6 : Int64) (p7 : Int32) (va vb vl vh vf vg vs : Addr) (kv kb kl kh kf kg ks : ClassId) (fl : Int64) (nn nb : Int32) (VV : List Value) (cn : Int32) (VB VL VH VF VG VS : List Value) (h0 : Heap) (n0 : Nat) (v : Option Value) (h : Heap) (L : List Loc) : Prop := v = none ∧ Fr n0 L ∧ Keep h0 h [ob, vb, vl, vh, vf, vg, vs] ∧ own_G Z h ob va vb vl vh vf vg vs kv kb kl kh kf kg ks fl nn nb VV (.ref va) cn (VB.set (p1 + (1 : Int32)).toNatClampNeg (.int p2)) (VL.set p1.toNatClampNeg (.long p3)) (VH.set p1.toNatClampNeg (.long p4)) (VF.set p1.toNatClampNeg (.long p5)) (VG.set p1.toNatClampNeg (.long p6)) (VS.set p1.toNatClampNeg (.int (nar .byte (p7.toInt8.toInt32))))
set_option maxRecDepth 65536 in
set_option maxHeartbeats 40000000 in
theorem rm19 (l : Launch) (Z : State) (a0 : Array Value) (hw : ∀ d ∈ tables_1, d.before a0 Z = true) (ws : List Jvm.Cond) (ob : Addr) (p1 : Int32) (p2 : Int32) (p3 : Int64) (p4 : Int64) (p5 : Int64) (p6 : Int64) (p7 : Int32) (va vb vl vh vf vg vs : Addr) (kv kb kl kh kf kg ks : ClassId) (fl : Int64) (nn nb : Int32) (VV : List Value) (cn : Int32) (VB VL VH VF VG VS : List Value) (h0 : Heap) (n0 : Nat) (Z0 : n0 ≤ h0.size) (hO : own_O n0 ob va vb vl vh vf vg vs nn nb) (hG : own_G Z h0 ob va vb vl vh vf vg vs kv kb kl kh kf kg ks fl nn nb VV (.ref va) cn VB VL VH VF VG VS) (hp1 : 0 ≤ p1.toInt ∧ p1.toInt < nn.toInt) :
    MetFree l (⟨"com/example/bitrun/bitrun/orc/intv2/Segments", "set", "(IIJJJJI)V"⟩ : MethodName) (head1 (Jvm.Cond.code (⟨"com/example/bitrun/bitrun/orc/intv2/Segments", "set", "(IIJJJJI)V"⟩ : MethodName) prog_74_method_20_code 12 none :: ws) ({ frames := 0, cells := 0, slots := 0, locals := 0 } : Room)) (fun a U => a = #[(.ref ob), (.int p1), (.int p2), (.long p3), (.long p4), (.long p5), (.long p6), (.int p7)] ∧ Z.Warmed39 U.vm ∧ U.heap = h0) (fun _ _ _ _ _ => True) (fun _ U o U' => ∃ v L, o = .returned v ∧ Q_rm19 Z ob p1 p2 p3 p4 p5 p6 p7 va vb vl vh vf vg vs kv kb kl kh kf kg ks fl nn nb VV cn VB VL VH VF VG VS h0 n0 v U'.heap L ∧ FrameEnd U o U' L ({ frames := 0, cells := 0, slots := 0, locals := 0 } : Room).cells ({ frames := 0, cells := 0, slots := 0, locals := 0 } : Room).slots) := by
  refine MetFree.of_bodySF (plainFor_of_name pn_19) hisR ?_
  intro p e s m args below meth c s₁ Bd hml0 hP hK
  obtain ⟨rfl, hZ, hh⟩ := hP
  have hx := Bd.exec
  have hby := Bd.bytes
  have hml : c.maxLocals = 12 := hml0
  have hown : s.vm.findClass "com/example/bitrun/bitrun/orc/intv2/Segments" = some m.cls := findClass_of_methodNamed Bd.named
  have hnm := (name_of_methodNamed Bd.named Bd.method).1
  have X0 : Stand p l e ({ frames := 0, cells := 0, slots := 0, locals := 0 } : Room) s m #[(.ref ob), (.int p1), (.int p2), (.long p3), (.long p4), (.long p5), (.long p6), (.int p7)] below meth c s₁ [] 0 0 := Stand.of_body Bd
  have e0 : s₁.heap = h0 := by rw [← hh, Bd.state]; rfl
  have N0 := Fr.nil n0
  have pre0 : ∀ t, Steps p.tables e below (s₁.setTop (mkF m 0 #[rv ob, iv p1, iv p2, lv p3, .second, lv p4, .second, lv p5, .second, lv p6, .second, iv p7] [])) t → Steps p.tables e below (s₁.setTop (entryFrame m #[(.ref ob), (.int p1), (.int p2), (.long p3), (.long p4), (.long p5), (.long p6), (.int p7)] 12)) t := fun t k => castTop (ef_19 m ob p1 p2 p3 p4 p5 p6 p7) k
  obtain ⟨S0, hS0⟩ : ∃ z, z = (s₁.setTop (entryFrame m #[(.ref ob), (.int p1), (.int p2), (.long p3), (.long p4), (.long p5), (.long p6), (.int p7)] 12)) := ⟨_, rfl⟩
  rw [← hS0] at pre0 ⊢
  have K0 : own_R p e below (s₁.setTop (mkF m 0 #[rv ob, iv p1, iv p2, lv p3, .second, lv p4, .second, lv p5, .second, lv p6, .second, iv p7] [])) S0 := pre0
  obtain ⟨o1, o2, o3, o4, o5, o6, o7, o8, o9, o10, o11⟩ := id hO
  have hj := own_add1 p1 (by omega)
  have bJ : 0 ≤ (p1 + (1 : Int32)).toInt ∧ (p1 + (1 : Int32)).toInt < nb.toInt := by omega
  have K1 : own_R p e below (s₁.setTop (mkF m 1 #[rv ob, iv p1, iv p2, lv p3, .second, lv p4, .second, lv p5, .second, lv p6, .second, iv p7] [(.ref ob)])) S0 := by
    intro t hk
    refine K0 t ?_
    show Steps p.tables e below (s₁.setTop (mkF m 0 #[rv ob, iv p1, iv p2, lv p3, .second, lv p4, .second, lv p5, .second, lv p6, .second, iv p7] [])) _
    refine XS.aloadN X0.here hx rfl (hb hby d19_0) rfl rfl ?_
    exact hk
  obtain ⟨T2, X2, e2, st2⟩ := getF X0 hx hZ hown (host := "") (Or.inl (hw _ (List.mem_of_getElem? (i := 21) rfl))) Via.refl e0 (own_pF_bounds hG) (g := (mkF m 1 #[rv ob, iv p1, iv p2, lv p3, .second, lv p4, .second, lv p5, .second, lv p6, .second, iv p7] [(.ref ob)])) rfl rfl (hb hby d19_1)
  have K2 : own_R p e below (T2.setTop (mkF m 4 #[rv ob, iv p1, iv p2, lv p3, .second, lv p4, .second, lv p5, .second, lv p6, .second, iv p7] [(.ref vb)])) S0 := fun t hk => K1 t (st2 _ hk)
  have K3 : own_R p e below (T2.setTop (mkF m 8 #[rv ob, iv p1, iv p2, lv p3, .second, lv p4, .second, lv p5, .second, lv p6, .second, iv p7] [(.int p2), (.int (p1 + (1 : Int32))), (.ref vb)])) S0 := by
    intro t hk
    refine K2 t ?_
    show Steps p.tables e below (T2.setTop (mkF m 4 #[rv ob, iv p1, iv p2, lv p3, .second, lv p4, .second, lv p5, .second, lv p6, .second, iv p7] [(.ref vb)])) _
    refine XS.iloadN X2.here hx rfl (hb hby d19_4) rfl ?_
    refine XS.iconst X2.here hx rfl (hb hby d19_5) ?_
    refine XS.iadd X2.here hx rfl (hb hby d19_6) rfl ?_
    refine XS.iloadN X2.here hx rfl (hb hby d19_7) rfl ?_
    exact hk
  obtain ⟨T4, h4, X4, e4, W4, V4, st4⟩ := own_stI X2 hx hZ e2 (own_pV_vb hG) (j := (p1 + (1 : Int32))) _ rfl (own_b _ _ bJ) (by rw [(own_pL_vb hG)]; exact own_cl _ _ bJ) (g := (mkF m 8 #[rv ob, iv p1, iv p2, lv p3, .second, lv p4, .second, lv p5, .second, lv p6, .second, iv p7] [(.int p2), (.int (p1 + (1 : Int32))), (.ref vb)])) rfl rfl (hb hby d19_8)
  have K4 : own_R p e below (T4.setTop (mkF m 9 #[rv ob, iv p1, iv p2, lv p3, .second, lv p4, .second, lv p5, .second, lv p6, .second, iv p7] [])) S0 := fun t hk => K3 t (st4 _ hk)
  have Kp5 := (Keep.refl h0 [ob, vb, vl, vh, vf, vg, vs]).wr W4 (Or.inl (List.mem_of_getElem? (i := 1) rfl))
  have N4 := Fr.snoc X4 N0 (by omega : n0 ≤ vb)
  have G4 := own_w_vb hG hO W4 V4 (List.length_set.trans (own_pL_vb hG))
  have K6 : own_R p e below (T4.setTop (mkF m 10 #[rv ob, iv p1, iv p2, lv p3, .second, lv p4, .second, lv p5, .second, lv p6, .second, iv p7] [(.ref ob)])) S0 := by
    intro t hk
    refine K4 t ?_
    show Steps p.tables e below (T4.setTop (mkF m 9 #[rv ob, iv p1, iv p2, lv p3, .second, lv p4, .second, lv p5, .second, lv p6, .second, iv p7] [])) _
    refine XS.aloadN X4.here hx rfl (hb hby d19_9) rfl rfl ?_
    exact hk
  obtain ⟨T7, X7, e7, st7⟩ := getF X4 hx hZ hown (host := "") (Or.inl (hw _ (List.mem_of_getElem? (i := 23) rfl))) Via.refl e4 (own_pF_lowest G4) (g := (mkF m 10 #[rv ob, iv p1, iv p2, lv p3, .second, lv p4, .second, lv p5, .second, lv p6, .second, iv p7] [(.ref ob)])) rfl rfl (hb hby d19_10)
  have K7 : own_R p e below (T7.setTop (mkF m 13 #[rv ob, iv p1, iv p2, lv p3, .second, lv p4, .second, lv p5, .second, lv p6, .second, iv p7] [(.ref vl)])) S0 := fun t hk => K6 t (st7 _ hk)
  have K8 : own_R p e below (T7.setTop (mkF m 15 #[rv ob, iv p1, iv p2, lv p3, .second, lv p4, .second, lv p5, .second, lv p6, .second, iv p7] [(.long p3), (.int p1), (.ref vl)])) S0 := by
    intro t hk
    refine K7 t ?_
    show Steps p.tables e below (T7.setTop (mkF m 13 #[rv ob, iv p1, iv p2, lv p3, .second, lv p4, .second, lv p5, .second, lv p6, .second, iv p7] [(.ref vl)])) _
    refine XS.iloadN X7.here hx rfl (hb hby d19_13) rfl ?_
    refine XS.lloadN X7.here hx rfl (hb hby d19_14) rfl ?_
    exact hk
  obtain ⟨T9, h9, X9, e9, W9, V9, st9⟩ := own_stJ X7 hx hZ e7 (own_pV_vl G4) (j := p1) _ rfl (own_b _ _ hp1) (by rw [(own_pL_vl G4)]; exact own_cl _ _ hp1) (g := (mkF m 15 #[rv ob, iv p1, iv p2, lv p3, .second, lv p4, .second, lv p5, .second, lv p6, .second, iv p7] [(.long p3), (.int p1), (.ref vl)])) rfl rfl (hb hby d19_15)
  have K9 : own_R p e below (T9.setTop (mkF m 16 #[rv ob, iv p1, iv p2, lv p3, .second, lv p4, .second, lv p5, .second, lv p6, .second, iv p7] [])) S0 := fun t hk => K8 t (st9 _ hk)
  have Kp10 := Kp5.wr W9 (Or.inl (List.mem_of_getElem? (i := 2) rfl))
  have N9 := Fr.snoc X9 N4 (by omega : n0 ≤ vl)
  have G9 := own_w_vl G4 hO W9 V9 (List.length_set.trans (own_pL_vl G4))
  have K11 : own_R p e below (T9.setTop (mkF m 17 #[rv ob, iv p1, iv p2, lv p3, .second, lv p4, .second, lv p5, .second, lv p6, .second, iv p7] [(.ref ob)])) S0 := by
    intro t hk
    refine K9 t ?_
    show Steps p.tables e below (T9.setTop (mkF m 16 #[rv ob, iv p1, iv p2, lv p3, .second, lv p4, .second, lv p5, .second, lv p6, .second, iv p7] [])) _
    refine XS.aloadN X9.here hx rfl (hb hby d19_16) rfl rfl ?_
    exact hk
  obtain ⟨T12, X12, e12, st12⟩ := getF X9 hx hZ hown (host := "") (Or.inl (hw _ (List.mem_of_getElem? (i := 25) rfl))) Via.refl e9 (own_pF_highest G9) (g := (mkF m 17 #[rv ob, iv p1, iv p2, lv p3, .second, lv p4, .second, lv p5, .second, lv p6, .second, iv p7] [(.ref ob)])) rfl rfl (hb hby d19_17)
  have K12 : own_R p e below (T12.setTop (mkF m 20 #[rv ob, iv p1, iv p2, lv p3, .second, lv p4, .second, lv p5, .second, lv p6, .second, iv p7] [(.ref vh)])) S0 := fun t hk => K11 t (st12 _ hk)
  have K13 : own_R p e below (T12.setTop (mkF m 23 #[rv ob, iv p1, iv p2, lv p3, .second, lv p4, .second, lv p5, .second, lv p6, .second, iv p7] [(.long p4), (.int p1), (.ref vh)])) S0 := by
    intro t hk
    refine K12 t ?_
    show Steps p.tables e below (T12.setTop (mkF m 20 #[rv ob, iv p1, iv p2, lv p3, .second, lv p4, .second, lv p5, .second, lv p6, .second, iv p7] [(.ref vh)])) _
    refine XS.iloadN X12.here hx rfl (hb hby d19_20) rfl ?_
    refine XS.lload X12.here hx rfl (hb hby d19_21) rfl ?_
    exact hk
  obtain ⟨T14, h14, X14, e14, W14, V14, st14⟩ := own_stJ X12 hx hZ e12 (own_pV_vh G9) (j := p1) _ rfl (own_b _ _ hp1) (by rw [(own_pL_vh G9)]; exact own_cl _ _ hp1) (g := (mkF m 23 #[rv ob, iv p1, iv p2, lv p3, .second, lv p4, .second, lv p5, .second, lv p6, .second, iv p7] [(.long p4), (.int p1), (.ref vh)])) rfl rfl (hb hby d19_23)
  have K14 : own_R p e below (T14.setTop (mkF m 24 #[rv ob, iv p1, iv p2, lv p3, .second, lv p4, .second, lv p5, .second, lv p6, .second, iv p7] [])) S0 := fun t hk => K13 t (st14 _ hk)
  have Kp15 := Kp10.wr W14 (Or.inl (List.mem_of_getElem? (i := 3) rfl))
  have N14 := Fr.snoc X14 N9 (by omega : n0 ≤ vh)
  have G14 := own_w_vh G9 hO W14 V14 (List.length_set.trans (own_pL_vh G9))
  have K16 : own_R p e below (T14.setTop (mkF m 25 #[rv ob, iv p1, iv p2, lv p3, .second, lv p4, .second, lv p5, .second, lv p6, .second, iv p7] [(.ref ob)])) S0 := by
    intro t hk
    refine K14 t ?_
    show Steps p.tables e below (T14.setTop (mkF m 24 #[rv ob, iv p1, iv p2, lv p3, .second, lv p4, .second, lv p5, .second, lv p6, .second, iv p7] [])) _
    refine XS.aloadN X14.here hx rfl (hb hby d19_24) rfl rfl ?_
    exact hk
  obtain ⟨T17, X17, e17, st17⟩ := getF X14 hx hZ hown (host := "") (Or.inl (hw _ (List.mem_of_getElem? (i := 27) rfl))) Via.refl e14 (own_pF_firstStep G14) (g := (mkF m 25 #[rv ob, iv p1, iv p2, lv p3, .second, lv p4, .second, lv p5, .second, lv p6, .second, iv p7] [(.ref ob)])) rfl rfl (hb hby d19_25)
  have K17 : own_R p e below (T17.setTop (mkF m 28 #[rv ob, iv p1, iv p2, lv p3, .second, lv p4, .second, lv p5, .second, lv p6, .second, iv p7] [(.ref vf)])) S0 := fun t hk => K16 t (st17 _ hk)
  have K18 : own_R p e below (T17.setTop (mkF m 31 #[rv ob, iv p1, iv p2, lv p3, .second, lv p4, .second, lv p5, .second, lv p6, .second, iv p7] [(.long p5), (.int p1), (.ref vf)])) S0 := by
    intro t hk
    refine K17 t ?_
    show Steps p.tables e below (T17.setTop (mkF m 28 #[rv ob, iv p1, iv p2, lv p3, .second, lv p4, .second, lv p5, .second, lv p6, .second, iv p7] [(.ref vf)])) _
    refine XS.iloadN X17.here hx rfl (hb hby d19_28) rfl ?_
    refine XS.lload X17.here hx rfl (hb hby d19_29) rfl ?_
    exact hk
  obtain ⟨T19, h19, X19, e19, W19, V19, st19⟩ := own_stJ X17 hx hZ e17 (own_pV_vf G14) (j := p1) _ rfl (own_b _ _ hp1) (by rw [(own_pL_vf G14)]; exact own_cl _ _ hp1) (g := (mkF m 31 #[rv ob, iv p1, iv p2, lv p3, .second, lv p4, .second, lv p5, .second, lv p6, .second, iv p7] [(.long p5), (.int p1), (.ref vf)])) rfl rfl (hb hby d19_31)
  have K19 : own_R p e below (T19.setTop (mkF m 32 #[rv ob, iv p1, iv p2, lv p3, .second, lv p4, .second, lv p5, .second, lv p6, .second, iv p7] [])) S0 := fun t hk => K18 t (st19 _ hk)
  have Kp20 := Kp15.wr W19 (Or.inl (List.mem_of_getElem? (i := 4) rfl))
  have N19 := Fr.snoc X19 N14 (by omega : n0 ≤ vf)
  have G19 := own_w_vf G14 hO W19 V19 (List.length_set.trans (own_pL_vf G14))
  have K21 : own_R p e below (T19.setTop (mkF m 33 #[rv ob, iv p1, iv p2, lv p3, .second, lv p4, .second, lv p5, .second, lv p6, .second, iv p7] [(.ref ob)])) S0 := by
    intro t hk
    refine K19 t ?_
    show Steps p.tables e below (T19.setTop (mkF m 32 #[rv ob, iv p1, iv p2, lv p3, .second, lv p4, .second, lv p5, .second, lv p6, .second, iv p7] [])) _
    refine XS.aloadN X19.here hx rfl (hb hby d19_32) rfl rfl ?_
    exact hk
  obtain ⟨T22, X22, e22, st22⟩ := getF X19 hx hZ hown (host := "") (Or.inl (hw _ (List.mem_of_getElem? (i := 29) rfl))) Via.refl e19 (own_pF_magnitudes G19) (g := (mkF m 33 #[rv ob, iv p1, iv p2, lv p3, .second, lv p4, .second, lv p5, .second, lv p6, .second, iv p7] [(.ref ob)])) rfl rfl (hb hby d19_33)
  have K22 : own_R p e below (T22.setTop (mkF m 36 #[rv ob, iv p1, iv p2, lv p3, .second, lv p4, .second, lv p5, .second, lv p6, .second, iv p7] [(.ref vg)])) S0 := fun t hk => K21 t (st22 _ hk)
  have K23 : own_R p e below (T22.setTop (mkF m 39 #[rv ob, iv p1, iv p2, lv p3, .second, lv p4, .second, lv p5, .second, lv p6, .second, iv p7] [(.long p6), (.int p1), (.ref vg)])) S0 := by
    intro t hk
    refine K22 t ?_
    show Steps p.tables e below (T22.setTop (mkF m 36 #[rv ob, iv p1, iv p2, lv p3, .second, lv p4, .second, lv p5, .second, lv p6, .second, iv p7] [(.ref vg)])) _
    refine XS.iloadN X22.here hx rfl (hb hby d19_36) rfl ?_
    refine XS.lload X22.here hx rfl (hb hby d19_37) rfl ?_
    exact hk
  obtain ⟨T24, h24, X24, e24, W24, V24, st24⟩ := own_stJ X22 hx hZ e22 (own_pV_vg G19) (j := p1) _ rfl (own_b _ _ hp1) (by rw [(own_pL_vg G19)]; exact own_cl _ _ hp1) (g := (mkF m 39 #[rv ob, iv p1, iv p2, lv p3, .second, lv p4, .second, lv p5, .second, lv p6, .second, iv p7] [(.long p6), (.int p1), (.ref vg)])) rfl rfl (hb hby d19_39)
  have K24 : own_R p e below (T24.setTop (mkF m 40 #[rv ob, iv p1, iv p2, lv p3, .second, lv p4, .second, lv p5, .second, lv p6, .second, iv p7] [])) S0 := fun t hk => K23 t (st24 _ hk)
  have Kp25 := Kp20.wr W24 (Or.inl (List.mem_of_getElem? (i := 5) rfl))
  have N24 := Fr.snoc X24 N19 (by omega : n0 ≤ vg)
  have G24 := own_w_vg G19 hO W24 V24 (List.length_set.trans (own_pL_vg G19))
  have K26 : own_R p e below (T24.setTop (mkF m 41 #[rv ob, iv p1, iv p2, lv p3, .second, lv p4, .second, lv p5, .second, lv p6, .second, iv p7] [(.ref ob)])) S0 := by
    intro t hk
    refine K24 t ?_
    show Steps p.tables e below (T24.setTop (mkF m 40 #[rv ob, iv p1, iv p2, lv p3, .second, lv p4, .second, lv p5, .second, lv p6, .second, iv p7] [])) _
    refine XS.aloadN X24.here hx rfl (hb hby d19_40) rfl rfl ?_
    exact hk
  obtain ⟨T27, X27, e27, st27⟩ := getF X24 hx hZ hown (host := "") (Or.inl (hw _ (List.mem_of_getElem? (i := 32) rfl))) Via.refl e24 (own_pF_steps G24) (g := (mkF m 41 #[rv ob, iv p1, iv p2, lv p3, .second, lv p4, .second, lv p5, .second, lv p6, .second, iv p7] [(.ref ob)])) rfl rfl (hb hby d19_41)
  have K27 : own_R p e below (T27.setTop (mkF m 44 #[rv ob, iv p1, iv p2, lv p3, .second, lv p4, .second, lv p5, .second, lv p6, .second, iv p7] [(.ref vs)])) S0 := fun t hk => K26 t (st27 _ hk)
  have K28 : own_R p e below (T27.setTop (mkF m 48 #[rv ob, iv p1, iv p2, lv p3, .second, lv p4, .second, lv p5, .second, lv p6, .second, iv p7] [(.int (p7.toInt8.toInt32)), (.int p1), (.ref vs)])) S0 := by
    intro t hk
    refine K27 t ?_
    show Steps p.tables e below (T27.setTop (mkF m 44 #[rv ob, iv p1, iv p2, lv p3, .second, lv p4, .second, lv p5, .second, lv p6, .second, iv p7] [(.ref vs)])) _
    refine XS.iloadN X27.here hx rfl (hb hby d19_44) rfl ?_
    refine XS.iload X27.here hx rfl (hb hby d19_45) rfl ?_
    refine XS.i2b X27.here hx rfl (hb hby d19_47) rfl ?_
    exact hk
  obtain ⟨T29, h29, X29, e29, W29, V29, st29⟩ := own_stB X27 hx hZ e27 (own_pV_vs G24) (j := p1) _ rfl (own_b _ _ hp1) (by rw [(own_pL_vs G24)]; exact own_cl _ _ hp1) (g := (mkF m 48 #[rv ob, iv p1, iv p2, lv p3, .second, lv p4, .second, lv p5, .second, lv p6, .second, iv p7] [(.int (p7.toInt8.toInt32)), (.int p1), (.ref vs)])) rfl rfl (hb hby d19_48)
  have K29 : own_R p e below (T29.setTop (mkF m 49 #[rv ob, iv p1, iv p2, lv p3, .second, lv p4, .second, lv p5, .second, lv p6, .second, iv p7] [])) S0 := fun t hk => K28 t (st29 _ hk)
  have Kp30 := Kp25.wr W29 (Or.inl (List.mem_of_getElem? (i := 6) rfl))
  have N29 := Fr.snoc X29 N24 (by omega : n0 ≤ vs)
  have G29 := own_w_vs G24 hO W29 V29 (List.length_set.trans (own_pL_vs G24))
  have KP : Keep h0 T29.heap [ob, vb, vl, vh, vf, vg, vs] := by rw [e29]; exact Kp30
  have GG : own_G Z T29.heap ob va vb vl vh vf vg vs kv kb kl kh kf kg ks fl nn nb VV (.ref va) cn (VB.set (p1 + (1 : Int32)).toNatClampNeg (.int p2)) (VL.set p1.toNatClampNeg (.long p3)) (VH.set p1.toNatClampNeg (.long p4)) (VF.set p1.toNatClampNeg (.long p5)) (VG.set p1.toNatClampNeg (.long p6)) (VS.set p1.toNatClampNeg (.int (nar .byte (p7.toInt8.toInt32)))) := by rw [e29]; exact G29
  obtain ⟨fs, hr, hrun, hended, hW, hsame⟩ := X29.leave (v := none) (fun _ => rfl) Bd.notSynchronized
  exact ⟨_, _, K29 _ (X29.returnOut hx Bd.returns (hb hby d19_49) hr), hrun, hended, _, _, rfl, ⟨rfl, N29, KP, GG⟩, ⟨_, rfl⟩, hW, hsame.mono (by decide) (by decide)⟩
theorem d20_0 : decode prog_74_method_14_code 0 = .ok (.iconst 1, 1) := by decide +kernel
theorem d20_1 : decode prog_74_method_14_code 1 = .ok (.istore 4, 2) := by decide +kernel
theorem d20_3 : decode prog_74_method_14_code 3 = .ok (.iconst 1, 1) := by decide +kernel
theorem d20_4 : decode prog_74_method_14_code 4 = .ok (.istore 5, 2) := by decide +kernel
theorem d20_6 : decode prog_74_method_14_code 6 = .ok (.lconst 0, 1) := by decide +kernel
theorem d20_7 : decode prog_74_method_14_code 7 = .ok (.lstore 6, 2) := by decide +kernel
theorem d20_9 : decode prog_74_method_14_code 9 = .ok (.lconst 0, 1) := by decide +kernel
theorem d20_10 : decode prog_74_method_14_code 10 = .ok (.lstore 8, 2) := by decide +kernel
theorem d20_12 : decode prog_74_method_14_code 12 = .ok (.lload_n 2, 1) := by decide +kernel
theorem d20_13 : decode prog_74_method_14_code 13 = .ok (.lstore 10, 2) := by decide +kernel
theorem d20_15 : decode prog_74_method_14_code 15 = .ok (.aload_n 0, 1) := by decide +kernel
theorem d20_16 : decode prog_74_method_14_code 16 = .ok (.getfield 27, 3) := by decide +kernel
theorem d20_19 : decode prog_74_method_14_code 19 = .ok (.iload_n 1, 1) := by decide +kernel
theorem d20_20 : decode prog_74_method_14_code 20 = .ok (.iaload, 1) := by decide +kernel
theorem d20_21 : decode prog_74_method_14_code 21 = .ok (.istore 12, 2) := by decide +kernel
theorem d20_23 : decode prog_74_method_14_code 23 = .ok (.aload_n 0, 1) := by decide +kernel
theorem d20_24 : decode prog_74_method_14_code 24 = .ok (.getfield 27, 3) := by decide +kernel
theorem d20_27 : decode prog_74_method_14_code 27 = .ok (.iload_n 1, 1) := by decide +kernel
theorem d20_28 : decode prog_74_method_14_code 28 = .ok (.iconst 1, 1) := by decide +kernel
theorem d20_29 : decode prog_74_method_14_code 29 = .ok (.iadd, 1) := by decide +kernel
theorem d20_30 : decode prog_74_method_14_code 30 = .ok (.iaload, 1) := by decide +kernel
theorem d20_31 : decode prog_74_method_14_code 31 = .ok (.istore 13, 2) := by decide +kernel
theorem d20_33 : decode prog_74_method_14_code 33 = .ok (.iload 12, 2) := by decide +kernel
theorem d20_35 : decode prog_74_method_14_code 35 = .ok (.iload 13, 2) := by decide +kernel
theorem d20_37 : decode prog_74_method_14_code 37 = .ok (.if_icmp .ge 82, 3) := by decide +kernel
theorem d20_40 : decode prog_74_method_14_code 40 = .ok (.aload_n 0, 1) := by decide +kernel
theorem d20_41 : decode prog_74_method_14_code 41 = .ok (.aload_n 0, 1) := by decide +kernel
theorem d20_42 : decode prog_74_method_14_code 42 = .ok (.getfield 59, 3) := by decide +kernel
theorem d20_45 : decode prog_74_method_14_code 45 = .ok (.iload 12, 2) := by decide +kernel
theorem d20_47 : decode prog_74_method_14_code 47 = .ok (.laload, 1) := by decide +kernel
theorem d20_48 : decode prog_74_method_14_code 48 = .ok (.invokevirtual 87, 3) := by decide +kernel
theorem d20_51 : decode prog_74_method_14_code 51 = .ok (.lstore 14, 2) := by decide +kernel
theorem d20_53 : decode prog_74_method_14_code 53 = .ok (.iload 4, 2) := by decide +kernel
theorem d20_55 : decode prog_74_method_14_code 55 = .ok (.lload 14, 2) := by decide +kernel
theorem d20_57 : decode prog_74_method_14_code 57 = .ok (.lload 10, 2) := by decide +kernel
theorem d20_59 : decode prog_74_method_14_code 59 = .ok (.lcmp, 1) := by decide +kernel
theorem d20_60 : decode prog_74_method_14_code 60 = .ok (.ifCond .lt 7, 3) := by decide +kernel
theorem d20_63 : decode prog_74_method_14_code 63 = .ok (.iconst 1, 1) := by decide +kernel
theorem d20_64 : decode prog_74_method_14_code 64 = .ok (.goto 4, 3) := by decide +kernel
theorem d20_67 : decode prog_74_method_14_code 67 = .ok (.iconst 0, 1) := by decide +kernel
theorem d20_68 : decode prog_74_method_14_code 68 = .ok (.iand, 1) := by decide +kernel
theorem d20_69 : decode prog_74_method_14_code 69 = .ok (.istore 4, 2) := by decide +kernel
theorem d20_71 : decode prog_74_method_14_code 71 = .ok (.iload 5, 2) := by decide +kernel
theorem d20_73 : decode prog_74_method_14_code 73 = .ok (.lload 14, 2) := by decide +kernel
theorem d20_75 : decode prog_74_method_14_code 75 = .ok (.lload 10, 2) := by decide +kernel
theorem d20_77 : decode prog_74_method_14_code 77 = .ok (.lcmp, 1) := by decide +kernel
theorem d20_78 : decode prog_74_method_14_code 78 = .ok (.ifCond .gt 7, 3) := by decide +kernel
theorem d20_81 : decode prog_74_method_14_code 81 = .ok (.iconst 1, 1) := by decide +kernel
theorem d20_82 : decode prog_74_method_14_code 82 = .ok (.goto 4, 3) := by decide +kernel
theorem d20_85 : decode prog_74_method_14_code 85 = .ok (.iconst 0, 1) := by decide +kernel
theorem d20_86 : decode prog_74_method_14_code 86 = .ok (.iand, 1) := by decide +kernel
theorem d20_87 : decode prog_74_method_14_code 87 = .ok (.istore 5, 2) := by decide +kernel
theorem d20_89 : decode prog_74_method_14_code 89 = .ok (.lload 6, 2) := by decide +kernel
theorem d20_91 : decode prog_74_method_14_code 91 = .ok (.lload 14, 2) := by decide +kernel
theorem d20_93 : decode prog_74_method_14_code 93 = .ok (.lload 10, 2) := by decide +kernel
theorem d20_95 : decode prog_74_method_14_code 95 = .ok (.lsub, 1) := by decide +kernel
theorem d20_96 : decode prog_74_method_14_code 96 = .ok (.lor, 1) := by decide +kernel
theorem d20_97 : decode prog_74_method_14_code 97 = .ok (.lstore 6, 2) := by decide +kernel
theorem d20_99 : decode prog_74_method_14_code 99 = .ok (.lload 8, 2) := by decide +kernel
theorem d20_101 : decode prog_74_method_14_code 101 = .ok (.lload 10, 2) := by decide +kernel
theorem d20_103 : decode prog_74_method_14_code 103 = .ok (.lload 14, 2) := by decide +kernel
theorem d20_105 : decode prog_74_method_14_code 105 = .ok (.lsub, 1) := by decide +kernel
theorem d20_106 : decode prog_74_method_14_code 106 = .ok (.lor, 1) := by decide +kernel
theorem d20_107 : decode prog_74_method_14_code 107 = .ok (.lstore 8, 2) := by decide +kernel
theorem d20_109 : decode prog_74_method_14_code 109 = .ok (.lload 14, 2) := by decide +kernel
theorem d20_111 : decode prog_74_method_14_code 111 = .ok (.lstore 10, 2) := by decide +kernel
theorem d20_113 : decode prog_74_method_14_code 113 = .ok (.iinc 12 1, 3) := by decide +kernel
theorem d20_116 : decode prog_74_method_14_code 116 = .ok (.goto (-83), 3) := by decide +kernel
theorem d20_119 : decode prog_74_method_14_code 119 = .ok (.aload_n 0, 1) := by decide +kernel
theorem d20_120 : decode prog_74_method_14_code 120 = .ok (.getfield 41, 3) := by decide +kernel
theorem d20_123 : decode prog_74_method_14_code 123 = .ok (.iload_n 1, 1) := by decide +kernel
theorem d20_124 : decode prog_74_method_14_code 124 = .ok (.iload 4, 2) := by decide +kernel
theorem d20_126 : decode prog_74_method_14_code 126 = .ok (.ifCond .eq 8, 3) := by decide +kernel
theorem d20_129 : decode prog_74_method_14_code 129 = .ok (.lload 6, 2) := by decide +kernel
theorem d20_131 : decode prog_74_method_14_code 131 = .ok (.goto 5, 3) := by decide +kernel
theorem d20_134 : decode prog_74_method_14_code 134 = .ok (.lload 8, 2) := by decide +kernel
theorem d20_136 : decode prog_74_method_14_code 136 = .ok (.lastore, 1) := by decide +kernel
theorem d20_137 : decode prog_74_method_14_code 137 = .ok (.aload_n 0, 1) := by decide +kernel
theorem d20_138 : decode prog_74_method_14_code 138 = .ok (.getfield 44, 3) := by decide +kernel
theorem d20_141 : decode prog_74_method_14_code 141 = .ok (.iload_n 1, 1) := by decide +kernel
theorem d20_142 : decode prog_74_method_14_code 142 = .ok (.aload_n 0, 1) := by decide +kernel
theorem d20_143 : decode prog_74_method_14_code 143 = .ok (.getfield 44, 3) := by decide +kernel
theorem d20_146 : decode prog_74_method_14_code 146 = .ok (.iload_n 1, 1) := by decide +kernel
theorem d20_147 : decode prog_74_method_14_code 147 = .ok (.baload, 1) := by decide +kernel
theorem d20_148 : decode prog_74_method_14_code 148 = .ok (.iconst 4, 1) := by decide +kernel
theorem d20_149 : decode prog_74_method_14_code 149 = .ok (.iand, 1) := by decide +kernel
theorem d20_150 : decode prog_74_method_14_code 150 = .ok (.iload 4, 2) := by decide +kernel
theorem d20_152 : decode prog_74_method_14_code 152 = .ok (.ifCond .eq 7, 3) := by decide +kernel
theorem d20_155 : decode prog_74_method_14_code 155 = .ok (.iconst 1, 1) := by decide +kernel
theorem d20_156 : decode prog_74_method_14_code 156 = .ok (.goto 4, 3) := by decide +kernel
theorem d20_159 : decode prog_74_method_14_code 159 = .ok (.iconst 0, 1) := by decide +kernel
theorem d20_160 : decode prog_74_method_14_code 160 = .ok (.ior, 1) := by decide +kernel
theorem d20_161 : decode prog_74_method_14_code 161 = .ok (.iload 5, 2) := by decide +kernel
theorem d20_163 : decode prog_74_method_14_code 163 = .ok (.ifCond .eq 7, 3) := by decide +kernel
theorem d20_166 : decode prog_74_method_14_code 166 = .ok (.iconst 2, 1) := by decide +kernel
theorem d20_167 : decode prog_74_method_14_code 167 = .ok (.goto 4, 3) := by decide +kernel
theorem d20_170 : decode prog_74_method_14_code 170 = .ok (.iconst 0, 1) := by decide +kernel
theorem d20_171 : decode prog_74_method_14_code 171 = .ok (.ior, 1) := by decide +kernel
theorem d20_172 : decode prog_74_method_14_code 172 = .ok (.i2b, 1) := by decide +kernel
theorem d20_173 : decode prog_74_method_14_code 173 = .ok (.bastore, 1) := by decide +kernel
theorem d20_174 : decode prog_74_method_14_code 174 = .ok (.return_, 1) := by decide +kernel
def own_w1 (ob : Addr) (p1 : Int32) (p2 : Int64) (ri : Int32) (fa : Int32) (up : Int64) (dn : Int64) (pv : Int64) (ix : Int32) (ex : Int32) (ky : Int64) : Int32 := (if ky < pv then (0 : Int32) else (1 : Int32))
set_option maxRecDepth 65536 in
set_option maxHeartbeats 4000000 in
theorem own_w1_s {p : Program} {l : Launch} {e : Env} {R : Room} {s : State} {m : MethodId} {args : Array Value} {below : List Frame} {meth : Method} {c : Code} {T : State} {locs : List Loc} {cells slots : Nat} {Z : State} {a0 : Array Value} (X : Stand p l e R s m args below meth c T locs cells slots) (hx : p.tables.exec = Jvm.exec) (hby : c.code = prog_74_method_14_code) (hown : s.vm.findClass "com/example/bitrun/bitrun/orc/intv2/Segments" = some m.cls) (hZ : Z.Warmed39 s.vm) (hw : ∀ d ∈ tables_1, d.before a0 Z = true) (ob : Addr) (p1 : Int32) (p2 : Int64) (ri : Int32) (fa : Int32) (up : Int64) (dn : Int64) (pv : Int64) (ix : Int32) (ex : Int32) (ky : Int64) (v : Int32) (hv : own_w1 ob p1 p2 ri fa up dn pv ix ex ky = v) {target : State} (hk : Steps p.tables e below (T.setTop (mkF m 68 #[rv ob, iv p1, lv p2, .second, iv ri, iv fa, lv up, .second, lv dn, .second, lv pv, .second, iv ix, iv ex, lv ky, .second] [(.int v), (.int ri)])) target) :
    Steps p.tables e below (T.setTop (mkF m 53 #[rv ob, iv p1, lv p2, .second, iv ri, iv fa, lv up, .second, lv dn, .second, lv pv, .second, iv ix, iv ex, lv ky, .second] [])) target := by
  unfold own_w1 at hv
  show Steps p.tables e below (T.setTop (mkF m 53 #[rv ob, iv p1, lv p2, .second, iv ri, iv fa, lv up, .second, lv dn, .second, lv pv, .second, iv ix, iv ex, lv ky, .second] [])) _
  refine XS.iload X.here hx rfl (hb hby d20_53) rfl ?_
  show Steps p.tables e below (T.setTop (mkF m 55 #[rv ob, iv p1, lv p2, .second, iv ri, iv fa, lv up, .second, lv dn, .second, lv pv, .second, iv ix, iv ex, lv ky, .second] [(.int ri)])) _
  refine XS.lload X.here hx rfl (hb hby d20_55) rfl ?_
  show Steps p.tables e below (T.setTop (mkF m 57 #[rv ob, iv p1, lv p2, .second, iv ri, iv fa, lv up, .second, lv dn, .second, lv pv, .second, iv ix, iv ex, lv ky, .second] [(.long ky), (.int ri)])) _
  refine XS.lload X.here hx rfl (hb hby d20_57) rfl ?_
  show Steps p.tables e below (T.setTop (mkF m 59 #[rv ob, iv p1, lv p2, .second, iv ri, iv fa, lv up, .second, lv dn, .second, lv pv, .second, iv ix, iv ex, lv ky, .second] [(.long pv), (.long ky), (.int ri)])) _
  refine XS.lcmp X.here hx rfl (hb hby d20_59) rfl ?_
  show Steps p.tables e below (T.setTop (mkF m 60 #[rv ob, iv p1, lv p2, .second, iv ri, iv fa, lv up, .second, lv dn, .second, lv pv, .second, iv ix, iv ex, lv ky, .second] [(.int (lcmpW ky pv)), (.int ri)])) _
  by_cases hc60 : ky < pv
  · rw [if_pos hc60] at hv
    refine XS.ifYes X.here hx rfl (pc0 := 60) (pc' := 67) rfl (hb hby d20_60) rfl ((if0 _ _).trans (tlt ((lw_lt _ _).mpr hc60)).1) (by decide) (by decide) ?_
    show Steps p.tables e below (T.setTop (mkF m 67 #[rv ob, iv p1, lv p2, .second, iv ri, iv fa, lv up, .second, lv dn, .second, lv pv, .second, iv ix, iv ex, lv ky, .second] [(.int ri)])) _
    refine XS.iconst X.here hx rfl (hb hby d20_67) ?_
    show Steps p.tables e below (T.setTop (mkF m 68 #[rv ob, iv p1, lv p2, .second, iv ri, iv fa, lv up, .second, lv dn, .second, lv pv, .second, iv ix, iv ex, lv ky, .second] [(.int (0 : Int32)), (.int ri)])) _
    subst hv
    exact hk
  · rw [if_neg hc60] at hv
    refine XS.ifNo X.here hx rfl (hb hby d20_60) rfl ((if0 _ _).trans (flt (fun q => hc60 ((lw_lt _ _).mp q))).1) ?_
    show Steps p.tables e below (T.setTop (mkF m 63 #[rv ob, iv p1, lv p2, .second, iv ri, iv fa, lv up, .second, lv dn, .second, lv pv, .second, iv ix, iv ex, lv ky, .second] [(.int ri)])) _
    refine XS.iconst X.here hx rfl (hb hby d20_63) ?_
    show Steps p.tables e below (T.setTop (mkF m 64 #[rv ob, iv p1, lv p2, .second, iv ri, iv fa, lv up, .second, lv dn, .second, lv pv, .second, iv ix, iv ex, lv ky, .second] [(.int (1 : Int32)), (.int ri)])) _
    refine XS.goto X.here hx rfl (pc0 := 64) (pc' := 68) rfl (hb hby d20_64) (by decide) (by decide) ?_
    show Steps p.tables e below (T.setTop (mkF m 68 #[rv ob, iv p1, lv p2, .second, iv ri, iv fa, lv up, .second, lv dn, .second, lv pv, .second, iv ix, iv ex, lv ky, .second] [(.int (1 : Int32)), (.int ri)])) _
    subst hv
    exact hk
def own_w2 (ob : Addr) (p1 : Int32) (p2 : Int64) (ri : Int32) (fa : Int32) (up : Int64) (dn : Int64) (pv : Int64) (ix : Int32) (ex : Int32) (ky : Int64) : Int32 := (if pv < ky then (0 : Int32) else (1 : Int32))
set_option maxRecDepth 65536 in
set_option maxHeartbeats 4000000 in
theorem own_w2_s {p : Program} {l : Launch} {e : Env} {R : Room} {s : State} {m : MethodId} {args : Array Value} {below : List Frame} {meth : Method} {c : Code} {T : State} {locs : List Loc} {cells slots : Nat} {Z : State} {a0 : Array Value} (X : Stand p l e R s m args below meth c T locs cells slots) (hx : p.tables.exec = Jvm.exec) (hby : c.code = prog_74_method_14_code) (hown : s.vm.findClass "com/example/bitrun/bitrun/orc/intv2/Segments" = some m.cls) (hZ : Z.Warmed39 s.vm) (hw : ∀ d ∈ tables_1, d.before a0 Z = true) (ob : Addr) (p1 : Int32) (p2 : Int64) (ri : Int32) (fa : Int32) (up : Int64) (dn : Int64) (pv : Int64) (ix : Int32) (ex : Int32) (ky : Int64) (v : Int32) (hv : own_w2 ob p1 p2 ri fa up dn pv ix ex ky = v) {target : State} (hk : Steps p.tables e below (T.setTop (mkF m 86 #[rv ob, iv p1, lv p2, .second, iv ri, iv fa, lv up, .second, lv dn, .second, lv pv, .second, iv ix, iv ex, lv ky, .second] [(.int v), (.int fa)])) target) :
    Steps p.tables e below (T.setTop (mkF m 71 #[rv ob, iv p1, lv p2, .second, iv ri, iv fa, lv up, .second, lv dn, .second, lv pv, .second, iv ix, iv ex, lv ky, .second] [])) target := by
  unfold own_w2 at hv
  show Steps p.tables e below (T.setTop (mkF m 71 #[rv ob, iv p1, lv p2, .second, iv ri, iv fa, lv up, .second, lv dn, .second, lv pv, .second, iv ix, iv ex, lv ky, .second] [])) _
  refine XS.iload X.here hx rfl (hb hby d20_71) rfl ?_
  show Steps p.tables e below (T.setTop (mkF m 73 #[rv ob, iv p1, lv p2, .second, iv ri, iv fa, lv up, .second, lv dn, .second, lv pv, .second, iv ix, iv ex, lv ky, .second] [(.int fa)])) _
  refine XS.lload X.here hx rfl (hb hby d20_73) rfl ?_
  show Steps p.tables e below (T.setTop (mkF m 75 #[rv ob, iv p1, lv p2, .second, iv ri, iv fa, lv up, .second, lv dn, .second, lv pv, .second, iv ix, iv ex, lv ky, .second] [(.long ky), (.int fa)])) _
  refine XS.lload X.here hx rfl (hb hby d20_75) rfl ?_
  show Steps p.tables e below (T.setTop (mkF m 77 #[rv ob, iv p1, lv p2, .second, iv ri, iv fa, lv up, .second, lv dn, .second, lv pv, .second, iv ix, iv ex, lv ky, .second] [(.long pv), (.long ky), (.int fa)])) _
  refine XS.lcmp X.here hx rfl (hb hby d20_77) rfl ?_
  show Steps p.tables e below (T.setTop (mkF m 78 #[rv ob, iv p1, lv p2, .second, iv ri, iv fa, lv up, .second, lv dn, .second, lv pv, .second, iv ix, iv ex, lv ky, .second] [(.int (lcmpW ky pv)), (.int fa)])) _
  by_cases hc78 : pv < ky
  · rw [if_pos hc78] at hv
    refine XS.ifYes X.here hx rfl (pc0 := 78) (pc' := 85) rfl (hb hby d20_78) rfl ((if0 _ _).trans (tlt ((lw_gt _ _).mpr hc78)).2.2.1) (by decide) (by decide) ?_
    show Steps p.tables e below (T.setTop (mkF m 85 #[rv ob, iv p1, lv p2, .second, iv ri, iv fa, lv up, .second, lv dn, .second, lv pv, .second, iv ix, iv ex, lv ky, .second] [(.int fa)])) _
    refine XS.iconst X.here hx rfl (hb hby d20_85) ?_
    show Steps p.tables e below (T.setTop (mkF m 86 #[rv ob, iv p1, lv p2, .second, iv ri, iv fa, lv up, .second, lv dn, .second, lv pv, .second, iv ix, iv ex, lv ky, .second] [(.int (0 : Int32)), (.int fa)])) _
    subst hv
    exact hk
  · rw [if_neg hc78] at hv
    refine XS.ifNo X.here hx rfl (hb hby d20_78) rfl ((if0 _ _).trans (flt (fun q => hc78 ((lw_gt _ _).mp q))).2.2.1) ?_
    show Steps p.tables e below (T.setTop (mkF m 81 #[rv ob, iv p1, lv p2, .second, iv ri, iv fa, lv up, .second, lv dn, .second, lv pv, .second, iv ix, iv ex, lv ky, .second] [(.int fa)])) _
    refine XS.iconst X.here hx rfl (hb hby d20_81) ?_
    show Steps p.tables e below (T.setTop (mkF m 82 #[rv ob, iv p1, lv p2, .second, iv ri, iv fa, lv up, .second, lv dn, .second, lv pv, .second, iv ix, iv ex, lv ky, .second] [(.int (1 : Int32)), (.int fa)])) _
    refine XS.goto X.here hx rfl (pc0 := 82) (pc' := 86) rfl (hb hby d20_82) (by decide) (by decide) ?_
    show Steps p.tables e below (T.setTop (mkF m 86 #[rv ob, iv p1, lv p2, .second, iv ri, iv fa, lv up, .second, lv dn, .second, lv pv, .second, iv ix, iv ex, lv ky, .second] [(.int (1 : Int32)), (.int fa)])) _
    subst hv
    exact hk
def own_w3 (ob : Addr) (p1 : Int32) (p2 : Int64) (ri : Int32) (fa : Int32) (up : Int64) (dn : Int64) (pv : Int64) (ix : Int32) (ex : Int32) (ky : Int64) (vg : Addr) : Int64 := (if ri = (0 : Int32) then dn else up)
set_option maxRecDepth 65536 in
set_option maxHeartbeats 4000000 in
theorem own_w3_s {p : Program} {l : Launch} {e : Env} {R : Room} {s : State} {m : MethodId} {args : Array Value} {below : List Frame} {meth : Method} {c : Code} {T : State} {locs : List Loc} {cells slots : Nat} {Z : State} {a0 : Array Value} (X : Stand p l e R s m args below meth c T locs cells slots) (hx : p.tables.exec = Jvm.exec) (hby : c.code = prog_74_method_14_code) (hown : s.vm.findClass "com/example/bitrun/bitrun/orc/intv2/Segments" = some m.cls) (hZ : Z.Warmed39 s.vm) (hw : ∀ d ∈ tables_1, d.before a0 Z = true) (ob : Addr) (p1 : Int32) (p2 : Int64) (ri : Int32) (fa : Int32) (up : Int64) (dn : Int64) (pv : Int64) (ix : Int32) (ex : Int32) (ky : Int64) (vg : Addr) (v : Int64) (hv : own_w3 ob p1 p2 ri fa up dn pv ix ex ky vg = v) {target : State} (hk : Steps p.tables e below (T.setTop (mkF m 136 #[rv ob, iv p1, lv p2, .second, iv ri, iv fa, lv up, .second, lv dn, .second, lv pv, .second, iv ix, iv ex, lv ky, .second] [(.long v), (.int p1), (.ref vg)])) target) :
    Steps p.tables e below (T.setTop (mkF m 124 #[rv ob, iv p1, lv p2, .second, iv ri, iv fa, lv up, .second, lv dn, .second, lv pv, .second, iv ix, iv ex, lv ky, .second] [(.int p1), (.ref vg)])) target := by
  unfold own_w3 at hv
  show Steps p.tables e below (T.setTop (mkF m 124 #[rv ob, iv p1, lv p2, .second, iv ri, iv fa, lv up, .second, lv dn, .second, lv pv, .second, iv ix, iv ex, lv ky, .second] [(.int p1), (.ref vg)])) _
  refine XS.iload X.here hx rfl (hb hby d20_124) rfl ?_
  show Steps p.tables e below (T.setTop (mkF m 126 #[rv ob, iv p1, lv p2, .second, iv ri, iv fa, lv up, .second, lv dn, .second, lv pv, .second, iv ix, iv ex, lv ky, .second] [(.int ri), (.int p1), (.ref vg)])) _
  by_cases hc126 : ri = (0 : Int32)
  · rw [if_pos hc126] at hv
    refine XS.ifYes X.here hx rfl (pc0 := 126) (pc' := 134) rfl (hb hby d20_126) rfl ((if0 _ _).trans (teq hc126).1) (by decide) (by decide) ?_
    show Steps p.tables e below (T.setTop (mkF m 134 #[rv ob, iv p1, lv p2, .second, iv ri, iv fa, lv up, .second, lv dn, .second, lv pv, .second, iv ix, iv ex, lv ky, .second] [(.int p1), (.ref vg)])) _
    refine XS.lload X.here hx rfl (hb hby d20_134) rfl ?_
    show Steps p.tables e below (T.setTop (mkF m 136 #[rv ob, iv p1, lv p2, .second, iv ri, iv fa, lv up, .second, lv dn, .second, lv pv, .second, iv ix, iv ex, lv ky, .second] [(.long dn), (.int p1), (.ref vg)])) _
    subst hv
    exact hk
  · rw [if_neg hc126] at hv
    refine XS.ifNo X.here hx rfl (hb hby d20_126) rfl ((if0 _ _).trans (feq hc126).1) ?_
    show Steps p.tables e below (T.setTop (mkF m 129 #[rv ob, iv p1, lv p2, .second, iv ri, iv fa, lv up, .second, lv dn, .second, lv pv, .second, iv ix, iv ex, lv ky, .second] [(.int p1), (.ref vg)])) _
    refine XS.lload X.here hx rfl (hb hby d20_129) rfl ?_
    show Steps p.tables e below (T.setTop (mkF m 131 #[rv ob, iv p1, lv p2, .second, iv ri, iv fa, lv up, .second, lv dn, .second, lv pv, .second, iv ix, iv ex, lv ky, .second] [(.long up), (.int p1), (.ref vg)])) _
    refine XS.goto X.here hx rfl (pc0 := 131) (pc' := 136) rfl (hb hby d20_131) (by decide) (by decide) ?_
    show Steps p.tables e below (T.setTop (mkF m 136 #[rv ob, iv p1, lv p2, .second, iv ri, iv fa, lv up, .second, lv dn, .second, lv pv, .second, iv ix, iv ex, lv ky, .second] [(.long up), (.int p1), (.ref vg)])) _
    subst hv
    exact hk
def own_w4 (ob : Addr) (p1 : Int32) (p2 : Int64) (ri : Int32) (fa : Int32) (up : Int64) (dn : Int64) (pv : Int64) (ix : Int32) (ex : Int32) (ky : Int64) (vs : Addr) (b4 : Int32) : Int32 := (if ri = (0 : Int32) then (0 : Int32) else (1 : Int32))
set_option maxRecDepth 65536 in
set_option maxHeartbeats 4000000 in
theorem own_w4_s {p : Program} {l : Launch} {e : Env} {R : Room} {s : State} {m : MethodId} {args : Array Value} {below : List Frame} {meth : Method} {c : Code} {T : State} {locs : List Loc} {cells slots : Nat} {Z : State} {a0 : Array Value} (X : Stand p l e R s m args below meth c T locs cells slots) (hx : p.tables.exec = Jvm.exec) (hby : c.code = prog_74_method_14_code) (hown : s.vm.findClass "com/example/bitrun/bitrun/orc/intv2/Segments" = some m.cls) (hZ : Z.Warmed39 s.vm) (hw : ∀ d ∈ tables_1, d.before a0 Z = true) (ob : Addr) (p1 : Int32) (p2 : Int64) (ri : Int32) (fa : Int32) (up : Int64) (dn : Int64) (pv : Int64) (ix : Int32) (ex : Int32) (ky : Int64) (vs : Addr) (b4 : Int32) (v : Int32) (hv : own_w4 ob p1 p2 ri fa up dn pv ix ex ky vs b4 = v) {target : State} (hk : Steps p.tables e below (T.setTop (mkF m 160 #[rv ob, iv p1, lv p2, .second, iv ri, iv fa, lv up, .second, lv dn, .second, lv pv, .second, iv ix, iv ex, lv ky, .second] [(.int v), (.int b4), (.int p1), (.ref vs)])) target) :
    Steps p.tables e below (T.setTop (mkF m 150 #[rv ob, iv p1, lv p2, .second, iv ri, iv fa, lv up, .second, lv dn, .second, lv pv, .second, iv ix, iv ex, lv ky, .second] [(.int b4), (.int p1), (.ref vs)])) target := by
  unfold own_w4 at hv
  show Steps p.tables e below (T.setTop (mkF m 150 #[rv ob, iv p1, lv p2, .second, iv ri, iv fa, lv up, .second, lv dn, .second, lv pv, .second, iv ix, iv ex, lv ky, .second] [(.int b4), (.int p1), (.ref vs)])) _
  refine XS.iload X.here hx rfl (hb hby d20_150) rfl ?_
  show Steps p.tables e below (T.setTop (mkF m 152 #[rv ob, iv p1, lv p2, .second, iv ri, iv fa, lv up, .second, lv dn, .second, lv pv, .second, iv ix, iv ex, lv ky, .second] [(.int ri), (.int b4), (.int p1), (.ref vs)])) _
  by_cases hc152 : ri = (0 : Int32)
  · rw [if_pos hc152] at hv
    refine XS.ifYes X.here hx rfl (pc0 := 152) (pc' := 159) rfl (hb hby d20_152) rfl ((if0 _ _).trans (teq hc152).1) (by decide) (by decide) ?_
    show Steps p.tables e below (T.setTop (mkF m 159 #[rv ob, iv p1, lv p2, .second, iv ri, iv fa, lv up, .second, lv dn, .second, lv pv, .second, iv ix, iv ex, lv ky, .second] [(.int b4), (.int p1), (.ref vs)])) _
    refine XS.iconst X.here hx rfl (hb hby d20_159) ?_
    show Steps p.tables e below (T.setTop (mkF m 160 #[rv ob, iv p1, lv p2, .second, iv ri, iv fa, lv up, .second, lv dn, .second, lv pv, .second, iv ix, iv ex, lv ky, .second] [(.int (0 : Int32)), (.int b4), (.int p1), (.ref vs)])) _
    subst hv
    exact hk
  · rw [if_neg hc152] at hv
    refine XS.ifNo X.here hx rfl (hb hby d20_152) rfl ((if0 _ _).trans (feq hc152).1) ?_
    show Steps p.tables e below (T.setTop (mkF m 155 #[rv ob, iv p1, lv p2, .second, iv ri, iv fa, lv up, .second, lv dn, .second, lv pv, .second, iv ix, iv ex, lv ky, .second] [(.int b4), (.int p1), (.ref vs)])) _
    refine XS.iconst X.here hx rfl (hb hby d20_155) ?_
    show Steps p.tables e below (T.setTop (mkF m 156 #[rv ob, iv p1, lv p2, .second, iv ri, iv fa, lv up, .second, lv dn, .second, lv pv, .second, iv ix, iv ex, lv ky, .second] [(.int (1 : Int32)), (.int b4), (.int p1), (.ref vs)])) _
    refine XS.goto X.here hx rfl (pc0 := 156) (pc' := 160) rfl (hb hby d20_156) (by decide) (by decide) ?_
    show Steps p.tables e below (T.setTop (mkF m 160 #[rv ob, iv p1, lv p2, .second, iv ri, iv fa, lv up, .second, lv dn, .second, lv pv, .second, iv ix, iv ex, lv ky, .second] [(.int (1 : Int32)), (.int b4), (.int p1), (.ref vs)])) _
    subst hv
    exact hk
def own_w5 (ob : Addr) (p1 : Int32) (p2 : Int64) (ri : Int32) (fa : Int32) (up : Int64) (dn : Int64) (pv : Int64) (ix : Int32) (ex : Int32) (ky : Int64) (vs : Addr) (b5 : Int32) : Int32 := (if fa = (0 : Int32) then (0 : Int32) else (2 : Int32))
set_option maxRecDepth 65536 in
set_option maxHeartbeats 4000000 in
theorem own_w5_s {p : Program} {l : Launch} {e : Env} {R : Room} {s : State} {m : MethodId} {args : Array Value} {below : List Frame} {meth : Method} {c : Code} {T : State} {locs : List Loc} {cells slots : Nat} {Z : State} {a0 : Array Value} (X : Stand p l e R s m args below meth c T locs cells slots) (hx : p.tables.exec = Jvm.exec) (hby : c.code = prog_74_method_14_code) (hown : s.vm.findClass "com/example/bitrun/bitrun/orc/intv2/Segments" = some m.cls) (hZ : Z.Warmed39 s.vm) (hw : ∀ d ∈ tables_1, d.before a0 Z = true) (ob : Addr) (p1 : Int32) (p2 : Int64) (ri : Int32) (fa : Int32) (up : Int64) (dn : Int64) (pv : Int64) (ix : Int32) (ex : Int32) (ky : Int64) (vs : Addr) (b5 : Int32) (v : Int32) (hv : own_w5 ob p1 p2 ri fa up dn pv ix ex ky vs b5 = v) {target : State} (hk : Steps p.tables e below (T.setTop (mkF m 171 #[rv ob, iv p1, lv p2, .second, iv ri, iv fa, lv up, .second, lv dn, .second, lv pv, .second, iv ix, iv ex, lv ky, .second] [(.int v), (.int b5), (.int p1), (.ref vs)])) target) :
    Steps p.tables e below (T.setTop (mkF m 161 #[rv ob, iv p1, lv p2, .second, iv ri, iv fa, lv up, .second, lv dn, .second, lv pv, .second, iv ix, iv ex, lv ky, .second] [(.int b5), (.int p1), (.ref vs)])) target := by
  unfold own_w5 at hv
  show Steps p.tables e below (T.setTop (mkF m 161 #[rv ob, iv p1, lv p2, .second, iv ri, iv fa, lv up, .second, lv dn, .second, lv pv, .second, iv ix, iv ex, lv ky, .second] [(.int b5), (.int p1), (.ref vs)])) _
  refine XS.iload X.here hx rfl (hb hby d20_161) rfl ?_
  show Steps p.tables e below (T.setTop (mkF m 163 #[rv ob, iv p1, lv p2, .second, iv ri, iv fa, lv up, .second, lv dn, .second, lv pv, .second, iv ix, iv ex, lv ky, .second] [(.int fa), (.int b5), (.int p1), (.ref vs)])) _
  by_cases hc163 : fa = (0 : Int32)
  · rw [if_pos hc163] at hv
    refine XS.ifYes X.here hx rfl (pc0 := 163) (pc' := 170) rfl (hb hby d20_163) rfl ((if0 _ _).trans (teq hc163).1) (by decide) (by decide) ?_
    show Steps p.tables e below (T.setTop (mkF m 170 #[rv ob, iv p1, lv p2, .second, iv ri, iv fa, lv up, .second, lv dn, .second, lv pv, .second, iv ix, iv ex, lv ky, .second] [(.int b5), (.int p1), (.ref vs)])) _
    refine XS.iconst X.here hx rfl (hb hby d20_170) ?_
    show Steps p.tables e below (T.setTop (mkF m 171 #[rv ob, iv p1, lv p2, .second, iv ri, iv fa, lv up, .second, lv dn, .second, lv pv, .second, iv ix, iv ex, lv ky, .second] [(.int (0 : Int32)), (.int b5), (.int p1), (.ref vs)])) _
    subst hv
    exact hk
  · rw [if_neg hc163] at hv
    refine XS.ifNo X.here hx rfl (hb hby d20_163) rfl ((if0 _ _).trans (feq hc163).1) ?_
    show Steps p.tables e below (T.setTop (mkF m 166 #[rv ob, iv p1, lv p2, .second, iv ri, iv fa, lv up, .second, lv dn, .second, lv pv, .second, iv ix, iv ex, lv ky, .second] [(.int b5), (.int p1), (.ref vs)])) _
    refine XS.iconst X.here hx rfl (hb hby d20_166) ?_
    show Steps p.tables e below (T.setTop (mkF m 167 #[rv ob, iv p1, lv p2, .second, iv ri, iv fa, lv up, .second, lv dn, .second, lv pv, .second, iv ix, iv ex, lv ky, .second] [(.int (2 : Int32)), (.int b5), (.int p1), (.ref vs)])) _
    refine XS.goto X.here hx rfl (pc0 := 167) (pc' := 171) rfl (hb hby d20_167) (by decide) (by decide) ?_
    show Steps p.tables e below (T.setTop (mkF m 171 #[rv ob, iv p1, lv p2, .second, iv ri, iv fa, lv up, .second, lv dn, .second, lv pv, .second, iv ix, iv ex, lv ky, .second] [(.int (2 : Int32)), (.int b5), (.int p1), (.ref vs)])) _
    subst hv
    exact hk
theorem ef_20 (m : MethodId) (x0 : Addr) (x1 : Int32) (x2 : Int64) : entryFrame m #[(.ref x0), (.int x1), (.long x2)] 16 = mkF m 0 #[rv x0, iv x1, lv x2, .second, .unset, .unset, .unset, .unset, .unset, .unset, .unset, .unset, .unset, .unset, .unset, .unset] [] := by first | (simp [entryFrame, mkF, argsToLocals, Value.category, maxLocals]; done) | rfl
theorem pn_20 : plainName "com/example/bitrun/bitrun/orc/intv2/Segments" = true := by first | (simp [plainName, overriddenIn]; done) | decide +kernel
def Q_rm20 (Z : State) (ob : Addr) (p1 : Int32) (p2 : Int64) (va vb vl vh vf vg vs : Addr) (kv kb kl kh kf kg ks : ClassId) (fl : Int64) (nn nb : Int32) (VV : List Value) (cn : Int32) (VB VL VH VF VG VS : List Value) (h0 : Heap) (n0 : Nat) (v : Option Value) (h : Heap) (L : List Loc) : Prop := v = none ∧ Fr n0 L ∧ Keep h0 h [ob, vb, vl, vh, vf, vg, vs] ∧ ∃ x y, own_G Z h ob va vb vl vh vf vg vs kv kb kl kh kf kg ks fl nn nb VV (.ref va) cn VB VL VH VF (VG.set p1.toNatClampNeg (.long x)) (VS.set p1.toNatClampNeg (.int y))
set_option maxRecDepth 65536 in
set_option maxHeartbeats 40000000 in
theorem rm20 (l : Launch) (Z : State) (a0 : Array Value) (hw : ∀ d ∈ tables_1, d.before a0 Z = true) (ws : List Jvm.Cond) (ob : Addr) (p1 : Int32) (p2 : Int64) (va vb vl vh vf vg vs : Addr) (kv kb kl kh kf kg ks : ClassId) (fl : Int64) (nn nb : Int32) (VV : List Value) (cn : Int32) (VB VL VH VF VG VS : List Value) (h0 : Heap) (n0 : Nat) (Z0 : n0 ≤ h0.size) (hO : own_O n0 ob va vb vl vh vf vg vs nn nb) (hG : own_G Z h0 ob va vb vl vh vf vg vs kv kb kl kh kf kg ks fl nn nb VV (.ref va) cn VB VL VH VF VG VS) (hp1 : 0 ≤ p1.toInt ∧ p1.toInt < nn.toInt) (sx ex : Int32) (hsx : VB.getD p1.toNatClampNeg (.int (0 : Int32)) = .int sx) (hex : VB.getD (p1 + (1 : Int32)).toNatClampNeg (.int (0 : Int32)) = .int ex) (hs : 0 ≤ sx.toInt ∧ ex.toInt = sx.toInt + 2 ∧ ex.toInt ≤ 6) :
    MetFree l (⟨"com/example/bitrun/bitrun/orc/intv2/Segments", "wrappedSteps", "(IJ)V"⟩ : MethodName) (head1 (Jvm.Cond.code (⟨"com/example/bitrun/bitrun/orc/intv2/Segments", "wrappedSteps", "(IJ)V"⟩ : MethodName) prog_74_method_14_code 16 none :: ws) ({ frames := 1, cells := 0, slots := 0, locals := 14 } : Room)) (fun a U => a = #[(.ref ob), (.int p1), (.long p2)] ∧ Z.Warmed39 U.vm ∧ U.heap = h0) (fun _ _ _ _ _ => True) (fun _ U o U' => ∃ v L, o = .returned v ∧ Q_rm20 Z ob p1 p2 va vb vl vh vf vg vs kv kb kl kh kf kg ks fl nn nb VV cn VB VL VH VF VG VS h0 n0 v U'.heap L ∧ FrameEnd U o U' L ({ frames := 1, cells := 0, slots := 0, locals := 14 } : Room).cells ({ frames := 1, cells := 0, slots := 0, locals := 14 } : Room).slots) := by
  refine MetFree.of_bodySF (plainFor_of_name pn_20) hisR ?_
  intro p e s m args below meth c s₁ Bd hml0 hP hK
  obtain ⟨rfl, hZ, hh⟩ := hP
  have hx := Bd.exec
  have hby := Bd.bytes
  have hml : c.maxLocals = 16 := hml0
  have hown : s.vm.findClass "com/example/bitrun/bitrun/orc/intv2/Segments" = some m.cls := findClass_of_methodNamed Bd.named
  have hnm := (name_of_methodNamed Bd.named Bd.method).1
  have X0 : Stand p l e ({ frames := 1, cells := 0, slots := 0, locals := 14 } : Room) s m #[(.ref ob), (.int p1), (.long p2)] below meth c s₁ [] 0 0 := Stand.of_body Bd
  have e0 : s₁.heap = h0 := by rw [← hh, Bd.state]; rfl
  have N0 := Fr.nil n0
  have pre0 : ∀ t, Steps p.tables e below (s₁.setTop (mkF m 0 #[rv ob, iv p1, lv p2, .second, .unset, .unset, .unset, .unset, .unset, .unset, .unset, .unset, .unset, .unset, .unset, .unset] [])) t → Steps p.tables e below (s₁.setTop (entryFrame m #[(.ref ob), (.int p1), (.long p2)] 16)) t := fun t k => castTop (ef_20 m ob p1 p2) k
  obtain ⟨S0, hS0⟩ : ∃ z, z = (s₁.setTop (entryFrame m #[(.ref ob), (.int p1), (.long p2)] 16)) := ⟨_, rfl⟩
  rw [← hS0] at pre0 ⊢
  have K0 : own_R p e below (s₁.setTop (mkF m 0 #[rv ob, iv p1, lv p2, .second, .unset, .unset, .unset, .unset, .unset, .unset, .unset, .unset, .unset, .unset, .unset, .unset] [])) S0 := pre0
  obtain ⟨o1, o2, o3, o4, o5, o6, o7, o8, o9, o10, o11⟩ := id hO
  have t1 := own_add1 sx (by omega)
  have t2 := own_add1 (sx + (1 : Int32)) (by omega)
  have l0 : sx < ex := Int32.lt_iff_toInt_lt.mpr (by omega)
  have l1 : (sx + (1 : Int32)) < ex := Int32.lt_iff_toInt_lt.mpr (by omega)
  have l2 : ¬ (((sx + (1 : Int32)) + (1 : Int32)) < ex) := fun q => by have := Int32.lt_iff_toInt_lt.mp q; omega
  have hj := own_add1 p1 (by omega)
  have K1 : own_R p e below (s₁.setTop (mkF m 16 #[rv ob, iv p1, lv p2, .second, iv (1 : Int32), iv (1 : Int32), lv (0 : Int64), .second, lv (0 : Int64), .second, lv p2, .second, .unset, .unset, .unset, .unset] [(.ref ob)])) S0 := by
    intro t hk
    refine K0 t ?_
    show Steps p.tables e below (s₁.setTop (mkF m 0 #[rv ob, iv p1, lv p2, .second, .unset, .unset, .unset, .unset, .unset, .unset, .unset, .unset, .unset, .unset, .unset, .unset] [])) _
    refine XS.iconst X0.here hx rfl (hb hby d20_0) ?_
    refine XS.istore X0.here hx rfl (hb hby d20_1) rfl (l' := #[rv ob, iv p1, lv p2, .second, iv (1 : Int32), .unset, .unset, .unset, .unset, .unset, .unset, .unset, .unset, .unset, .unset, .unset]) rfl ?_
    refine XS.iconst X0.here hx rfl (hb hby d20_3) ?_
    refine XS.istore X0.here hx rfl (hb hby d20_4) rfl (l' := #[rv ob, iv p1, lv p2, .second, iv (1 : Int32), iv (1 : Int32), .unset, .unset, .unset, .unset, .unset, .unset, .unset, .unset, .unset, .unset]) rfl ?_
    refine XS.lconst X0.here hx rfl (hb hby d20_6) ?_
    refine XS.lstore X0.here hx rfl (hb hby d20_7) rfl (l' := #[rv ob, iv p1, lv p2, .second, iv (1 : Int32), iv (1 : Int32), lv (0 : Int64), .second, .unset, .unset, .unset, .unset, .unset, .unset, .unset, .unset]) rfl ?_
    refine XS.lconst X0.here hx rfl (hb hby d20_9) ?_
    refine XS.lstore X0.here hx rfl (hb hby d20_10) rfl (l' := #[rv ob, iv p1, lv p2, .second, iv (1 : Int32), iv (1 : Int32), lv (0 : Int64), .second, lv (0 : Int64), .second, .unset, .unset, .unset, .unset, .unset, .unset]) rfl ?_
    refine XS.lloadN X0.here hx rfl (hb hby d20_12) rfl ?_
    refine XS.lstore X0.here hx rfl (hb hby d20_13) rfl (l' := #[rv ob, iv p1, lv p2, .second, iv (1 : Int32), iv (1 : Int32), lv (0 : Int64), .second, lv (0 : Int64), .second, lv p2, .second, .unset, .unset, .unset, .unset]) rfl ?_
    refine XS.aloadN X0.here hx rfl (hb hby d20_15) rfl rfl ?_
    exact hk
  obtain ⟨T2, X2, e2, st2⟩ := getF X0 hx hZ hown (host := "") (Or.inl (hw _ (List.mem_of_getElem? (i := 21) rfl))) Via.refl e0 (own_pF_bounds hG) (g := (mkF m 16 #[rv ob, iv p1, lv p2, .second, iv (1 : Int32), iv (1 : Int32), lv (0 : Int64), .second, lv (0 : Int64), .second, lv p2, .second, .unset, .unset, .unset, .unset] [(.ref ob)])) rfl rfl (hb hby d20_16)
  have K2 : own_R p e below (T2.setTop (mkF m 19 #[rv ob, iv p1, lv p2, .second, iv (1 : Int32), iv (1 : Int32), lv (0 : Int64), .second, lv (0 : Int64), .second, lv p2, .second, .unset, .unset, .unset, .unset] [(.ref vb)])) S0 := fun t hk => K1 t (st2 _ hk)
  have K3 : own_R p e below (T2.setTop (mkF m 20 #[rv ob, iv p1, lv p2, .second, iv (1 : Int32), iv (1 : Int32), lv (0 : Int64), .second, lv (0 : Int64), .second, lv p2, .second, .unset, .unset, .unset, .unset] [(.int p1), (.ref vb)])) S0 := by
    intro t hk
    refine K2 t ?_
    show Steps p.tables e below (T2.setTop (mkF m 19 #[rv ob, iv p1, lv p2, .second, iv (1 : Int32), iv (1 : Int32), lv (0 : Int64), .second, lv (0 : Int64), .second, lv p2, .second, .unset, .unset, .unset, .unset] [(.ref vb)])) _
    refine XS.iloadN X2.here hx rfl (hb hby d20_19) rfl ?_
    exact hk
  obtain ⟨w1, hv_w1, st4⟩ := own_ldI X2 hx hZ e2 (own_pV_vb hG) (j := p1) (own_b _ _ (by omega)) (g := (mkF m 20 #[rv ob, iv p1, lv p2, .second, iv (1 : Int32), iv (1 : Int32), lv (0 : Int64), .second, lv (0 : Int64), .second, lv p2, .second, .unset, .unset, .unset, .unset] [(.int p1), (.ref vb)])) rfl rfl (hb hby d20_20)
  rw [show w1 = sx from Value.int.inj ((hsx).symm.trans hv_w1 |>.symm)] at st4
  have K4 : own_R p e below (T2.setTop (mkF m 21 #[rv ob, iv p1, lv p2, .second, iv (1 : Int32), iv (1 : Int32), lv (0 : Int64), .second, lv (0 : Int64), .second, lv p2, .second, .unset, .unset, .unset, .unset] [(.int sx)])) S0 := fun t hk => K3 t (st4 _ hk)
  have K5 : own_R p e below (T2.setTop (mkF m 24 #[rv ob, iv p1, lv p2, .second, iv (1 : Int32), iv (1 : Int32), lv (0 : Int64), .second, lv (0 : Int64), .second, lv p2, .second, iv sx, .unset, .unset, .unset] [(.ref ob)])) S0 := by
    intro t hk
    refine K4 t ?_
    show Steps p.tables e below (T2.setTop (mkF m 21 #[rv ob, iv p1, lv p2, .second, iv (1 : Int32), iv (1 : Int32), lv (0 : Int64), .second, lv (0 : Int64), .second, lv p2, .second, .unset, .unset, .unset, .unset] [(.int sx)])) _
    refine XS.istore X2.here hx rfl (hb hby d20_21) rfl (l' := #[rv ob, iv p1, lv p2, .second, iv (1 : Int32), iv (1 : Int32), lv (0 : Int64), .second, lv (0 : Int64), .second, lv p2, .second, iv sx, .unset, .unset, .unset]) rfl ?_
    refine XS.aloadN X2.here hx rfl (hb hby d20_23) rfl rfl ?_
    exact hk
  obtain ⟨T6, X6, e6, st6⟩ := getF X2 hx hZ hown (host := "") (Or.inl (hw _ (List.mem_of_getElem? (i := 21) rfl))) Via.refl e2 (own_pF_bounds hG) (g := (mkF m 24 #[rv ob, iv p1, lv p2, .second, iv (1 : Int32), iv (1 : Int32), lv (0 : Int64), .second, lv (0 : Int64), .second, lv p2, .second, iv sx, .unset, .unset, .unset] [(.ref ob)])) rfl rfl (hb hby d20_24)
  have K6 : own_R p e below (T6.setTop (mkF m 27 #[rv ob, iv p1, lv p2, .second, iv (1 : Int32), iv (1 : Int32), lv (0 : Int64), .second, lv (0 : Int64), .second, lv p2, .second, iv sx, .unset, .unset, .unset] [(.ref vb)])) S0 := fun t hk => K5 t (st6 _ hk)
  have K7 : own_R p e below (T6.setTop (mkF m 30 #[rv ob, iv p1, lv p2, .second, iv (1 : Int32), iv (1 : Int32), lv (0 : Int64), .second, lv (0 : Int64), .second, lv p2, .second, iv sx, .unset, .unset, .unset] [(.int (p1 + (1 : Int32))), (.ref vb)])) S0 := by
    intro t hk
    refine K6 t ?_
    show Steps p.tables e below (T6.setTop (mkF m 27 #[rv ob, iv p1, lv p2, .second, iv (1 : Int32), iv (1 : Int32), lv (0 : Int64), .second, lv (0 : Int64), .second, lv p2, .second, iv sx, .unset, .unset, .unset] [(.ref vb)])) _
    refine XS.iloadN X6.here hx rfl (hb hby d20_27) rfl ?_
    refine XS.iconst X6.here hx rfl (hb hby d20_28) ?_
    refine XS.iadd X6.here hx rfl (hb hby d20_29) rfl ?_
    exact hk
  obtain ⟨w2, hv_w2, st8⟩ := own_ldI X6 hx hZ e6 (own_pV_vb hG) (j := (p1 + (1 : Int32))) (own_b _ _ (by omega)) (g := (mkF m 30 #[rv ob, iv p1, lv p2, .second, iv (1 : Int32), iv (1 : Int32), lv (0 : Int64), .second, lv (0 : Int64), .second, lv p2, .second, iv sx, .unset, .unset, .unset] [(.int (p1 + (1 : Int32))), (.ref vb)])) rfl rfl (hb hby d20_30)
  rw [show w2 = ex from Value.int.inj ((hex).symm.trans hv_w2 |>.symm)] at st8
  have K8 : own_R p e below (T6.setTop (mkF m 31 #[rv ob, iv p1, lv p2, .second, iv (1 : Int32), iv (1 : Int32), lv (0 : Int64), .second, lv (0 : Int64), .second, lv p2, .second, iv sx, .unset, .unset, .unset] [(.int ex)])) S0 := fun t hk => K7 t (st8 _ hk)
  have K9 : own_R p e below (T6.setTop (mkF m 37 #[rv ob, iv p1, lv p2, .second, iv (1 : Int32), iv (1 : Int32), lv (0 : Int64), .second, lv (0 : Int64), .second, lv p2, .second, iv sx, iv ex, .unset, .unset] [(.int ex), (.int sx)])) S0 := by
    intro t hk
    refine K8 t ?_
    show Steps p.tables e below (T6.setTop (mkF m 31 #[rv ob, iv p1, lv p2, .second, iv (1 : Int32), iv (1 : Int32), lv (0 : Int64), .second, lv (0 : Int64), .second, lv p2, .second, iv sx, .unset, .unset, .unset] [(.int ex)])) _
    refine XS.istore X6.here hx rfl (hb hby d20_31) rfl (l' := #[rv ob, iv p1, lv p2, .second, iv (1 : Int32), iv (1 : Int32), lv (0 : Int64), .second, lv (0 : Int64), .second, lv p2, .second, iv sx, iv ex, .unset, .unset]) rfl ?_
    refine XS.iload X6.here hx rfl (hb hby d20_33) rfl ?_
    refine XS.iload X6.here hx rfl (hb hby d20_35) rfl ?_
    exact hk
  have hc37 : sx < ex := l0
  have K10 : own_R p e below (T6.setTop (mkF m 40 #[rv ob, iv p1, lv p2, .second, iv (1 : Int32), iv (1 : Int32), lv (0 : Int64), .second, lv (0 : Int64), .second, lv p2, .second, iv sx, iv ex, .unset, .unset] [])) S0 := by
    intro t hk
    refine K9 t ?_
    show Steps p.tables e below (T6.setTop (mkF m 37 #[rv ob, iv p1, lv p2, .second, iv (1 : Int32), iv (1 : Int32), lv (0 : Int64), .second, lv (0 : Int64), .second, lv p2, .second, iv sx, iv ex, .unset, .unset] [(.int ex), (.int sx)])) _
    refine XS.icmpNo X6.here hx rfl (hb hby d20_37) rfl (tlt hc37).2.1 ?_
    exact hk
  have K11 : own_R p e below (T6.setTop (mkF m 42 #[rv ob, iv p1, lv p2, .second, iv (1 : Int32), iv (1 : Int32), lv (0 : Int64), .second, lv (0 : Int64), .second, lv p2, .second, iv sx, iv ex, .unset, .unset] [(.ref ob), (.ref ob)])) S0 := by
    intro t hk
    refine K10 t ?_
    show Steps p.tables e below (T6.setTop (mkF m 40 #[rv ob, iv p1, lv p2, .second, iv (1 : Int32), iv (1 : Int32), lv (0 : Int64), .second, lv (0 : Int64), .second, lv p2, .second, iv sx, iv ex, .unset, .unset] [])) _
    refine XS.aloadN X6.here hx rfl (hb hby d20_40) rfl rfl ?_
    refine XS.aloadN X6.here hx rfl (hb hby d20_41) rfl rfl ?_
    exact hk
  obtain ⟨T12, X12, e12, st12⟩ := getF X6 hx hZ hown (host := "") (Or.inl (hw _ (List.mem_of_getElem? (i := 66) rfl))) Via.refl e6 (own_pF_values hG) (g := (mkF m 42 #[rv ob, iv p1, lv p2, .second, iv (1 : Int32), iv (1 : Int32), lv (0 : Int64), .second, lv (0 : Int64), .second, lv p2, .second, iv sx, iv ex, .unset, .unset] [(.ref ob), (.ref ob)])) rfl rfl (hb hby d20_42)
  have K12 : own_R p e below (T12.setTop (mkF m 45 #[rv ob, iv p1, lv p2, .second, iv (1 : Int32), iv (1 : Int32), lv (0 : Int64), .second, lv (0 : Int64), .second, lv p2, .second, iv sx, iv ex, .unset, .unset] [(.ref va), (.ref ob)])) S0 := fun t hk => K11 t (st12 _ hk)
  have K13 : own_R p e below (T12.setTop (mkF m 47 #[rv ob, iv p1, lv p2, .second, iv (1 : Int32), iv (1 : Int32), lv (0 : Int64), .second, lv (0 : Int64), .second, lv p2, .second, iv sx, iv ex, .unset, .unset] [(.int sx), (.ref va), (.ref ob)])) S0 := by
    intro t hk
    refine K12 t ?_
    show Steps p.tables e below (T12.setTop (mkF m 45 #[rv ob, iv p1, lv p2, .second, iv (1 : Int32), iv (1 : Int32), lv (0 : Int64), .second, lv (0 : Int64), .second, lv p2, .second, iv sx, iv ex, .unset, .unset] [(.ref va), (.ref ob)])) _
    refine XS.iload X12.here hx rfl (hb hby d20_45) rfl ?_
    exact hk
  obtain ⟨x0, hv_x0, st14⟩ := own_ldJ X12 hx hZ e12 (own_pV_va hG) (j := sx) (own_b _ _ (by rw [own_six]; omega)) (g := (mkF m 47 #[rv ob, iv p1, lv p2, .second, iv (1 : Int32), iv (1 : Int32), lv (0 : Int64), .second, lv (0 : Int64), .second, lv p2, .second, iv sx, iv ex, .unset, .unset] [(.int sx), (.ref va), (.ref ob)])) rfl rfl (hb hby d20_47)
  have K14 : own_R p e below (T12.setTop (mkF m 48 #[rv ob, iv p1, lv p2, .second, iv (1 : Int32), iv (1 : Int32), lv (0 : Int64), .second, lv (0 : Int64), .second, lv p2, .second, iv sx, iv ex, .unset, .unset] [(.long x0), (.ref ob)])) S0 := fun t hk => K13 t (st14 _ hk)
  obtain ⟨cq15, kq15, q15a, q15b, q15c⟩ := isOf hZ e12 (own_pE hG)
  obtain ⟨_, _, ⟨T15, L15, k15, n15⟩, -, X15, ⟨Lc15, hQ15, l15, y15, z15⟩, st15⟩ := X12.virtualBack hx (y := (⟨"com/example/bitrun/bitrun/orc/intv2/Segments", "key", "(J)J"⟩ : MethodName)) (z := (⟨"com/example/bitrun/bitrun/orc/intv2/Segments", "key", "(J)J"⟩ : MethodName)) hown (mvT hZ (hw _ (List.mem_of_getElem? (i := 85) rfl))) (mvT hZ (hw _ (List.mem_of_getElem? (i := 86) rfl))) (notFace_of_selects (args := #[]) (mvT hZ (hw _ (List.mem_of_getElem? (i := 88) rfl)))) (mvT hZ (hw _ (List.mem_of_getElem? (i := 88) rfl))) (mvT hZ (hw _ (List.mem_of_getElem? (i := 87) rfl))) (by decide) (backOf (W := 0) (rm14 l Z a0 hw [] ob x0 va vb vl vh vf vg vs kv kb kl kh kf kg ks fl nn nb VV cn VB VL VH VF VG VS h0 n0 Z0 hO hG) hZ (hw _ (List.mem_of_getElem? (i := 89) rfl)) (hw _ (List.mem_of_getElem? (i := 4) rfl)) (by decide) (by decide)) q15a q15c (g := (mkF m 48 #[rv ob, iv p1, lv p2, .second, iv (1 : Int32), iv (1 : Int32), lv (0 : Int64), .second, lv (0 : Int64), .second, lv p2, .second, iv sx, iv ex, .unset, .unset] [(.long x0), (.ref ob)])) rfl (by rw [hml]; rfl) (Steps.refl _) (argsL := [(.long x0)]) (rest := []) (lenOf (by decide +kernel : parseMethodDescriptor "(J)J" = some ⟨[.long], (some .long)⟩) rfl) rfl (by show 2 * 0 + _ ≤ _; exact Nat.le_of_eq rfl) (hb hby d20_48) (fun _ _ => ⟨rfl, e12, (by decide : 0 + 0 ≤ _), (by decide : 0 + 0 ≤ _)⟩)
  dsimp only [Pt.U, Pt.locs, Pt.cells, Pt.slots] at X15 l15 y15 z15 st15 hQ15
  replace y15 := y15.symm; replace z15 := z15.symm; subst l15 y15 z15
  obtain ⟨rfl, Nq15, e15⟩ := hQ15
  have N15 := Fr.app N0 Nq15
  have K15 : own_R p e below (T15.setTop (mkF m 51 #[rv ob, iv p1, lv p2, .second, iv (1 : Int32), iv (1 : Int32), lv (0 : Int64), .second, lv (0 : Int64), .second, lv p2, .second, iv sx, iv ex, .unset, .unset] [(.long (x0 ^^^ fl))])) S0 := fun t hk => K14 t (st15.trans hk)
  have K16 : own_R p e below (T15.setTop (mkF m 53 #[rv ob, iv p1, lv p2, .second, iv (1 : Int32), iv (1 : Int32), lv (0 : Int64), .second, lv (0 : Int64), .second, lv p2, .second, iv sx, iv ex, lv (x0 ^^^ fl), .second] [])) S0 := by
    intro t hk
    refine K15 t ?_
    show Steps p.tables e below (T15.setTop (mkF m 51 #[rv ob, iv p1, lv p2, .second, iv (1 : Int32), iv (1 : Int32), lv (0 : Int64), .second, lv (0 : Int64), .second, lv p2, .second, iv sx, iv ex, .unset, .unset] [(.long (x0 ^^^ fl))])) _
    refine XS.lstore X15.here hx rfl (hb hby d20_51) rfl (l' := #[rv ob, iv p1, lv p2, .second, iv (1 : Int32), iv (1 : Int32), lv (0 : Int64), .second, lv (0 : Int64), .second, lv p2, .second, iv sx, iv ex, lv (x0 ^^^ fl), .second]) rfl ?_
    exact hk
  obtain ⟨ky0, hky0⟩ : ∃ z_, z_ = (x0 ^^^ fl) := ⟨_, rfl⟩
  have K17 : own_R p e below (T15.setTop (mkF m 53 #[rv ob, iv p1, lv p2, .second, iv (1 : Int32), iv (1 : Int32), lv (0 : Int64), .second, lv (0 : Int64), .second, lv p2, .second, iv sx, iv ex, lv ky0, .second] [])) S0 := by rw [hky0]; exact K16
  have K18 : own_R p e below (T15.setTop (mkF m 68 #[rv ob, iv p1, lv p2, .second, iv (1 : Int32), iv (1 : Int32), lv (0 : Int64), .second, lv (0 : Int64), .second, lv p2, .second, iv sx, iv ex, lv ky0, .second] [(.int (own_w1 ob p1 p2 (1 : Int32) (1 : Int32) (0 : Int64) (0 : Int64) p2 sx ex ky0)), (.int (1 : Int32))])) S0 := fun t hk => K17 t (own_w1_s X15 hx hby hown hZ hw ob p1 p2 (1 : Int32) (1 : Int32) (0 : Int64) (0 : Int64) p2 sx ex ky0 _ rfl hk)
  have K19 : own_R p e below (T15.setTop (mkF m 71 #[rv ob, iv p1, lv p2, .second, iv ((1 : Int32) &&& (own_w1 ob p1 p2 (1 : Int32) (1 : Int32) (0 : Int64) (0 : Int64) p2 sx ex ky0)), iv (1 : Int32), lv (0 : Int64), .second, lv (0 : Int64), .second, lv p2, .second, iv sx, iv ex, lv ky0, .second] [])) S0 := by
    intro t hk
    refine K18 t ?_
    show Steps p.tables e below (T15.setTop (mkF m 68 #[rv ob, iv p1, lv p2, .second, iv (1 : Int32), iv (1 : Int32), lv (0 : Int64), .second, lv (0 : Int64), .second, lv p2, .second, iv sx, iv ex, lv ky0, .second] [(.int (own_w1 ob p1 p2 (1 : Int32) (1 : Int32) (0 : Int64) (0 : Int64) p2 sx ex ky0)), (.int (1 : Int32))])) _
    refine XS.iand X15.here hx rfl (hb hby d20_68) rfl ?_
    refine XS.istore X15.here hx rfl (hb hby d20_69) rfl (l' := #[rv ob, iv p1, lv p2, .second, iv ((1 : Int32) &&& (own_w1 ob p1 p2 (1 : Int32) (1 : Int32) (0 : Int64) (0 : Int64) p2 sx ex ky0)), iv (1 : Int32), lv (0 : Int64), .second, lv (0 : Int64), .second, lv p2, .second, iv sx, iv ex, lv ky0, .second]) rfl ?_
    exact hk
  obtain ⟨ri0, hri0⟩ : ∃ z_, z_ = ((1 : Int32) &&& (own_w1 ob p1 p2 (1 : Int32) (1 : Int32) (0 : Int64) (0 : Int64) p2 sx ex ky0)) := ⟨_, rfl⟩
  have K20 : own_R p e below (T15.setTop (mkF m 71 #[rv ob, iv p1, lv p2, .second, iv ri0, iv (1 : Int32), lv (0 : Int64), .second, lv (0 : Int64), .second, lv p2, .second, iv sx, iv ex, lv ky0, .second] [])) S0 := by rw [hri0]; exact K19
  have K21 : own_R p e below (T15.setTop (mkF m 86 #[rv ob, iv p1, lv p2, .second, iv ri0, iv (1 : Int32), lv (0 : Int64), .second, lv (0 : Int64), .second, lv p2, .second, iv sx, iv ex, lv ky0, .second] [(.int (own_w2 ob p1 p2 ri0 (1 : Int32) (0 : Int64) (0 : Int64) p2 sx ex ky0)), (.int (1 : Int32))])) S0 := fun t hk => K20 t (own_w2_s X15 hx hby hown hZ hw ob p1 p2 ri0 (1 : Int32) (0 : Int64) (0 : Int64) p2 sx ex ky0 _ rfl hk)
  have K22 : own_R p e below (T15.setTop (mkF m 33 #[rv ob, iv p1, lv p2, .second, iv ri0, iv ((1 : Int32) &&& (own_w2 ob p1 p2 ri0 (1 : Int32) (0 : Int64) (0 : Int64) p2 sx ex ky0)), lv ((0 : Int64) ||| (ky0 - p2)), .second, lv ((0 : Int64) ||| (p2 - ky0)), .second, lv ky0, .second, iv (sx + (1 : Int32)), iv ex, lv ky0, .second] [])) S0 := by
    intro t hk
    refine K21 t ?_
    show Steps p.tables e below (T15.setTop (mkF m 86 #[rv ob, iv p1, lv p2, .second, iv ri0, iv (1 : Int32), lv (0 : Int64), .second, lv (0 : Int64), .second, lv p2, .second, iv sx, iv ex, lv ky0, .second] [(.int (own_w2 ob p1 p2 ri0 (1 : Int32) (0 : Int64) (0 : Int64) p2 sx ex ky0)), (.int (1 : Int32))])) _
    refine XS.iand X15.here hx rfl (hb hby d20_86) rfl ?_
    refine XS.istore X15.here hx rfl (hb hby d20_87) rfl (l' := #[rv ob, iv p1, lv p2, .second, iv ri0, iv ((1 : Int32) &&& (own_w2 ob p1 p2 ri0 (1 : Int32) (0 : Int64) (0 : Int64) p2 sx ex ky0)), lv (0 : Int64), .second, lv (0 : Int64), .second, lv p2, .second, iv sx, iv ex, lv ky0, .second]) rfl ?_
    refine XS.lload X15.here hx rfl (hb hby d20_89) rfl ?_
    refine XS.lload X15.here hx rfl (hb hby d20_91) rfl ?_
    refine XS.lload X15.here hx rfl (hb hby d20_93) rfl ?_
    refine XS.lsub X15.here hx rfl (hb hby d20_95) rfl ?_
    refine XS.lor X15.here hx rfl (hb hby d20_96) rfl ?_
    refine XS.lstore X15.here hx rfl (hb hby d20_97) rfl (l' := #[rv ob, iv p1, lv p2, .second, iv ri0, iv ((1 : Int32) &&& (own_w2 ob p1 p2 ri0 (1 : Int32) (0 : Int64) (0 : Int64) p2 sx ex ky0)), lv ((0 : Int64) ||| (ky0 - p2)), .second, lv (0 : Int64), .second, lv p2, .second, iv sx, iv ex, lv ky0, .second]) rfl ?_
    refine XS.lload X15.here hx rfl (hb hby d20_99) rfl ?_
    refine XS.lload X15.here hx rfl (hb hby d20_101) rfl ?_
    refine XS.lload X15.here hx rfl (hb hby d20_103) rfl ?_
    refine XS.lsub X15.here hx rfl (hb hby d20_105) rfl ?_
    refine XS.lor X15.here hx rfl (hb hby d20_106) rfl ?_
    refine XS.lstore X15.here hx rfl (hb hby d20_107) rfl (l' := #[rv ob, iv p1, lv p2, .second, iv ri0, iv ((1 : Int32) &&& (own_w2 ob p1 p2 ri0 (1 : Int32) (0 : Int64) (0 : Int64) p2 sx ex ky0)), lv ((0 : Int64) ||| (ky0 - p2)), .second, lv ((0 : Int64) ||| (p2 - ky0)), .second, lv p2, .second, iv sx, iv ex, lv ky0, .second]) rfl ?_
    refine XS.lload X15.here hx rfl (hb hby d20_109) rfl ?_
    refine XS.lstore X15.here hx rfl (hb hby d20_111) rfl (l' := #[rv ob, iv p1, lv p2, .second, iv ri0, iv ((1 : Int32) &&& (own_w2 ob p1 p2 ri0 (1 : Int32) (0 : Int64) (0 : Int64) p2 sx ex ky0)), lv ((0 : Int64) ||| (ky0 - p2)), .second, lv ((0 : Int64) ||| (p2 - ky0)), .second, lv ky0, .second, iv sx, iv ex, lv ky0, .second]) rfl ?_
    refine XS.iinc X15.here hx rfl (hb hby d20_113) rfl (l' := #[rv ob, iv p1, lv p2, .second, iv ri0, iv ((1 : Int32) &&& (own_w2 ob p1 p2 ri0 (1 : Int32) (0 : Int64) (0 : Int64) p2 sx ex ky0)), lv ((0 : Int64) ||| (ky0 - p2)), .second, lv ((0 : Int64) ||| (p2 - ky0)), .second, lv ky0, .second, iv (sx + (1 : Int32)), iv ex, lv ky0, .second]) rfl ?_
    refine XS.goto X15.here hx rfl (pc0 := 116) (pc' := 33) rfl (hb hby d20_116) (by decide) (by decide) ?_
    exact hk
  obtain ⟨fa0, hfa0⟩ : ∃ z_, z_ = ((1 : Int32) &&& (own_w2 ob p1 p2 ri0 (1 : Int32) (0 : Int64) (0 : Int64) p2 sx ex ky0)) := ⟨_, rfl⟩
  have K23 : own_R p e below (T15.setTop (mkF m 33 #[rv ob, iv p1, lv p2, .second, iv ri0, iv fa0, lv ((0 : Int64) ||| (ky0 - p2)), .second, lv ((0 : Int64) ||| (p2 - ky0)), .second, lv ky0, .second, iv (sx + (1 : Int32)), iv ex, lv ky0, .second] [])) S0 := by rw [hfa0]; exact K22
  obtain ⟨up0, hup0⟩ : ∃ z_, z_ = ((0 : Int64) ||| (ky0 - p2)) := ⟨_, rfl⟩
  have K24 : own_R p e below (T15.setTop (mkF m 33 #[rv ob, iv p1, lv p2, .second, iv ri0, iv fa0, lv up0, .second, lv ((0 : Int64) ||| (p2 - ky0)), .second, lv ky0, .second, iv (sx + (1 : Int32)), iv ex, lv ky0, .second] [])) S0 := by rw [hup0]; exact K23
  obtain ⟨dn0, hdn0⟩ : ∃ z_, z_ = ((0 : Int64) ||| (p2 - ky0)) := ⟨_, rfl⟩
  have K25 : own_R p e below (T15.setTop (mkF m 33 #[rv ob, iv p1, lv p2, .second, iv ri0, iv fa0, lv up0, .second, lv dn0, .second, lv ky0, .second, iv (sx + (1 : Int32)), iv ex, lv ky0, .second] [])) S0 := by rw [hdn0]; exact K24
  have K26 : own_R p e below (T15.setTop (mkF m 37 #[rv ob, iv p1, lv p2, .second, iv ri0, iv fa0, lv up0, .second, lv dn0, .second, lv ky0, .second, iv (sx + (1 : Int32)), iv ex, lv ky0, .second] [(.int ex), (.int (sx + (1 : Int32)))])) S0 := by
    intro t hk
    refine K25 t ?_
    show Steps p.tables e below (T15.setTop (mkF m 33 #[rv ob, iv p1, lv p2, .second, iv ri0, iv fa0, lv up0, .second, lv dn0, .second, lv ky0, .second, iv (sx + (1 : Int32)), iv ex, lv ky0, .second] [])) _
    refine XS.iload X15.here hx rfl (hb hby d20_33) rfl ?_
    refine XS.iload X15.here hx rfl (hb hby d20_35) rfl ?_
    exact hk
  have hc37 : (sx + (1 : Int32)) < ex := l1
  have K27 : own_R p e below (T15.setTop (mkF m 40 #[rv ob, iv p1, lv p2, .second, iv ri0, iv fa0, lv up0, .second, lv dn0, .second, lv ky0, .second, iv (sx + (1 : Int32)), iv ex, lv ky0, .second] [])) S0 := by
    intro t hk
    refine K26 t ?_
    show Steps p.tables e below (T15.setTop (mkF m 37 #[rv ob, iv p1, lv p2, .second, iv ri0, iv fa0, lv up0, .second, lv dn0, .second, lv ky0, .second, iv (sx + (1 : Int32)), iv ex, lv ky0, .second] [(.int ex), (.int (sx + (1 : Int32)))])) _
    refine XS.icmpNo X15.here hx rfl (hb hby d20_37) rfl (tlt hc37).2.1 ?_
    exact hk
  have K28 : own_R p e below (T15.setTop (mkF m 42 #[rv ob, iv p1, lv p2, .second, iv ri0, iv fa0, lv up0, .second, lv dn0, .second, lv ky0, .second, iv (sx + (1 : Int32)), iv ex, lv ky0, .second] [(.ref ob), (.ref ob)])) S0 := by
    intro t hk
    refine K27 t ?_
    show Steps p.tables e below (T15.setTop (mkF m 40 #[rv ob, iv p1, lv p2, .second, iv ri0, iv fa0, lv up0, .second, lv dn0, .second, lv ky0, .second, iv (sx + (1 : Int32)), iv ex, lv ky0, .second] [])) _
    refine XS.aloadN X15.here hx rfl (hb hby d20_40) rfl rfl ?_
    refine XS.aloadN X15.here hx rfl (hb hby d20_41) rfl rfl ?_
    exact hk
  obtain ⟨T29, X29, e29, st29⟩ := getF X15 hx hZ hown (host := "") (Or.inl (hw _ (List.mem_of_getElem? (i := 66) rfl))) Via.refl e15 (own_pF_values hG) (g := (mkF m 42 #[rv ob, iv p1, lv p2, .second, iv ri0, iv fa0, lv up0, .second, lv dn0, .second, lv ky0, .second, iv (sx + (1 : Int32)), iv ex, lv ky0, .second] [(.ref ob), (.ref ob)])) rfl rfl (hb hby d20_42)
  have K29 : own_R p e below (T29.setTop (mkF m 45 #[rv ob, iv p1, lv p2, .second, iv ri0, iv fa0, lv up0, .second, lv dn0, .second, lv ky0, .second, iv (sx + (1 : Int32)), iv ex, lv ky0, .second] [(.ref va), (.ref ob)])) S0 := fun t hk => K28 t (st29 _ hk)
  have K30 : own_R p e below (T29.setTop (mkF m 47 #[rv ob, iv p1, lv p2, .second, iv ri0, iv fa0, lv up0, .second, lv dn0, .second, lv ky0, .second, iv (sx + (1 : Int32)), iv ex, lv ky0, .second] [(.int (sx + (1 : Int32))), (.ref va), (.ref ob)])) S0 := by
    intro t hk
    refine K29 t ?_
    show Steps p.tables e below (T29.setTop (mkF m 45 #[rv ob, iv p1, lv p2, .second, iv ri0, iv fa0, lv up0, .second, lv dn0, .second, lv ky0, .second, iv (sx + (1 : Int32)), iv ex, lv ky0, .second] [(.ref va), (.ref ob)])) _
    refine XS.iload X29.here hx rfl (hb hby d20_45) rfl ?_
    exact hk
  obtain ⟨x1, hv_x1, st31⟩ := own_ldJ X29 hx hZ e29 (own_pV_va hG) (j := (sx + (1 : Int32))) (own_b _ _ (by rw [own_six]; omega)) (g := (mkF m 47 #[rv ob, iv p1, lv p2, .second, iv ri0, iv fa0, lv up0, .second, lv dn0, .second, lv ky0, .second, iv (sx + (1 : Int32)), iv ex, lv ky0, .second] [(.int (sx + (1 : Int32))), (.ref va), (.ref ob)])) rfl rfl (hb hby d20_47)
  have K31 : own_R p e below (T29.setTop (mkF m 48 #[rv ob, iv p1, lv p2, .second, iv ri0, iv fa0, lv up0, .second, lv dn0, .second, lv ky0, .second, iv (sx + (1 : Int32)), iv ex, lv ky0, .second] [(.long x1), (.ref ob)])) S0 := fun t hk => K30 t (st31 _ hk)
  obtain ⟨cq32, kq32, q32a, q32b, q32c⟩ := isOf hZ e29 (own_pE hG)
  obtain ⟨_, _, ⟨T32, L32, k32, n32⟩, -, X32, ⟨Lc32, hQ32, l32, y32, z32⟩, st32⟩ := X29.virtualBack hx (y := (⟨"com/example/bitrun/bitrun/orc/intv2/Segments", "key", "(J)J"⟩ : MethodName)) (z := (⟨"com/example/bitrun/bitrun/orc/intv2/Segments", "key", "(J)J"⟩ : MethodName)) hown (mvT hZ (hw _ (List.mem_of_getElem? (i := 85) rfl))) (mvT hZ (hw _ (List.mem_of_getElem? (i := 86) rfl))) (notFace_of_selects (args := #[]) (mvT hZ (hw _ (List.mem_of_getElem? (i := 88) rfl)))) (mvT hZ (hw _ (List.mem_of_getElem? (i := 88) rfl))) (mvT hZ (hw _ (List.mem_of_getElem? (i := 87) rfl))) (by decide) (backOf (W := 0) (rm14 l Z a0 hw [] ob x1 va vb vl vh vf vg vs kv kb kl kh kf kg ks fl nn nb VV cn VB VL VH VF VG VS h0 n0 Z0 hO hG) hZ (hw _ (List.mem_of_getElem? (i := 89) rfl)) (hw _ (List.mem_of_getElem? (i := 4) rfl)) (by decide) (by decide)) q32a q32c (g := (mkF m 48 #[rv ob, iv p1, lv p2, .second, iv ri0, iv fa0, lv up0, .second, lv dn0, .second, lv ky0, .second, iv (sx + (1 : Int32)), iv ex, lv ky0, .second] [(.long x1), (.ref ob)])) rfl (by rw [hml]; rfl) (Steps.refl _) (argsL := [(.long x1)]) (rest := []) (lenOf (by decide +kernel : parseMethodDescriptor "(J)J" = some ⟨[.long], (some .long)⟩) rfl) rfl (by show 2 * 0 + _ ≤ _; exact Nat.le_of_eq rfl) (hb hby d20_48) (fun _ _ => ⟨rfl, e29, (by decide : 0 + 0 + 0 ≤ _), (by decide : 0 + 0 + 0 ≤ _)⟩)
  dsimp only [Pt.U, Pt.locs, Pt.cells, Pt.slots] at X32 l32 y32 z32 st32 hQ32
  replace y32 := y32.symm; replace z32 := z32.symm; subst l32 y32 z32
  obtain ⟨rfl, Nq32, e32⟩ := hQ32
  have N32 := Fr.app N15 Nq32
  have K32 : own_R p e below (T32.setTop (mkF m 51 #[rv ob, iv p1, lv p2, .second, iv ri0, iv fa0, lv up0, .second, lv dn0, .second, lv ky0, .second, iv (sx + (1 : Int32)), iv ex, lv ky0, .second] [(.long (x1 ^^^ fl))])) S0 := fun t hk => K31 t (st32.trans hk)
  have K33 : own_R p e below (T32.setTop (mkF m 53 #[rv ob, iv p1, lv p2, .second, iv ri0, iv fa0, lv up0, .second, lv dn0, .second, lv ky0, .second, iv (sx + (1 : Int32)), iv ex, lv (x1 ^^^ fl), .second] [])) S0 := by
    intro t hk
    refine K32 t ?_
    show Steps p.tables e below (T32.setTop (mkF m 51 #[rv ob, iv p1, lv p2, .second, iv ri0, iv fa0, lv up0, .second, lv dn0, .second, lv ky0, .second, iv (sx + (1 : Int32)), iv ex, lv ky0, .second] [(.long (x1 ^^^ fl))])) _
    refine XS.lstore X32.here hx rfl (hb hby d20_51) rfl (l' := #[rv ob, iv p1, lv p2, .second, iv ri0, iv fa0, lv up0, .second, lv dn0, .second, lv ky0, .second, iv (sx + (1 : Int32)), iv ex, lv (x1 ^^^ fl), .second]) rfl ?_
    exact hk
  obtain ⟨ky1, hky1⟩ : ∃ z_, z_ = (x1 ^^^ fl) := ⟨_, rfl⟩
  have K34 : own_R p e below (T32.setTop (mkF m 53 #[rv ob, iv p1, lv p2, .second, iv ri0, iv fa0, lv up0, .second, lv dn0, .second, lv ky0, .second, iv (sx + (1 : Int32)), iv ex, lv ky1, .second] [])) S0 := by rw [hky1]; exact K33
  have K35 : own_R p e below (T32.setTop (mkF m 68 #[rv ob, iv p1, lv p2, .second, iv ri0, iv fa0, lv up0, .second, lv dn0, .second, lv ky0, .second, iv (sx + (1 : Int32)), iv ex, lv ky1, .second] [(.int (own_w1 ob p1 p2 ri0 fa0 up0 dn0 ky0 (sx + (1 : Int32)) ex ky1)), (.int ri0)])) S0 := fun t hk => K34 t (own_w1_s X32 hx hby hown hZ hw ob p1 p2 ri0 fa0 up0 dn0 ky0 (sx + (1 : Int32)) ex ky1 _ rfl hk)
  have K36 : own_R p e below (T32.setTop (mkF m 71 #[rv ob, iv p1, lv p2, .second, iv (ri0 &&& (own_w1 ob p1 p2 ri0 fa0 up0 dn0 ky0 (sx + (1 : Int32)) ex ky1)), iv fa0, lv up0, .second, lv dn0, .second, lv ky0, .second, iv (sx + (1 : Int32)), iv ex, lv ky1, .second] [])) S0 := by
    intro t hk
    refine K35 t ?_
    show Steps p.tables e below (T32.setTop (mkF m 68 #[rv ob, iv p1, lv p2, .second, iv ri0, iv fa0, lv up0, .second, lv dn0, .second, lv ky0, .second, iv (sx + (1 : Int32)), iv ex, lv ky1, .second] [(.int (own_w1 ob p1 p2 ri0 fa0 up0 dn0 ky0 (sx + (1 : Int32)) ex ky1)), (.int ri0)])) _
    refine XS.iand X32.here hx rfl (hb hby d20_68) rfl ?_
    refine XS.istore X32.here hx rfl (hb hby d20_69) rfl (l' := #[rv ob, iv p1, lv p2, .second, iv (ri0 &&& (own_w1 ob p1 p2 ri0 fa0 up0 dn0 ky0 (sx + (1 : Int32)) ex ky1)), iv fa0, lv up0, .second, lv dn0, .second, lv ky0, .second, iv (sx + (1 : Int32)), iv ex, lv ky1, .second]) rfl ?_
    exact hk
  obtain ⟨ri1, hri1⟩ : ∃ z_, z_ = (ri0 &&& (own_w1 ob p1 p2 ri0 fa0 up0 dn0 ky0 (sx + (1 : Int32)) ex ky1)) := ⟨_, rfl⟩
  have K37 : own_R p e below (T32.setTop (mkF m 71 #[rv ob, iv p1, lv p2, .second, iv ri1, iv fa0, lv up0, .second, lv dn0, .second, lv ky0, .second, iv (sx + (1 : Int32)), iv ex, lv ky1, .second] [])) S0 := by rw [hri1]; exact K36
  have K38 : own_R p e below (T32.setTop (mkF m 86 #[rv ob, iv p1, lv p2, .second, iv ri1, iv fa0, lv up0, .second, lv dn0, .second, lv ky0, .second, iv (sx + (1 : Int32)), iv ex, lv ky1, .second] [(.int (own_w2 ob p1 p2 ri1 fa0 up0 dn0 ky0 (sx + (1 : Int32)) ex ky1)), (.int fa0)])) S0 := fun t hk => K37 t (own_w2_s X32 hx hby hown hZ hw ob p1 p2 ri1 fa0 up0 dn0 ky0 (sx + (1 : Int32)) ex ky1 _ rfl hk)
  have K39 : own_R p e below (T32.setTop (mkF m 33 #[rv ob, iv p1, lv p2, .second, iv ri1, iv (fa0 &&& (own_w2 ob p1 p2 ri1 fa0 up0 dn0 ky0 (sx + (1 : Int32)) ex ky1)), lv (up0 ||| (ky1 - ky0)), .second, lv (dn0 ||| (ky0 - ky1)), .second, lv ky1, .second, iv ((sx + (1 : Int32)) + (1 : Int32)), iv ex, lv ky1, .second] [])) S0 := by
    intro t hk
    refine K38 t ?_
    show Steps p.tables e below (T32.setTop (mkF m 86 #[rv ob, iv p1, lv p2, .second, iv ri1, iv fa0, lv up0, .second, lv dn0, .second, lv ky0, .second, iv (sx + (1 : Int32)), iv ex, lv ky1, .second] [(.int (own_w2 ob p1 p2 ri1 fa0 up0 dn0 ky0 (sx + (1 : Int32)) ex ky1)), (.int fa0)])) _
    refine XS.iand X32.here hx rfl (hb hby d20_86) rfl ?_
    refine XS.istore X32.here hx rfl (hb hby d20_87) rfl (l' := #[rv ob, iv p1, lv p2, .second, iv ri1, iv (fa0 &&& (own_w2 ob p1 p2 ri1 fa0 up0 dn0 ky0 (sx + (1 : Int32)) ex ky1)), lv up0, .second, lv dn0, .second, lv ky0, .second, iv (sx + (1 : Int32)), iv ex, lv ky1, .second]) rfl ?_
    refine XS.lload X32.here hx rfl (hb hby d20_89) rfl ?_
    refine XS.lload X32.here hx rfl (hb hby d20_91) rfl ?_
    refine XS.lload X32.here hx rfl (hb hby d20_93) rfl ?_
    refine XS.lsub X32.here hx rfl (hb hby d20_95) rfl ?_
    refine XS.lor X32.here hx rfl (hb hby d20_96) rfl ?_
    refine XS.lstore X32.here hx rfl (hb hby d20_97) rfl (l' := #[rv ob, iv p1, lv p2, .second, iv ri1, iv (fa0 &&& (own_w2 ob p1 p2 ri1 fa0 up0 dn0 ky0 (sx + (1 : Int32)) ex ky1)), lv (up0 ||| (ky1 - ky0)), .second, lv dn0, .second, lv ky0, .second, iv (sx + (1 : Int32)), iv ex, lv ky1, .second]) rfl ?_
    refine XS.lload X32.here hx rfl (hb hby d20_99) rfl ?_
    refine XS.lload X32.here hx rfl (hb hby d20_101) rfl ?_
    refine XS.lload X32.here hx rfl (hb hby d20_103) rfl ?_
    refine XS.lsub X32.here hx rfl (hb hby d20_105) rfl ?_
    refine XS.lor X32.here hx rfl (hb hby d20_106) rfl ?_
    refine XS.lstore X32.here hx rfl (hb hby d20_107) rfl (l' := #[rv ob, iv p1, lv p2, .second, iv ri1, iv (fa0 &&& (own_w2 ob p1 p2 ri1 fa0 up0 dn0 ky0 (sx + (1 : Int32)) ex ky1)), lv (up0 ||| (ky1 - ky0)), .second, lv (dn0 ||| (ky0 - ky1)), .second, lv ky0, .second, iv (sx + (1 : Int32)), iv ex, lv ky1, .second]) rfl ?_
    refine XS.lload X32.here hx rfl (hb hby d20_109) rfl ?_
    refine XS.lstore X32.here hx rfl (hb hby d20_111) rfl (l' := #[rv ob, iv p1, lv p2, .second, iv ri1, iv (fa0 &&& (own_w2 ob p1 p2 ri1 fa0 up0 dn0 ky0 (sx + (1 : Int32)) ex ky1)), lv (up0 ||| (ky1 - ky0)), .second, lv (dn0 ||| (ky0 - ky1)), .second, lv ky1, .second, iv (sx + (1 : Int32)), iv ex, lv ky1, .second]) rfl ?_
    refine XS.iinc X32.here hx rfl (hb hby d20_113) rfl (l' := #[rv ob, iv p1, lv p2, .second, iv ri1, iv (fa0 &&& (own_w2 ob p1 p2 ri1 fa0 up0 dn0 ky0 (sx + (1 : Int32)) ex ky1)), lv (up0 ||| (ky1 - ky0)), .second, lv (dn0 ||| (ky0 - ky1)), .second, lv ky1, .second, iv ((sx + (1 : Int32)) + (1 : Int32)), iv ex, lv ky1, .second]) rfl ?_
    refine XS.goto X32.here hx rfl (pc0 := 116) (pc' := 33) rfl (hb hby d20_116) (by decide) (by decide) ?_
    exact hk
  obtain ⟨fa1, hfa1⟩ : ∃ z_, z_ = (fa0 &&& (own_w2 ob p1 p2 ri1 fa0 up0 dn0 ky0 (sx + (1 : Int32)) ex ky1)) := ⟨_, rfl⟩
  have K40 : own_R p e below (T32.setTop (mkF m 33 #[rv ob, iv p1, lv p2, .second, iv ri1, iv fa1, lv (up0 ||| (ky1 - ky0)), .second, lv (dn0 ||| (ky0 - ky1)), .second, lv ky1, .second, iv ((sx + (1 : Int32)) + (1 : Int32)), iv ex, lv ky1, .second] [])) S0 := by rw [hfa1]; exact K39
  obtain ⟨up1, hup1⟩ : ∃ z_, z_ = (up0 ||| (ky1 - ky0)) := ⟨_, rfl⟩
  have K41 : own_R p e below (T32.setTop (mkF m 33 #[rv ob, iv p1, lv p2, .second, iv ri1, iv fa1, lv up1, .second, lv (dn0 ||| (ky0 - ky1)), .second, lv ky1, .second, iv ((sx + (1 : Int32)) + (1 : Int32)), iv ex, lv ky1, .second] [])) S0 := by rw [hup1]; exact K40
  obtain ⟨dn1, hdn1⟩ : ∃ z_, z_ = (dn0 ||| (ky0 - ky1)) := ⟨_, rfl⟩
  have K42 : own_R p e below (T32.setTop (mkF m 33 #[rv ob, iv p1, lv p2, .second, iv ri1, iv fa1, lv up1, .second, lv dn1, .second, lv ky1, .second, iv ((sx + (1 : Int32)) + (1 : Int32)), iv ex, lv ky1, .second] [])) S0 := by rw [hdn1]; exact K41
  have K43 : own_R p e below (T32.setTop (mkF m 37 #[rv ob, iv p1, lv p2, .second, iv ri1, iv fa1, lv up1, .second, lv dn1, .second, lv ky1, .second, iv ((sx + (1 : Int32)) + (1 : Int32)), iv ex, lv ky1, .second] [(.int ex), (.int ((sx + (1 : Int32)) + (1 : Int32)))])) S0 := by
    intro t hk
    refine K42 t ?_
    show Steps p.tables e below (T32.setTop (mkF m 33 #[rv ob, iv p1, lv p2, .second, iv ri1, iv fa1, lv up1, .second, lv dn1, .second, lv ky1, .second, iv ((sx + (1 : Int32)) + (1 : Int32)), iv ex, lv ky1, .second] [])) _
    refine XS.iload X32.here hx rfl (hb hby d20_33) rfl ?_
    refine XS.iload X32.here hx rfl (hb hby d20_35) rfl ?_
    exact hk
  have hc37 : ¬ (((sx + (1 : Int32)) + (1 : Int32)) < ex) := l2
  have K44 : own_R p e below (T32.setTop (mkF m 119 #[rv ob, iv p1, lv p2, .second, iv ri1, iv fa1, lv up1, .second, lv dn1, .second, lv ky1, .second, iv ((sx + (1 : Int32)) + (1 : Int32)), iv ex, lv ky1, .second] [])) S0 := by
    intro t hk
    refine K43 t ?_
    show Steps p.tables e below (T32.setTop (mkF m 37 #[rv ob, iv p1, lv p2, .second, iv ri1, iv fa1, lv up1, .second, lv dn1, .second, lv ky1, .second, iv ((sx + (1 : Int32)) + (1 : Int32)), iv ex, lv ky1, .second] [(.int ex), (.int ((sx + (1 : Int32)) + (1 : Int32)))])) _
    refine XS.icmpYes X32.here hx rfl (pc0 := 37) (pc' := 119) rfl (hb hby d20_37) rfl (flt hc37).2.1 (by decide) (by decide) ?_
    exact hk
  have K45 : own_R p e below (T32.setTop (mkF m 120 #[rv ob, iv p1, lv p2, .second, iv ri1, iv fa1, lv up1, .second, lv dn1, .second, lv ky1, .second, iv ((sx + (1 : Int32)) + (1 : Int32)), iv ex, lv ky1, .second] [(.ref ob)])) S0 := by
    intro t hk
    refine K44 t ?_
    show Steps p.tables e below (T32.setTop (mkF m 119 #[rv ob, iv p1, lv p2, .second, iv ri1, iv fa1, lv up1, .second, lv dn1, .second, lv ky1, .second, iv ((sx + (1 : Int32)) + (1 : Int32)), iv ex, lv ky1, .second] [])) _
    refine XS.aloadN X32.here hx rfl (hb hby d20_119) rfl rfl ?_
    exact hk
  obtain ⟨T46, X46, e46, st46⟩ := getF X32 hx hZ hown (host := "") (Or.inl (hw _ (List.mem_of_getElem? (i := 29) rfl))) Via.refl e32 (own_pF_magnitudes hG) (g := (mkF m 120 #[rv ob, iv p1, lv p2, .second, iv ri1, iv fa1, lv up1, .second, lv dn1, .second, lv ky1, .second, iv ((sx + (1 : Int32)) + (1 : Int32)), iv ex, lv ky1, .second] [(.ref ob)])) rfl rfl (hb hby d20_120)
  have K46 : own_R p e below (T46.setTop (mkF m 123 #[rv ob, iv p1, lv p2, .second, iv ri1, iv fa1, lv up1, .second, lv dn1, .second, lv ky1, .second, iv ((sx + (1 : Int32)) + (1 : Int32)), iv ex, lv ky1, .second] [(.ref vg)])) S0 := fun t hk => K45 t (st46 _ hk)
  have K47 : own_R p e below (T46.setTop (mkF m 124 #[rv ob, iv p1, lv p2, .second, iv ri1, iv fa1, lv up1, .second, lv dn1, .second, lv ky1, .second, iv ((sx + (1 : Int32)) + (1 : Int32)), iv ex, lv ky1, .second] [(.int p1), (.ref vg)])) S0 := by
    intro t hk
    refine K46 t ?_
    show Steps p.tables e below (T46.setTop (mkF m 123 #[rv ob, iv p1, lv p2, .second, iv ri1, iv fa1, lv up1, .second, lv dn1, .second, lv ky1, .second, iv ((sx + (1 : Int32)) + (1 : Int32)), iv ex, lv ky1, .second] [(.ref vg)])) _
    refine XS.iloadN X46.here hx rfl (hb hby d20_123) rfl ?_
    exact hk
  have K48 : own_R p e below (T46.setTop (mkF m 136 #[rv ob, iv p1, lv p2, .second, iv ri1, iv fa1, lv up1, .second, lv dn1, .second, lv ky1, .second, iv ((sx + (1 : Int32)) + (1 : Int32)), iv ex, lv ky1, .second] [(.long (own_w3 ob p1 p2 ri1 fa1 up1 dn1 ky1 ((sx + (1 : Int32)) + (1 : Int32)) ex ky1 vg)), (.int p1), (.ref vg)])) S0 := fun t hk => K47 t (own_w3_s X46 hx hby hown hZ hw ob p1 p2 ri1 fa1 up1 dn1 ky1 ((sx + (1 : Int32)) + (1 : Int32)) ex ky1 vg _ rfl hk)
  obtain ⟨mg, hmg⟩ : ∃ z_, z_ = (own_w3 ob p1 p2 ri1 fa1 up1 dn1 ky1 ((sx + (1 : Int32)) + (1 : Int32)) ex ky1 vg) := ⟨_, rfl⟩
  have K49 : own_R p e below (T46.setTop (mkF m 136 #[rv ob, iv p1, lv p2, .second, iv ri1, iv fa1, lv up1, .second, lv dn1, .second, lv ky1, .second, iv ((sx + (1 : Int32)) + (1 : Int32)), iv ex, lv ky1, .second] [(.long mg), (.int p1), (.ref vg)])) S0 := by rw [hmg]; exact K48
  obtain ⟨T50, h50, X50, e50, W50, V50, st50⟩ := own_stJ X46 hx hZ e46 (own_pV_vg hG) (j := p1) _ rfl (own_b _ _ hp1) (by rw [(own_pL_vg hG)]; exact own_cl _ _ hp1) (g := (mkF m 136 #[rv ob, iv p1, lv p2, .second, iv ri1, iv fa1, lv up1, .second, lv dn1, .second, lv ky1, .second, iv ((sx + (1 : Int32)) + (1 : Int32)), iv ex, lv ky1, .second] [(.long mg), (.int p1), (.ref vg)])) rfl rfl (hb hby d20_136)
  have K50 : own_R p e below (T50.setTop (mkF m 137 #[rv ob, iv p1, lv p2, .second, iv ri1, iv fa1, lv up1, .second, lv dn1, .second, lv ky1, .second, iv ((sx + (1 : Int32)) + (1 : Int32)), iv ex, lv ky1, .second] [])) S0 := fun t hk => K49 t (st50 _ hk)
  have Kp51 := (Keep.refl h0 [ob, vb, vl, vh, vf, vg, vs]).wr W50 (Or.inl (List.mem_of_getElem? (i := 5) rfl))
  have N50 := Fr.snoc X50 N32 (by omega : n0 ≤ vg)
  have G50 := own_w_vg hG hO W50 V50 (List.length_set.trans (own_pL_vg hG))
  have K52 : own_R p e below (T50.setTop (mkF m 138 #[rv ob, iv p1, lv p2, .second, iv ri1, iv fa1, lv up1, .second, lv dn1, .second, lv ky1, .second, iv ((sx + (1 : Int32)) + (1 : Int32)), iv ex, lv ky1, .second] [(.ref ob)])) S0 := by
    intro t hk
    refine K50 t ?_
    show Steps p.tables e below (T50.setTop (mkF m 137 #[rv ob, iv p1, lv p2, .second, iv ri1, iv fa1, lv up1, .second, lv dn1, .second, lv ky1, .second, iv ((sx + (1 : Int32)) + (1 : Int32)), iv ex, lv ky1, .second] [])) _
    refine XS.aloadN X50.here hx rfl (hb hby d20_137) rfl rfl ?_
    exact hk
  obtain ⟨T53, X53, e53, st53⟩ := getF X50 hx hZ hown (host := "") (Or.inl (hw _ (List.mem_of_getElem? (i := 32) rfl))) Via.refl e50 (own_pF_steps G50) (g := (mkF m 138 #[rv ob, iv p1, lv p2, .second, iv ri1, iv fa1, lv up1, .second, lv dn1, .second, lv ky1, .second, iv ((sx + (1 : Int32)) + (1 : Int32)), iv ex, lv ky1, .second] [(.ref ob)])) rfl rfl (hb hby d20_138)
  have K53 : own_R p e below (T53.setTop (mkF m 141 #[rv ob, iv p1, lv p2, .second, iv ri1, iv fa1, lv up1, .second, lv dn1, .second, lv ky1, .second, iv ((sx + (1 : Int32)) + (1 : Int32)), iv ex, lv ky1, .second] [(.ref vs)])) S0 := fun t hk => K52 t (st53 _ hk)
  have K54 : own_R p e below (T53.setTop (mkF m 143 #[rv ob, iv p1, lv p2, .second, iv ri1, iv fa1, lv up1, .second, lv dn1, .second, lv ky1, .second, iv ((sx + (1 : Int32)) + (1 : Int32)), iv ex, lv ky1, .second] [(.ref ob), (.int p1), (.ref vs)])) S0 := by
    intro t hk
    refine K53 t ?_
    show Steps p.tables e below (T53.setTop (mkF m 141 #[rv ob, iv p1, lv p2, .second, iv ri1, iv fa1, lv up1, .second, lv dn1, .second, lv ky1, .second, iv ((sx + (1 : Int32)) + (1 : Int32)), iv ex, lv ky1, .second] [(.ref vs)])) _
    refine XS.iloadN X53.here hx rfl (hb hby d20_141) rfl ?_
    refine XS.aloadN X53.here hx rfl (hb hby d20_142) rfl rfl ?_
    exact hk
  obtain ⟨T55, X55, e55, st55⟩ := getF X53 hx hZ hown (host := "") (Or.inl (hw _ (List.mem_of_getElem? (i := 32) rfl))) Via.refl e53 (own_pF_steps G50) (g := (mkF m 143 #[rv ob, iv p1, lv p2, .second, iv ri1, iv fa1, lv up1, .second, lv dn1, .second, lv ky1, .second, iv ((sx + (1 : Int32)) + (1 : Int32)), iv ex, lv ky1, .second] [(.ref ob), (.int p1), (.ref vs)])) rfl rfl (hb hby d20_143)
  have K55 : own_R p e below (T55.setTop (mkF m 146 #[rv ob, iv p1, lv p2, .second, iv ri1, iv fa1, lv up1, .second, lv dn1, .second, lv ky1, .second, iv ((sx + (1 : Int32)) + (1 : Int32)), iv ex, lv ky1, .second] [(.ref vs), (.int p1), (.ref vs)])) S0 := fun t hk => K54 t (st55 _ hk)
  have K56 : own_R p e below (T55.setTop (mkF m 147 #[rv ob, iv p1, lv p2, .second, iv ri1, iv fa1, lv up1, .second, lv dn1, .second, lv ky1, .second, iv ((sx + (1 : Int32)) + (1 : Int32)), iv ex, lv ky1, .second] [(.int p1), (.ref vs), (.int p1), (.ref vs)])) S0 := by
    intro t hk
    refine K55 t ?_
    show Steps p.tables e below (T55.setTop (mkF m 146 #[rv ob, iv p1, lv p2, .second, iv ri1, iv fa1, lv up1, .second, lv dn1, .second, lv ky1, .second, iv ((sx + (1 : Int32)) + (1 : Int32)), iv ex, lv ky1, .second] [(.ref vs), (.int p1), (.ref vs)])) _
    refine XS.iloadN X55.here hx rfl (hb hby d20_146) rfl ?_
    exact hk
  obtain ⟨x9, hv_x9, st57⟩ := own_ldB X55 hx hZ e55 (own_pV_vs G50) (j := p1) (own_b _ _ hp1) (g := (mkF m 147 #[rv ob, iv p1, lv p2, .second, iv ri1, iv fa1, lv up1, .second, lv dn1, .second, lv ky1, .second, iv ((sx + (1 : Int32)) + (1 : Int32)), iv ex, lv ky1, .second] [(.int p1), (.ref vs), (.int p1), (.ref vs)])) rfl rfl (hb hby d20_147)
  have K57 : own_R p e below (T55.setTop (mkF m 148 #[rv ob, iv p1, lv p2, .second, iv ri1, iv fa1, lv up1, .second, lv dn1, .second, lv ky1, .second, iv ((sx + (1 : Int32)) + (1 : Int32)), iv ex, lv ky1, .second] [(.int x9), (.int p1), (.ref vs)])) S0 := fun t hk => K56 t (st57 _ hk)
  have K58 : own_R p e below (T55.setTop (mkF m 150 #[rv ob, iv p1, lv p2, .second, iv ri1, iv fa1, lv up1, .second, lv dn1, .second, lv ky1, .second, iv ((sx + (1 : Int32)) + (1 : Int32)), iv ex, lv ky1, .second] [(.int (x9 &&& (4 : Int32))), (.int p1), (.ref vs)])) S0 := by
    intro t hk
    refine K57 t ?_
    show Steps p.tables e below (T55.setTop (mkF m 148 #[rv ob, iv p1, lv p2, .second, iv ri1, iv fa1, lv up1, .second, lv dn1, .second, lv ky1, .second, iv ((sx + (1 : Int32)) + (1 : Int32)), iv ex, lv ky1, .second] [(.int x9), (.int p1), (.ref vs)])) _
    refine XS.iconst X55.here hx rfl (hb hby d20_148) ?_
    refine XS.iand X55.here hx rfl (hb hby d20_149) rfl ?_
    exact hk
  obtain ⟨b4, hb4⟩ : ∃ z_, z_ = (x9 &&& (4 : Int32)) := ⟨_, rfl⟩
  have K59 : own_R p e below (T55.setTop (mkF m 150 #[rv ob, iv p1, lv p2, .second, iv ri1, iv fa1, lv up1, .second, lv dn1, .second, lv ky1, .second, iv ((sx + (1 : Int32)) + (1 : Int32)), iv ex, lv ky1, .second] [(.int b4), (.int p1), (.ref vs)])) S0 := by rw [hb4]; exact K58
  have K60 : own_R p e below (T55.setTop (mkF m 160 #[rv ob, iv p1, lv p2, .second, iv ri1, iv fa1, lv up1, .second, lv dn1, .second, lv ky1, .second, iv ((sx + (1 : Int32)) + (1 : Int32)), iv ex, lv ky1, .second] [(.int (own_w4 ob p1 p2 ri1 fa1 up1 dn1 ky1 ((sx + (1 : Int32)) + (1 : Int32)) ex ky1 vs b4)), (.int b4), (.int p1), (.ref vs)])) S0 := fun t hk => K59 t (own_w4_s X55 hx hby hown hZ hw ob p1 p2 ri1 fa1 up1 dn1 ky1 ((sx + (1 : Int32)) + (1 : Int32)) ex ky1 vs b4 _ rfl hk)
  have K61 : own_R p e below (T55.setTop (mkF m 161 #[rv ob, iv p1, lv p2, .second, iv ri1, iv fa1, lv up1, .second, lv dn1, .second, lv ky1, .second, iv ((sx + (1 : Int32)) + (1 : Int32)), iv ex, lv ky1, .second] [(.int (b4 ||| (own_w4 ob p1 p2 ri1 fa1 up1 dn1 ky1 ((sx + (1 : Int32)) + (1 : Int32)) ex ky1 vs b4))), (.int p1), (.ref vs)])) S0 := by
    intro t hk
    refine K60 t ?_
    show Steps p.tables e below (T55.setTop (mkF m 160 #[rv ob, iv p1, lv p2, .second, iv ri1, iv fa1, lv up1, .second, lv dn1, .second, lv ky1, .second, iv ((sx + (1 : Int32)) + (1 : Int32)), iv ex, lv ky1, .second] [(.int (own_w4 ob p1 p2 ri1 fa1 up1 dn1 ky1 ((sx + (1 : Int32)) + (1 : Int32)) ex ky1 vs b4)), (.int b4), (.int p1), (.ref vs)])) _
    refine XS.ior X55.here hx rfl (hb hby d20_160) rfl ?_
    exact hk
  obtain ⟨b5, hb5⟩ : ∃ z_, z_ = (b4 ||| (own_w4 ob p1 p2 ri1 fa1 up1 dn1 ky1 ((sx + (1 : Int32)) + (1 : Int32)) ex ky1 vs b4)) := ⟨_, rfl⟩
  have K62 : own_R p e below (T55.setTop (mkF m 161 #[rv ob, iv p1, lv p2, .second, iv ri1, iv fa1, lv up1, .second, lv dn1, .second, lv ky1, .second, iv ((sx + (1 : Int32)) + (1 : Int32)), iv ex, lv ky1, .second] [(.int b5), (.int p1), (.ref vs)])) S0 := by rw [hb5]; exact K61
  have K63 : own_R p e below (T55.setTop (mkF m 171 #[rv ob, iv p1, lv p2, .second, iv ri1, iv fa1, lv up1, .second, lv dn1, .second, lv ky1, .second, iv ((sx + (1 : Int32)) + (1 : Int32)), iv ex, lv ky1, .second] [(.int (own_w5 ob p1 p2 ri1 fa1 up1 dn1 ky1 ((sx + (1 : Int32)) + (1 : Int32)) ex ky1 vs b5)), (.int b5), (.int p1), (.ref vs)])) S0 := fun t hk => K62 t (own_w5_s X55 hx hby hown hZ hw ob p1 p2 ri1 fa1 up1 dn1 ky1 ((sx + (1 : Int32)) + (1 : Int32)) ex ky1 vs b5 _ rfl hk)
  have K64 : own_R p e below (T55.setTop (mkF m 173 #[rv ob, iv p1, lv p2, .second, iv ri1, iv fa1, lv up1, .second, lv dn1, .second, lv ky1, .second, iv ((sx + (1 : Int32)) + (1 : Int32)), iv ex, lv ky1, .second] [(.int ((b5 ||| (own_w5 ob p1 p2 ri1 fa1 up1 dn1 ky1 ((sx + (1 : Int32)) + (1 : Int32)) ex ky1 vs b5)).toInt8.toInt32)), (.int p1), (.ref vs)])) S0 := by
    intro t hk
    refine K63 t ?_
    show Steps p.tables e below (T55.setTop (mkF m 171 #[rv ob, iv p1, lv p2, .second, iv ri1, iv fa1, lv up1, .second, lv dn1, .second, lv ky1, .second, iv ((sx + (1 : Int32)) + (1 : Int32)), iv ex, lv ky1, .second] [(.int (own_w5 ob p1 p2 ri1 fa1 up1 dn1 ky1 ((sx + (1 : Int32)) + (1 : Int32)) ex ky1 vs b5)), (.int b5), (.int p1), (.ref vs)])) _
    refine XS.ior X55.here hx rfl (hb hby d20_171) rfl ?_
    refine XS.i2b X55.here hx rfl (hb hby d20_172) rfl ?_
    exact hk
  obtain ⟨b6, hb6⟩ : ∃ z_, z_ = ((b5 ||| (own_w5 ob p1 p2 ri1 fa1 up1 dn1 ky1 ((sx + (1 : Int32)) + (1 : Int32)) ex ky1 vs b5)).toInt8.toInt32) := ⟨_, rfl⟩
  have K65 : own_R p e below (T55.setTop (mkF m 173 #[rv ob, iv p1, lv p2, .second, iv ri1, iv fa1, lv up1, .second, lv dn1, .second, lv ky1, .second, iv ((sx + (1 : Int32)) + (1 : Int32)), iv ex, lv ky1, .second] [(.int b6), (.int p1), (.ref vs)])) S0 := by rw [hb6]; exact K64
  obtain ⟨T66, h66, X66, e66, W66, V66, st66⟩ := own_stB X55 hx hZ e55 (own_pV_vs G50) (j := p1) _ rfl (own_b _ _ hp1) (by rw [(own_pL_vs G50)]; exact own_cl _ _ hp1) (g := (mkF m 173 #[rv ob, iv p1, lv p2, .second, iv ri1, iv fa1, lv up1, .second, lv dn1, .second, lv ky1, .second, iv ((sx + (1 : Int32)) + (1 : Int32)), iv ex, lv ky1, .second] [(.int b6), (.int p1), (.ref vs)])) rfl rfl (hb hby d20_173)
  have K66 : own_R p e below (T66.setTop (mkF m 174 #[rv ob, iv p1, lv p2, .second, iv ri1, iv fa1, lv up1, .second, lv dn1, .second, lv ky1, .second, iv ((sx + (1 : Int32)) + (1 : Int32)), iv ex, lv ky1, .second] [])) S0 := fun t hk => K65 t (st66 _ hk)
  have Kp67 := Kp51.wr W66 (Or.inl (List.mem_of_getElem? (i := 6) rfl))
  have N66 := Fr.snoc X66 N50 (by omega : n0 ≤ vs)
  have G66 := own_w_vs G50 hO W66 V66 (List.length_set.trans (own_pL_vs G50))
  have KP : Keep h0 T66.heap [ob, vb, vl, vh, vf, vg, vs] := by rw [e66]; exact Kp67
  have GG : ∃ x y, own_G Z T66.heap ob va vb vl vh vf vg vs kv kb kl kh kf kg ks fl nn nb VV (.ref va) cn VB VL VH VF (VG.set p1.toNatClampNeg (.long x)) (VS.set p1.toNatClampNeg (.int y)) := by rw [e66]; exact ⟨_, _, G66⟩
  obtain ⟨fs, hr, hrun, hended, hW, hsame⟩ := X66.leave (v := none) (fun _ => rfl) Bd.notSynchronized
  exact ⟨_, _, K66 _ (X66.returnOut hx Bd.returns (hb hby d20_174) hr), hrun, hended, _, _, rfl, ⟨rfl, N66, KP, GG⟩, ⟨_, rfl⟩, hW, hsame.mono (by decide) (by decide)⟩
theorem d17_0 : decode prog_74_method_13_code 0 = .ok (.aload_n 0, 1) := by decide +kernel
theorem d17_1 : decode prog_74_method_13_code 1 = .ok (.invokevirtual 91, 3) := by decide +kernel
theorem d17_4 : decode prog_74_method_13_code 4 = .ok (.istore 12, 2) := by decide +kernel
theorem d17_6 : decode prog_74_method_13_code 6 = .ok (.aload_n 0, 1) := by decide +kernel
theorem d17_7 : decode prog_74_method_13_code 7 = .ok (.aload_n 0, 1) := by decide +kernel
theorem d17_8 : decode prog_74_method_13_code 8 = .ok (.getfield 59, 3) := by decide +kernel
theorem d17_11 : decode prog_74_method_13_code 11 = .ok (.aload_n 0, 1) := by decide +kernel
theorem d17_12 : decode prog_74_method_13_code 12 = .ok (.getfield 27, 3) := by decide +kernel
theorem d17_15 : decode prog_74_method_13_code 15 = .ok (.iload 12, 2) := by decide +kernel
theorem d17_17 : decode prog_74_method_13_code 17 = .ok (.iaload, 1) := by decide +kernel
theorem d17_18 : decode prog_74_method_13_code 18 = .ok (.laload, 1) := by decide +kernel
theorem d17_19 : decode prog_74_method_13_code 19 = .ok (.invokevirtual 87, 3) := by decide +kernel
theorem d17_22 : decode prog_74_method_13_code 22 = .ok (.lload_n 2, 1) := by decide +kernel
theorem d17_23 : decode prog_74_method_13_code 23 = .ok (.lsub, 1) := by decide +kernel
theorem d17_24 : decode prog_74_method_13_code 24 = .ok (.lstore 13, 2) := by decide +kernel
theorem d17_26 : decode prog_74_method_13_code 26 = .ok (.lload 8, 2) := by decide +kernel
theorem d17_28 : decode prog_74_method_13_code 28 = .ok (.lconst 0, 1) := by decide +kernel
theorem d17_29 : decode prog_74_method_13_code 29 = .ok (.lcmp, 1) := by decide +kernel
theorem d17_30 : decode prog_74_method_13_code 30 = .ok (.ifCond .lt 7, 3) := by decide +kernel
theorem d17_33 : decode prog_74_method_13_code 33 = .ok (.iconst 1, 1) := by decide +kernel
theorem d17_34 : decode prog_74_method_13_code 34 = .ok (.goto 4, 3) := by decide +kernel
theorem d17_37 : decode prog_74_method_13_code 37 = .ok (.iconst 0, 1) := by decide +kernel
theorem d17_38 : decode prog_74_method_13_code 38 = .ok (.lload 10, 2) := by decide +kernel
theorem d17_40 : decode prog_74_method_13_code 40 = .ok (.lconst 0, 1) := by decide +kernel
theorem d17_41 : decode prog_74_method_13_code 41 = .ok (.lcmp, 1) := by decide +kernel
theorem d17_42 : decode prog_74_method_13_code 42 = .ok (.ifCond .gt 7, 3) := by decide +kernel
theorem d17_45 : decode prog_74_method_13_code 45 = .ok (.iconst 2, 1) := by decide +kernel
theorem d17_46 : decode prog_74_method_13_code 46 = .ok (.goto 4, 3) := by decide +kernel
theorem d17_49 : decode prog_74_method_13_code 49 = .ok (.iconst 0, 1) := by decide +kernel
theorem d17_50 : decode prog_74_method_13_code 50 = .ok (.ior, 1) := by decide +kernel
theorem d17_51 : decode prog_74_method_13_code 51 = .ok (.istore 15, 2) := by decide +kernel
theorem d17_53 : decode prog_74_method_13_code 53 = .ok (.iload 15, 2) := by decide +kernel
theorem d17_55 : decode prog_74_method_13_code 55 = .ok (.iconst 1, 1) := by decide +kernel
theorem d17_56 : decode prog_74_method_13_code 56 = .ok (.iand, 1) := by decide +kernel
theorem d17_57 : decode prog_74_method_13_code 57 = .ok (.ifCond .eq 8, 3) := by decide +kernel
theorem d17_60 : decode prog_74_method_13_code 60 = .ok (.lload 10, 2) := by decide +kernel
theorem d17_62 : decode prog_74_method_13_code 62 = .ok (.goto 6, 3) := by decide +kernel
theorem d17_65 : decode prog_74_method_13_code 65 = .ok (.lload 8, 2) := by decide +kernel
theorem d17_67 : decode prog_74_method_13_code 67 = .ok (.lneg, 1) := by decide +kernel
theorem d17_68 : decode prog_74_method_13_code 68 = .ok (.lstore 16, 2) := by decide +kernel
theorem d17_70 : decode prog_74_method_13_code 70 = .ok (.lload 8, 2) := by decide +kernel
theorem d17_72 : decode prog_74_method_13_code 72 = .ok (.lload 13, 2) := by decide +kernel
theorem d17_74 : decode prog_74_method_13_code 74 = .ok (.lcmp, 1) := by decide +kernel
theorem d17_75 : decode prog_74_method_13_code 75 = .ok (.ifCond .ne 15, 3) := by decide +kernel
theorem d17_78 : decode prog_74_method_13_code 78 = .ok (.lload 10, 2) := by decide +kernel
theorem d17_80 : decode prog_74_method_13_code 80 = .ok (.lload 13, 2) := by decide +kernel
theorem d17_82 : decode prog_74_method_13_code 82 = .ok (.lcmp, 1) := by decide +kernel
theorem d17_83 : decode prog_74_method_13_code 83 = .ok (.ifCond .ne 7, 3) := by decide +kernel
theorem d17_86 : decode prog_74_method_13_code 86 = .ok (.iconst 4, 1) := by decide +kernel
theorem d17_87 : decode prog_74_method_13_code 87 = .ok (.goto 4, 3) := by decide +kernel
theorem d17_90 : decode prog_74_method_13_code 90 = .ok (.iconst 0, 1) := by decide +kernel
theorem d17_91 : decode prog_74_method_13_code 91 = .ok (.istore 18, 2) := by decide +kernel
theorem d17_93 : decode prog_74_method_13_code 93 = .ok (.aload_n 0, 1) := by decide +kernel
theorem d17_94 : decode prog_74_method_13_code 94 = .ok (.iload 12, 2) := by decide +kernel
theorem d17_96 : decode prog_74_method_13_code 96 = .ok (.iload_n 1, 1) := by decide +kernel
theorem d17_97 : decode prog_74_method_13_code 97 = .ok (.lload 4, 2) := by decide +kernel
theorem d17_99 : decode prog_74_method_13_code 99 = .ok (.lload 6, 2) := by decide +kernel
theorem d17_101 : decode prog_74_method_13_code 101 = .ok (.lload 13, 2) := by decide +kernel
theorem d17_103 : decode prog_74_method_13_code 103 = .ok (.lload 16, 2) := by decide +kernel
theorem d17_105 : decode prog_74_method_13_code 105 = .ok (.iload 15, 2) := by decide +kernel
theorem d17_107 : decode prog_74_method_13_code 107 = .ok (.iload 18, 2) := by decide +kernel
theorem d17_109 : decode prog_74_method_13_code 109 = .ok (.ior, 1) := by decide +kernel
theorem d17_110 : decode prog_74_method_13_code 110 = .ok (.invokevirtual 95, 3) := by decide +kernel
theorem d17_113 : decode prog_74_method_13_code 113 = .ok (.lload 6, 2) := by decide +kernel
theorem d17_115 : decode prog_74_method_13_code 115 = .ok (.lload_n 2, 1) := by decide +kernel
theorem d17_116 : decode prog_74_method_13_code 116 = .ok (.invokestatic 80, 3) := by decide +kernel
theorem d17_119 : decode prog_74_method_13_code 119 = .ok (.lload 4, 2) := by decide +kernel
theorem d17_121 : decode prog_74_method_13_code 121 = .ok (.lload_n 2, 1) := by decide +kernel
theorem d17_122 : decode prog_74_method_13_code 122 = .ok (.invokestatic 74, 3) := by decide +kernel
theorem d17_125 : decode prog_74_method_13_code 125 = .ok (.lsub, 1) := by decide +kernel
theorem d17_126 : decode prog_74_method_13_code 126 = .ok (.lconst 0, 1) := by decide +kernel
theorem d17_127 : decode prog_74_method_13_code 127 = .ok (.lcmp, 1) := by decide +kernel
theorem d17_128 : decode prog_74_method_13_code 128 = .ok (.ifCond .ge 10, 3) := by decide +kernel
theorem d17_131 : decode prog_74_method_13_code 131 = .ok (.aload_n 0, 1) := by decide +kernel
theorem d17_132 : decode prog_74_method_13_code 132 = .ok (.iload 12, 2) := by decide +kernel
theorem d17_134 : decode prog_74_method_13_code 134 = .ok (.lload_n 2, 1) := by decide +kernel
theorem d17_135 : decode prog_74_method_13_code 135 = .ok (.invokevirtual 99, 3) := by decide +kernel
theorem d17_138 : decode prog_74_method_13_code 138 = .ok (.return_, 1) := by decide +kernel
def own_t1 (ob : Addr) (p1 : Int32) (p2 : Int64) (p3 : Int64) (p4 : Int64) (p5 : Int64) (p6 : Int64) (jj : Int32) (fs : Int64) : Int32 := (if p5 < (0 : Int64) then (0 : Int32) else (1 : Int32))
set_option maxRecDepth 65536 in
set_option maxHeartbeats 4000000 in
theorem own_t1_s {p : Program} {l : Launch} {e : Env} {R : Room} {s : State} {m : MethodId} {args : Array Value} {below : List Frame} {meth : Method} {c : Code} {T : State} {locs : List Loc} {cells slots : Nat} {Z : State} {a0 : Array Value} (X : Stand p l e R s m args below meth c T locs cells slots) (hx : p.tables.exec = Jvm.exec) (hby : c.code = prog_74_method_13_code) (hown : s.vm.findClass "com/example/bitrun/bitrun/orc/intv2/Segments" = some m.cls) (hZ : Z.Warmed39 s.vm) (hw : ∀ d ∈ tables_1, d.before a0 Z = true) (ob : Addr) (p1 : Int32) (p2 : Int64) (p3 : Int64) (p4 : Int64) (p5 : Int64) (p6 : Int64) (jj : Int32) (fs : Int64) (v : Int32) (hv : own_t1 ob p1 p2 p3 p4 p5 p6 jj fs = v) {target : State} (hk : Steps p.tables e below (T.setTop (mkF m 38 #[rv ob, iv p1, lv p2, .second, lv p3, .second, lv p4, .second, lv p5, .second, lv p6, .second, iv jj, lv fs, .second, .unset, .unset, .unset, .unset] [(.int v)])) target) :
    Steps p.tables e below (T.setTop (mkF m 26 #[rv ob, iv p1, lv p2, .second, lv p3, .second, lv p4, .second, lv p5, .second, lv p6, .second, iv jj, lv fs, .second, .unset, .unset, .unset, .unset] [])) target := by
  unfold own_t1 at hv
  show Steps p.tables e below (T.setTop (mkF m 26 #[rv ob, iv p1, lv p2, .second, lv p3, .second, lv p4, .second, lv p5, .second, lv p6, .second, iv jj, lv fs, .second, .unset, .unset, .unset, .unset] [])) _
  refine XS.lload X.here hx rfl (hb hby d17_26) rfl ?_
  show Steps p.tables e below (T.setTop (mkF m 28 #[rv ob, iv p1, lv p2, .second, lv p3, .second, lv p4, .second, lv p5, .second, lv p6, .second, iv jj, lv fs, .second, .unset, .unset, .unset, .unset] [(.long p5)])) _
  refine XS.lconst X.here hx rfl (hb hby d17_28) ?_
  show Steps p.tables e below (T.setTop (mkF m 29 #[rv ob, iv p1, lv p2, .second, lv p3, .second, lv p4, .second, lv p5, .second, lv p6, .second, iv jj, lv fs, .second, .unset, .unset, .unset, .unset] [(.long (0 : Int64)), (.long p5)])) _
  refine XS.lcmp X.here hx rfl (hb hby d17_29) rfl ?_
  show Steps p.tables e below (T.setTop (mkF m 30 #[rv ob, iv p1, lv p2, .second, lv p3, .second, lv p4, .second, lv p5, .second, lv p6, .second, iv jj, lv fs, .second, .unset, .unset, .unset, .unset] [(.int (lcmpW p5 (0 : Int64)))])) _
  by_cases hc30 : p5 < (0 : Int64)
  · rw [if_pos hc30] at hv
    refine XS.ifYes X.here hx rfl (pc0 := 30) (pc' := 37) rfl (hb hby d17_30) rfl ((if0 _ _).trans (tlt ((lw_lt _ _).mpr hc30)).1) (by decide) (by decide) ?_
    show Steps p.tables e below (T.setTop (mkF m 37 #[rv ob, iv p1, lv p2, .second, lv p3, .second, lv p4, .second, lv p5, .second, lv p6, .second, iv jj, lv fs, .second, .unset, .unset, .unset, .unset] [])) _
    refine XS.iconst X.here hx rfl (hb hby d17_37) ?_
    show Steps p.tables e below (T.setTop (mkF m 38 #[rv ob, iv p1, lv p2, .second, lv p3, .second, lv p4, .second, lv p5, .second, lv p6, .second, iv jj, lv fs, .second, .unset, .unset, .unset, .unset] [(.int (0 : Int32))])) _
    subst hv
    exact hk
  · rw [if_neg hc30] at hv
    refine XS.ifNo X.here hx rfl (hb hby d17_30) rfl ((if0 _ _).trans (flt (fun q => hc30 ((lw_lt _ _).mp q))).1) ?_
    show Steps p.tables e below (T.setTop (mkF m 33 #[rv ob, iv p1, lv p2, .second, lv p3, .second, lv p4, .second, lv p5, .second, lv p6, .second, iv jj, lv fs, .second, .unset, .unset, .unset, .unset] [])) _
    refine XS.iconst X.here hx rfl (hb hby d17_33) ?_
    show Steps p.tables e below (T.setTop (mkF m 34 #[rv ob, iv p1, lv p2, .second, lv p3, .second, lv p4, .second, lv p5, .second, lv p6, .second, iv jj, lv fs, .second, .unset, .unset, .unset, .unset] [(.int (1 : Int32))])) _
    refine XS.goto X.here hx rfl (pc0 := 34) (pc' := 38) rfl (hb hby d17_34) (by decide) (by decide) ?_
    show Steps p.tables e below (T.setTop (mkF m 38 #[rv ob, iv p1, lv p2, .second, lv p3, .second, lv p4, .second, lv p5, .second, lv p6, .second, iv jj, lv fs, .second, .unset, .unset, .unset, .unset] [(.int (1 : Int32))])) _
    subst hv
    exact hk
def own_t2 (ob : Addr) (p1 : Int32) (p2 : Int64) (p3 : Int64) (p4 : Int64) (p5 : Int64) (p6 : Int64) (jj : Int32) (fs : Int64) (d1 : Int32) : Int32 := (if (0 : Int64) < p6 then (0 : Int32) else (2 : Int32))
set_option maxRecDepth 65536 in
set_option maxHeartbeats 4000000 in
theorem own_t2_s {p : Program} {l : Launch} {e : Env} {R : Room} {s : State} {m : MethodId} {args : Array Value} {below : List Frame} {meth : Method} {c : Code} {T : State} {locs : List Loc} {cells slots : Nat} {Z : State} {a0 : Array Value} (X : Stand p l e R s m args below meth c T locs cells slots) (hx : p.tables.exec = Jvm.exec) (hby : c.code = prog_74_method_13_code) (hown : s.vm.findClass "com/example/bitrun/bitrun/orc/intv2/Segments" = some m.cls) (hZ : Z.Warmed39 s.vm) (hw : ∀ d ∈ tables_1, d.before a0 Z = true) (ob : Addr) (p1 : Int32) (p2 : Int64) (p3 : Int64) (p4 : Int64) (p5 : Int64) (p6 : Int64) (jj : Int32) (fs : Int64) (d1 : Int32) (v : Int32) (hv : own_t2 ob p1 p2 p3 p4 p5 p6 jj fs d1 = v) {target : State} (hk : Steps p.tables e below (T.setTop (mkF m 50 #[rv ob, iv p1, lv p2, .second, lv p3, .second, lv p4, .second, lv p5, .second, lv p6, .second, iv jj, lv fs, .second, .unset, .unset, .unset, .unset] [(.int v), (.int d1)])) target) :
    Steps p.tables e below (T.setTop (mkF m 38 #[rv ob, iv p1, lv p2, .second, lv p3, .second, lv p4, .second, lv p5, .second, lv p6, .second, iv jj, lv fs, .second, .unset, .unset, .unset, .unset] [(.int d1)])) target := by
  unfold own_t2 at hv
  show Steps p.tables e below (T.setTop (mkF m 38 #[rv ob, iv p1, lv p2, .second, lv p3, .second, lv p4, .second, lv p5, .second, lv p6, .second, iv jj, lv fs, .second, .unset, .unset, .unset, .unset] [(.int d1)])) _
  refine XS.lload X.here hx rfl (hb hby d17_38) rfl ?_
  show Steps p.tables e below (T.setTop (mkF m 40 #[rv ob, iv p1, lv p2, .second, lv p3, .second, lv p4, .second, lv p5, .second, lv p6, .second, iv jj, lv fs, .second, .unset, .unset, .unset, .unset] [(.long p6), (.int d1)])) _
  refine XS.lconst X.here hx rfl (hb hby d17_40) ?_
  show Steps p.tables e below (T.setTop (mkF m 41 #[rv ob, iv p1, lv p2, .second, lv p3, .second, lv p4, .second, lv p5, .second, lv p6, .second, iv jj, lv fs, .second, .unset, .unset, .unset, .unset] [(.long (0 : Int64)), (.long p6), (.int d1)])) _
  refine XS.lcmp X.here hx rfl (hb hby d17_41) rfl ?_
  show Steps p.tables e below (T.setTop (mkF m 42 #[rv ob, iv p1, lv p2, .second, lv p3, .second, lv p4, .second, lv p5, .second, lv p6, .second, iv jj, lv fs, .second, .unset, .unset, .unset, .unset] [(.int (lcmpW p6 (0 : Int64))), (.int d1)])) _
  by_cases hc42 : (0 : Int64) < p6
  · rw [if_pos hc42] at hv
    refine XS.ifYes X.here hx rfl (pc0 := 42) (pc' := 49) rfl (hb hby d17_42) rfl ((if0 _ _).trans (tlt ((lw_gt _ _).mpr hc42)).2.2.1) (by decide) (by decide) ?_
    show Steps p.tables e below (T.setTop (mkF m 49 #[rv ob, iv p1, lv p2, .second, lv p3, .second, lv p4, .second, lv p5, .second, lv p6, .second, iv jj, lv fs, .second, .unset, .unset, .unset, .unset] [(.int d1)])) _
    refine XS.iconst X.here hx rfl (hb hby d17_49) ?_
    show Steps p.tables e below (T.setTop (mkF m 50 #[rv ob, iv p1, lv p2, .second, lv p3, .second, lv p4, .second, lv p5, .second, lv p6, .second, iv jj, lv fs, .second, .unset, .unset, .unset, .unset] [(.int (0 : Int32)), (.int d1)])) _
    subst hv
    exact hk
  · rw [if_neg hc42] at hv
    refine XS.ifNo X.here hx rfl (hb hby d17_42) rfl ((if0 _ _).trans (flt (fun q => hc42 ((lw_gt _ _).mp q))).2.2.1) ?_
    show Steps p.tables e below (T.setTop (mkF m 45 #[rv ob, iv p1, lv p2, .second, lv p3, .second, lv p4, .second, lv p5, .second, lv p6, .second, iv jj, lv fs, .second, .unset, .unset, .unset, .unset] [(.int d1)])) _
    refine XS.iconst X.here hx rfl (hb hby d17_45) ?_
    show Steps p.tables e below (T.setTop (mkF m 46 #[rv ob, iv p1, lv p2, .second, lv p3, .second, lv p4, .second, lv p5, .second, lv p6, .second, iv jj, lv fs, .second, .unset, .unset, .unset, .unset] [(.int (2 : Int32)), (.int d1)])) _
    refine XS.goto X.here hx rfl (pc0 := 46) (pc' := 50) rfl (hb hby d17_46) (by decide) (by decide) ?_
    show Steps p.tables e below (T.setTop (mkF m 50 #[rv ob, iv p1, lv p2, .second, lv p3, .second, lv p4, .second, lv p5, .second, lv p6, .second, iv jj, lv fs, .second, .unset, .unset, .unset, .unset] [(.int (2 : Int32)), (.int d1)])) _
    subst hv
    exact hk
def own_t3 (ob : Addr) (p1 : Int32) (p2 : Int64) (p3 : Int64) (p4 : Int64) (p5 : Int64) (p6 : Int64) (jj : Int32) (fs : Int64) (dr : Int32) : Int64 := (if (dr &&& (1 : Int32)) = (0 : Int32) then (-p5) else p6)
set_option maxRecDepth 65536 in
set_option maxHeartbeats 4000000 in
theorem own_t3_s {p : Program} {l : Launch} {e : Env} {R : Room} {s : State} {m : MethodId} {args : Array Value} {below : List Frame} {meth : Method} {c : Code} {T : State} {locs : List Loc} {cells slots : Nat} {Z : State} {a0 : Array Value} (X : Stand p l e R s m args below meth c T locs cells slots) (hx : p.tables.exec = Jvm.exec) (hby : c.code = prog_74_method_13_code) (hown : s.vm.findClass "com/example/bitrun/bitrun/orc/intv2/Segments" = some m.cls) (hZ : Z.Warmed39 s.vm) (hw : ∀ d ∈ tables_1, d.before a0 Z = true) (ob : Addr) (p1 : Int32) (p2 : Int64) (p3 : Int64) (p4 : Int64) (p5 : Int64) (p6 : Int64) (jj : Int32) (fs : Int64) (dr : Int32) (v : Int64) (hv : own_t3 ob p1 p2 p3 p4 p5 p6 jj fs dr = v) {target : State} (hk : Steps p.tables e below (T.setTop (mkF m 68 #[rv ob, iv p1, lv p2, .second, lv p3, .second, lv p4, .second, lv p5, .second, lv p6, .second, iv jj, lv fs, .second, iv dr, .unset, .unset, .unset] [(.long v)])) target) :
    Steps p.tables e below (T.setTop (mkF m 53 #[rv ob, iv p1, lv p2, .second, lv p3, .second, lv p4, .second, lv p5, .second, lv p6, .second, iv jj, lv fs, .second, iv dr, .unset, .unset, .unset] [])) target := by
  unfold own_t3 at hv
  show Steps p.tables e below (T.setTop (mkF m 53 #[rv ob, iv p1, lv p2, .second, lv p3, .second, lv p4, .second, lv p5, .second, lv p6, .second, iv jj, lv fs, .second, iv dr, .unset, .unset, .unset] [])) _
  refine XS.iload X.here hx rfl (hb hby d17_53) rfl ?_
  show Steps p.tables e below (T.setTop (mkF m 55 #[rv ob, iv p1, lv p2, .second, lv p3, .second, lv p4, .second, lv p5, .second, lv p6, .second, iv jj, lv fs, .second, iv dr, .unset, .unset, .unset] [(.int dr)])) _
  refine XS.iconst X.here hx rfl (hb hby d17_55) ?_
  show Steps p.tables e below (T.setTop (mkF m 56 #[rv ob, iv p1, lv p2, .second, lv p3, .second, lv p4, .second, lv p5, .second, lv p6, .second, iv jj, lv fs, .second, iv dr, .unset, .unset, .unset] [(.int (1 : Int32)), (.int dr)])) _
  refine XS.iand X.here hx rfl (hb hby d17_56) rfl ?_
  show Steps p.tables e below (T.setTop (mkF m 57 #[rv ob, iv p1, lv p2, .second, lv p3, .second, lv p4, .second, lv p5, .second, lv p6, .second, iv jj, lv fs, .second, iv dr, .unset, .unset, .unset] [(.int (dr &&& (1 : Int32)))])) _
  by_cases hc57 : (dr &&& (1 : Int32)) = (0 : Int32)
  · rw [if_pos hc57] at hv
    refine XS.ifYes X.here hx rfl (pc0 := 57) (pc' := 65) rfl (hb hby d17_57) rfl ((if0 _ _).trans (teq hc57).1) (by decide) (by decide) ?_
    show Steps p.tables e below (T.setTop (mkF m 65 #[rv ob, iv p1, lv p2, .second, lv p3, .second, lv p4, .second, lv p5, .second, lv p6, .second, iv jj, lv fs, .second, iv dr, .unset, .unset, .unset] [])) _
    refine XS.lload X.here hx rfl (hb hby d17_65) rfl ?_
    show Steps p.tables e below (T.setTop (mkF m 67 #[rv ob, iv p1, lv p2, .second, lv p3, .second, lv p4, .second, lv p5, .second, lv p6, .second, iv jj, lv fs, .second, iv dr, .unset, .unset, .unset] [(.long p5)])) _
    refine XS.lneg X.here hx rfl (hb hby d17_67) rfl ?_
    show Steps p.tables e below (T.setTop (mkF m 68 #[rv ob, iv p1, lv p2, .second, lv p3, .second, lv p4, .second, lv p5, .second, lv p6, .second, iv jj, lv fs, .second, iv dr, .unset, .unset, .unset] [(.long (-p5))])) _
    subst hv
    exact hk
  · rw [if_neg hc57] at hv
    refine XS.ifNo X.here hx rfl (hb hby d17_57) rfl ((if0 _ _).trans (feq hc57).1) ?_
    show Steps p.tables e below (T.setTop (mkF m 60 #[rv ob, iv p1, lv p2, .second, lv p3, .second, lv p4, .second, lv p5, .second, lv p6, .second, iv jj, lv fs, .second, iv dr, .unset, .unset, .unset] [])) _
    refine XS.lload X.here hx rfl (hb hby d17_60) rfl ?_
    show Steps p.tables e below (T.setTop (mkF m 62 #[rv ob, iv p1, lv p2, .second, lv p3, .second, lv p4, .second, lv p5, .second, lv p6, .second, iv jj, lv fs, .second, iv dr, .unset, .unset, .unset] [(.long p6)])) _
    refine XS.goto X.here hx rfl (pc0 := 62) (pc' := 68) rfl (hb hby d17_62) (by decide) (by decide) ?_
    show Steps p.tables e below (T.setTop (mkF m 68 #[rv ob, iv p1, lv p2, .second, lv p3, .second, lv p4, .second, lv p5, .second, lv p6, .second, iv jj, lv fs, .second, iv dr, .unset, .unset, .unset] [(.long p6)])) _
    subst hv
    exact hk
def own_t4 (ob : Addr) (p1 : Int32) (p2 : Int64) (p3 : Int64) (p4 : Int64) (p5 : Int64) (p6 : Int64) (jj : Int32) (fs : Int64) (dr : Int32) (mg : Int64) : Int32 := (if p5 = fs then (if p6 = fs then (4 : Int32) else (0 : Int32)) else (0 : Int32))
set_option maxRecDepth 65536 in
set_option maxHeartbeats 4000000 in
theorem own_t4_s {p : Program} {l : Launch} {e : Env} {R : Room} {s : State} {m : MethodId} {args : Array Value} {below : List Frame} {meth : Method} {c : Code} {T : State} {locs : List Loc} {cells slots : Nat} {Z : State} {a0 : Array Value} (X : Stand p l e R s m args below meth c T locs cells slots) (hx : p.tables.exec = Jvm.exec) (hby : c.code = prog_74_method_13_code) (hown : s.vm.findClass "com/example/bitrun/bitrun/orc/intv2/Segments" = some m.cls) (hZ : Z.Warmed39 s.vm) (hw : ∀ d ∈ tables_1, d.before a0 Z = true) (ob : Addr) (p1 : Int32) (p2 : Int64) (p3 : Int64) (p4 : Int64) (p5 : Int64) (p6 : Int64) (jj : Int32) (fs : Int64) (dr : Int32) (mg : Int64) (v : Int32) (hv : own_t4 ob p1 p2 p3 p4 p5 p6 jj fs dr mg = v) {target : State} (hk : Steps p.tables e below (T.setTop (mkF m 91 #[rv ob, iv p1, lv p2, .second, lv p3, .second, lv p4, .second, lv p5, .second, lv p6, .second, iv jj, lv fs, .second, iv dr, lv mg, .second, .unset] [(.int v)])) target) :
    Steps p.tables e below (T.setTop (mkF m 70 #[rv ob, iv p1, lv p2, .second, lv p3, .second, lv p4, .second, lv p5, .second, lv p6, .second, iv jj, lv fs, .second, iv dr, lv mg, .second, .unset] [])) target := by
  unfold own_t4 at hv
  show Steps p.tables e below (T.setTop (mkF m 70 #[rv ob, iv p1, lv p2, .second, lv p3, .second, lv p4, .second, lv p5, .second, lv p6, .second, iv jj, lv fs, .second, iv dr, lv mg, .second, .unset] [])) _
  refine XS.lload X.here hx rfl (hb hby d17_70) rfl ?_
  show Steps p.tables e below (T.setTop (mkF m 72 #[rv ob, iv p1, lv p2, .second, lv p3, .second, lv p4, .second, lv p5, .second, lv p6, .second, iv jj, lv fs, .second, iv dr, lv mg, .second, .unset] [(.long p5)])) _
  refine XS.lload X.here hx rfl (hb hby d17_72) rfl ?_
  show Steps p.tables e below (T.setTop (mkF m 74 #[rv ob, iv p1, lv p2, .second, lv p3, .second, lv p4, .second, lv p5, .second, lv p6, .second, iv jj, lv fs, .second, iv dr, lv mg, .second, .unset] [(.long fs), (.long p5)])) _
  refine XS.lcmp X.here hx rfl (hb hby d17_74) rfl ?_
  show Steps p.tables e below (T.setTop (mkF m 75 #[rv ob, iv p1, lv p2, .second, lv p3, .second, lv p4, .second, lv p5, .second, lv p6, .second, iv jj, lv fs, .second, iv dr, lv mg, .second, .unset] [(.int (lcmpW p5 fs))])) _
  by_cases hc75 : p5 = fs
  · rw [if_pos hc75] at hv
    refine XS.ifNo X.here hx rfl (hb hby d17_75) rfl ((if0 _ _).trans (teq ((lw_eq _ _).mpr hc75)).2) ?_
    show Steps p.tables e below (T.setTop (mkF m 78 #[rv ob, iv p1, lv p2, .second, lv p3, .second, lv p4, .second, lv p5, .second, lv p6, .second, iv jj, lv fs, .second, iv dr, lv mg, .second, .unset] [])) _
    refine XS.lload X.here hx rfl (hb hby d17_78) rfl ?_
    show Steps p.tables e below (T.setTop (mkF m 80 #[rv ob, iv p1, lv p2, .second, lv p3, .second, lv p4, .second, lv p5, .second, lv p6, .second, iv jj, lv fs, .second, iv dr, lv mg, .second, .unset] [(.long p6)])) _
    refine XS.lload X.here hx rfl (hb hby d17_80) rfl ?_
    show Steps p.tables e below (T.setTop (mkF m 82 #[rv ob, iv p1, lv p2, .second, lv p3, .second, lv p4, .second, lv p5, .second, lv p6, .second, iv jj, lv fs, .second, iv dr, lv mg, .second, .unset] [(.long fs), (.long p6)])) _
    refine XS.lcmp X.here hx rfl (hb hby d17_82) rfl ?_
    show Steps p.tables e below (T.setTop (mkF m 83 #[rv ob, iv p1, lv p2, .second, lv p3, .second, lv p4, .second, lv p5, .second, lv p6, .second, iv jj, lv fs, .second, iv dr, lv mg, .second, .unset] [(.int (lcmpW p6 fs))])) _
    by_cases hc83 : p6 = fs
    · rw [if_pos hc83] at hv
      refine XS.ifNo X.here hx rfl (hb hby d17_83) rfl ((if0 _ _).trans (teq ((lw_eq _ _).mpr hc83)).2) ?_
      show Steps p.tables e below (T.setTop (mkF m 86 #[rv ob, iv p1, lv p2, .second, lv p3, .second, lv p4, .second, lv p5, .second, lv p6, .second, iv jj, lv fs, .second, iv dr, lv mg, .second, .unset] [])) _
      refine XS.iconst X.here hx rfl (hb hby d17_86) ?_
      show Steps p.tables e below (T.setTop (mkF m 87 #[rv ob, iv p1, lv p2, .second, lv p3, .second, lv p4, .second, lv p5, .second, lv p6, .second, iv jj, lv fs, .second, iv dr, lv mg, .second, .unset] [(.int (4 : Int32))])) _
      refine XS.goto X.here hx rfl (pc0 := 87) (pc' := 91) rfl (hb hby d17_87) (by decide) (by decide) ?_
      show Steps p.tables e below (T.setTop (mkF m 91 #[rv ob, iv p1, lv p2, .second, lv p3, .second, lv p4, .second, lv p5, .second, lv p6, .second, iv jj, lv fs, .second, iv dr, lv mg, .second, .unset] [(.int (4 : Int32))])) _
      subst hv
      exact hk
    · rw [if_neg hc83] at hv
      refine XS.ifYes X.here hx rfl (pc0 := 83) (pc' := 90) rfl (hb hby d17_83) rfl ((if0 _ _).trans (feq (fun q => hc83 ((lw_eq _ _).mp q))).2) (by decide) (by decide) ?_
      show Steps p.tables e below (T.setTop (mkF m 90 #[rv ob, iv p1, lv p2, .second, lv p3, .second, lv p4, .second, lv p5, .second, lv p6, .second, iv jj, lv fs, .second, iv dr, lv mg, .second, .unset] [])) _
      refine XS.iconst X.here hx rfl (hb hby d17_90) ?_
      show Steps p.tables e below (T.setTop (mkF m 91 #[rv ob, iv p1, lv p2, .second, lv p3, .second, lv p4, .second, lv p5, .second, lv p6, .second, iv jj, lv fs, .second, iv dr, lv mg, .second, .unset] [(.int (0 : Int32))])) _
      subst hv
      exact hk
  · rw [if_neg hc75] at hv
    refine XS.ifYes X.here hx rfl (pc0 := 75) (pc' := 90) rfl (hb hby d17_75) rfl ((if0 _ _).trans (feq (fun q => hc75 ((lw_eq _ _).mp q))).2) (by decide) (by decide) ?_
    show Steps p.tables e below (T.setTop (mkF m 90 #[rv ob, iv p1, lv p2, .second, lv p3, .second, lv p4, .second, lv p5, .second, lv p6, .second, iv jj, lv fs, .second, iv dr, lv mg, .second, .unset] [])) _
    refine XS.iconst X.here hx rfl (hb hby d17_90) ?_
    show Steps p.tables e below (T.setTop (mkF m 91 #[rv ob, iv p1, lv p2, .second, lv p3, .second, lv p4, .second, lv p5, .second, lv p6, .second, iv jj, lv fs, .second, iv dr, lv mg, .second, .unset] [(.int (0 : Int32))])) _
    subst hv
    exact hk
theorem own_gs (l : List Value) (i j : Nat) (x d : Value) (h : i ≠ j) : (l.set i x).getD j d = l.getD j d := by
  simp only [List.getD_eq_getElem?_getD, List.getElem?_set_ne h]
theorem own_ge (l : List Value) (i : Nat) (x d : Value) (h : i < l.length) : (l.set i x).getD i d = x := by
  simp [List.getD_eq_getElem?_getD, h]
theorem ef_17 (m : MethodId) (x0 : Addr) (x1 : Int32) (x2 : Int64) (x3 : Int64) (x4 : Int64) (x5 : Int64) (x6 : Int64) : entryFrame m #[(.ref x0), (.int x1), (.long x2), (.long x3), (.long x4), (.long x5), (.long x6)] 19 = mkF m 0 #[rv x0, iv x1, lv x2, .second, lv x3, .second, lv x4, .second, lv x5, .second, lv x6, .second, .unset, .unset, .unset, .unset, .unset, .unset, .unset] [] := by first | (simp [entryFrame, mkF, argsToLocals, Value.category, maxLocals]; done) | rfl
theorem pn_17 : plainName "com/example/bitrun/bitrun/orc/intv2/Segments" = true := by first | (simp [plainName, overriddenIn]; done) | decide +kernel
def Q_rm17 (Z : State) (ob : Addr) (p1 : Int32) (p2 : Int64) (p3 : Int64) (p4 : Int64) (p5 : Int64) (p6 : Int64) (va vb vl vh vf vg vs : Addr) (kv kb kl kh kf kg ks : ClassId) (fl : Int64) (nn nb : Int32) (VV : List Value) (cn : Int32) (VB VL VH VF VG VS : List Value) (h0 : Heap) (n0 : Nat) (v : Option Value) (h : Heap) (L : List Loc) : Prop := v = none ∧ Fr n0 L ∧ Keep h0 h [ob, vb, vl, vh, vf, vg, vs] ∧ ∃ x1 x2 x3 x4 x5, own_G Z h ob va vb vl vh vf vg vs kv kb kl kh kf kg ks fl nn nb VV (.ref va) (cn + (1 : Int32)) (VB.set (cn + (1 : Int32)).toNatClampNeg (.int p1)) (VL.set cn.toNatClampNeg (.long x1)) (VH.set cn.toNatClampNeg (.long x2)) (VF.set cn.toNatClampNeg (.long x3)) (VG.set cn.toNatClampNeg (.long x4)) (VS.set cn.toNatClampNeg (.int x5))
set_option maxRecDepth 65536 in
set_option maxHeartbeats 40000000 in
theorem rm17 (l : Launch) (Z : State) (a0 : Array Value) (hw : ∀ d ∈ tables_1, d.before a0 Z = true) (ws : List Jvm.Cond) (ob : Addr) (p1 : Int32) (p2 : Int64) (p3 : Int64) (p4 : Int64) (p5 : Int64) (p6 : Int64) (va vb vl vh vf vg vs : Addr) (kv kb kl kh kf kg ks : ClassId) (fl : Int64) (nn nb : Int32) (VV : List Value) (cn : Int32) (VB VL VH VF VG VS : List Value) (h0 : Heap) (n0 : Nat) (Z0 : n0 ≤ h0.size) (hO : own_O n0 ob va vb vl vh vf vg vs nn nb) (hG : own_G Z h0 ob va vb vl vh vf vg vs kv kb kl kh kf kg ks fl nn nb VV (.ref va) cn VB VL VH VF VG VS) (hcn : 0 ≤ cn.toInt ∧ cn.toInt < nn.toInt) (sx : Int32) (hsx : VB.getD cn.toNatClampNeg (.int (0 : Int32)) = .int sx) (hs : 0 ≤ sx.toInt ∧ p1.toInt = sx.toInt + 2 ∧ p1.toInt ≤ 6) :
    MetFree l (⟨"com/example/bitrun/bitrun/orc/intv2/Segments", "take", "(IJJJJJ)V"⟩ : MethodName) (head1 (Jvm.Cond.code (⟨"com/example/bitrun/bitrun/orc/intv2/Segments", "take", "(IJJJJJ)V"⟩ : MethodName) prog_74_method_13_code 19 none :: ws) ({ frames := 2, cells := 0, slots := 0, locals := 41 } : Room)) (fun a U => a = #[(.ref ob), (.int p1), (.long p2), (.long p3), (.long p4), (.long p5), (.long p6)] ∧ Z.Warmed39 U.vm ∧ U.heap = h0) (fun _ _ _ _ _ => True) (fun _ U o U' => ∃ v L, o = .returned v ∧ Q_rm17 Z ob p1 p2 p3 p4 p5 p6 va vb vl vh vf vg vs kv kb kl kh kf kg ks fl nn nb VV cn VB VL VH VF VG VS h0 n0 v U'.heap L ∧ FrameEnd U o U' L ({ frames := 2, cells := 0, slots := 0, locals := 41 } : Room).cells ({ frames := 2, cells := 0, slots := 0, locals := 41 } : Room).slots) := by
  refine MetFree.of_bodySF (plainFor_of_name pn_17) hisR ?_
  intro p e s m args below meth c s₁ Bd hml0 hP hK
  obtain ⟨rfl, hZ, hh⟩ := hP
  have hx := Bd.exec
  have hby := Bd.bytes
  have hml : c.maxLocals = 19 := hml0
  have hown : s.vm.findClass "com/example/bitrun/bitrun/orc/intv2/Segments" = some m.cls := findClass_of_methodNamed Bd.named
  have hnm := (name_of_methodNamed Bd.named Bd.method).1
  have X0 : Stand p l e ({ frames := 2, cells := 0, slots := 0, locals := 41 } : Room) s m #[(.ref ob), (.int p1), (.long p2), (.long p3), (.long p4), (.long p5), (.long p6)] below meth c s₁ [] 0 0 := Stand.of_body Bd
  have e0 : s₁.heap = h0 := by rw [← hh, Bd.state]; rfl
  have N0 := Fr.nil n0
  have pre0 : ∀ t, Steps p.tables e below (s₁.setTop (mkF m 0 #[rv ob, iv p1, lv p2, .second, lv p3, .second, lv p4, .second, lv p5, .second, lv p6, .second, .unset, .unset, .unset, .unset, .unset, .unset, .unset] [])) t → Steps p.tables e below (s₁.setTop (entryFrame m #[(.ref ob), (.int p1), (.long p2), (.long p3), (.long p4), (.long p5), (.long p6)] 19)) t := fun t k => castTop (ef_17 m ob p1 p2 p3 p4 p5 p6) k
  obtain ⟨S0, hS0⟩ : ∃ z, z = (s₁.setTop (entryFrame m #[(.ref ob), (.int p1), (.long p2), (.long p3), (.long p4), (.long p5), (.long p6)] 19)) := ⟨_, rfl⟩
  rw [← hS0] at pre0 ⊢
  have K0 : own_R p e below (s₁.setTop (mkF m 0 #[rv ob, iv p1, lv p2, .second, lv p3, .second, lv p4, .second, lv p5, .second, lv p6, .second, .unset, .unset, .unset, .unset, .unset, .unset, .unset] [])) S0 := pre0
  obtain ⟨o1, o2, o3, o4, o5, o6, o7, o8, o9, o10, o11⟩ := id hO
  have K1 : own_R p e below (s₁.setTop (mkF m 1 #[rv ob, iv p1, lv p2, .second, lv p3, .second, lv p4, .second, lv p5, .second, lv p6, .second, .unset, .unset, .unset, .unset, .unset, .unset, .unset] [(.ref ob)])) S0 := by
    intro t hk
    refine K0 t ?_
    show Steps p.tables e below (s₁.setTop (mkF m 0 #[rv ob, iv p1, lv p2, .second, lv p3, .second, lv p4, .second, lv p5, .second, lv p6, .second, .unset, .unset, .unset, .unset, .unset, .unset, .unset] [])) _
    refine XS.aloadN X0.here hx rfl (hb hby d17_0) rfl rfl ?_
    exact hk
  obtain ⟨cq2, q2, r2⟩ := (own_pE hG).cell
  obtain ⟨_, _, ⟨T2, L2, k2, n2⟩, -, X2, ⟨Lc2, hQ2, l2, y2, z2⟩, st2⟩ := X0.privateBack hx (y := (⟨"com/example/bitrun/bitrun/orc/intv2/Segments", "next", "()I"⟩ : MethodName)) hown (mvT hZ (hw _ (List.mem_of_getElem? (i := 102) rfl))) (mvT hZ (hw _ (List.mem_of_getElem? (i := 103) rfl))) (own_selp hZ (hw _ (List.mem_of_getElem? (i := 104) rfl)) (hw _ (List.mem_of_getElem? (i := 103) rfl)) (by decide) (hw _ (List.mem_of_getElem? (i := 37) rfl)) rfl) (Cond.privateMethod_at (mvP hZ (hw _ (List.mem_of_getElem? (i := 104) rfl)) (args := #[]))) (mvT hZ (hw _ (List.mem_of_getElem? (i := 105) rfl))) (by decide) (backOf (W := 0) (rm18 l Z a0 hw [] ob va vb vl vh vf vg vs kv kb kl kh kf kg ks fl nn nb VV cn VB VL VH VF VG VS h0 n0 Z0 hO hG hcn) hZ (hw _ (List.mem_of_getElem? (i := 105) rfl)) (hw _ (List.mem_of_getElem? (i := 4) rfl)) (by decide) (by decide)) (g := (mkF m 1 #[rv ob, iv p1, lv p2, .second, lv p3, .second, lv p4, .second, lv p5, .second, lv p6, .second, .unset, .unset, .unset, .unset, .unset, .unset, .unset] [(.ref ob)])) rfl (by rw [hml]; rfl) (Steps.refl _) (a := ob) (by rw [e0]; exact q2) r2 (argsL := []) (rest := []) (lenOf (by decide +kernel : parseMethodDescriptor "()I" = some ⟨[], (some .int)⟩) rfl) rfl (by show 2 * 0 + _ ≤ _; exact Nat.le_of_eq rfl) (hb hby d17_1) (fun _ _ => ⟨rfl, e0, (by decide : 0 + 0 ≤ _), (by decide : 0 + 0 ≤ _)⟩)
  dsimp only [Pt.U, Pt.locs, Pt.cells, Pt.slots] at X2 l2 y2 z2 st2 hQ2
  replace y2 := y2.symm; replace z2 := z2.symm; subst l2 y2 z2
  obtain ⟨rfl, Nq2, Kq2, Gq2⟩ := hQ2
  have N2 := Fr.app N0 Nq2
  have K2 : own_R p e below (T2.setTop (mkF m 4 #[rv ob, iv p1, lv p2, .second, lv p3, .second, lv p4, .second, lv p5, .second, lv p6, .second, .unset, .unset, .unset, .unset, .unset, .unset, .unset] [(.int cn)])) S0 := fun t hk => K1 t (st2.trans hk)
  have Kp3 := (Keep.refl h0 [ob, vb, vl, vh, vf, vg, vs]).trans Kq2 (fun x hx => Or.inl hx)
  have K4 : own_R p e below (T2.setTop (mkF m 8 #[rv ob, iv p1, lv p2, .second, lv p3, .second, lv p4, .second, lv p5, .second, lv p6, .second, iv cn, .unset, .unset, .unset, .unset, .unset, .unset] [(.ref ob), (.ref ob)])) S0 := by
    intro t hk
    refine K2 t ?_
    show Steps p.tables e below (T2.setTop (mkF m 4 #[rv ob, iv p1, lv p2, .second, lv p3, .second, lv p4, .second, lv p5, .second, lv p6, .second, .unset, .unset, .unset, .unset, .unset, .unset, .unset] [(.int cn)])) _
    refine XS.istore X2.here hx rfl (hb hby d17_4) rfl (l' := #[rv ob, iv p1, lv p2, .second, lv p3, .second, lv p4, .second, lv p5, .second, lv p6, .second, iv cn, .unset, .unset, .unset, .unset, .unset, .unset]) rfl ?_
    refine XS.aloadN X2.here hx rfl (hb hby d17_6) rfl rfl ?_
    refine XS.aloadN X2.here hx rfl (hb hby d17_7) rfl rfl ?_
    exact hk
  obtain ⟨T5, X5, e5, st5⟩ := getF X2 hx hZ hown (host := "") (Or.inl (hw _ (List.mem_of_getElem? (i := 66) rfl))) Via.refl rfl (own_pF_values Gq2) (g := (mkF m 8 #[rv ob, iv p1, lv p2, .second, lv p3, .second, lv p4, .second, lv p5, .second, lv p6, .second, iv cn, .unset, .unset, .unset, .unset, .unset, .unset] [(.ref ob), (.ref ob)])) rfl rfl (hb hby d17_8)
  have K5 : own_R p e below (T5.setTop (mkF m 11 #[rv ob, iv p1, lv p2, .second, lv p3, .second, lv p4, .second, lv p5, .second, lv p6, .second, iv cn, .unset, .unset, .unset, .unset, .unset, .unset] [(.ref va), (.ref ob)])) S0 := fun t hk => K4 t (st5 _ hk)
  have K6 : own_R p e below (T5.setTop (mkF m 12 #[rv ob, iv p1, lv p2, .second, lv p3, .second, lv p4, .second, lv p5, .second, lv p6, .second, iv cn, .unset, .unset, .unset, .unset, .unset, .unset] [(.ref ob), (.ref va), (.ref ob)])) S0 := by
    intro t hk
    refine K5 t ?_
    show Steps p.tables e below (T5.setTop (mkF m 11 #[rv ob, iv p1, lv p2, .second, lv p3, .second, lv p4, .second, lv p5, .second, lv p6, .second, iv cn, .unset, .unset, .unset, .unset, .unset, .unset] [(.ref va), (.ref ob)])) _
    refine XS.aloadN X5.here hx rfl (hb hby d17_11) rfl rfl ?_
    exact hk
  obtain ⟨T7, X7, e7, st7⟩ := getF X5 hx hZ hown (host := "") (Or.inl (hw _ (List.mem_of_getElem? (i := 21) rfl))) Via.refl e5 (own_pF_bounds Gq2) (g := (mkF m 12 #[rv ob, iv p1, lv p2, .second, lv p3, .second, lv p4, .second, lv p5, .second, lv p6, .second, iv cn, .unset, .unset, .unset, .unset, .unset, .unset] [(.ref ob), (.ref va), (.ref ob)])) rfl rfl (hb hby d17_12)
  have K7 : own_R p e below (T7.setTop (mkF m 15 #[rv ob, iv p1, lv p2, .second, lv p3, .second, lv p4, .second, lv p5, .second, lv p6, .second, iv cn, .unset, .unset, .unset, .unset, .unset, .unset] [(.ref vb), (.ref va), (.ref ob)])) S0 := fun t hk => K6 t (st7 _ hk)
  have K8 : own_R p e below (T7.setTop (mkF m 17 #[rv ob, iv p1, lv p2, .second, lv p3, .second, lv p4, .second, lv p5, .second, lv p6, .second, iv cn, .unset, .unset, .unset, .unset, .unset, .unset] [(.int cn), (.ref vb), (.ref va), (.ref ob)])) S0 := by
    intro t hk
    refine K7 t ?_
    show Steps p.tables e below (T7.setTop (mkF m 15 #[rv ob, iv p1, lv p2, .second, lv p3, .second, lv p4, .second, lv p5, .second, lv p6, .second, iv cn, .unset, .unset, .unset, .unset, .unset, .unset] [(.ref vb), (.ref va), (.ref ob)])) _
    refine XS.iload X7.here hx rfl (hb hby d17_15) rfl ?_
    exact hk
  obtain ⟨w1, hv_w1, st9⟩ := own_ldI X7 hx hZ e7 (own_pV_vb Gq2) (j := cn) (own_b _ _ (by omega)) (g := (mkF m 17 #[rv ob, iv p1, lv p2, .second, lv p3, .second, lv p4, .second, lv p5, .second, lv p6, .second, iv cn, .unset, .unset, .unset, .unset, .unset, .unset] [(.int cn), (.ref vb), (.ref va), (.ref ob)])) rfl rfl (hb hby d17_17)
  rw [show w1 = sx from Value.int.inj ((hsx).symm.trans hv_w1 |>.symm)] at st9
  have K9 : own_R p e below (T7.setTop (mkF m 18 #[rv ob, iv p1, lv p2, .second, lv p3, .second, lv p4, .second, lv p5, .second, lv p6, .second, iv cn, .unset, .unset, .unset, .unset, .unset, .unset] [(.int sx), (.ref va), (.ref ob)])) S0 := fun t hk => K8 t (st9 _ hk)
  obtain ⟨y1, hv_y1, st10⟩ := own_ldJ X7 hx hZ e7 (own_pV_va Gq2) (j := sx) (own_b _ _ (by rw [own_six]; omega)) (g := (mkF m 18 #[rv ob, iv p1, lv p2, .second, lv p3, .second, lv p4, .second, lv p5, .second, lv p6, .second, iv cn, .unset, .unset, .unset, .unset, .unset, .unset] [(.int sx), (.ref va), (.ref ob)])) rfl rfl (hb hby d17_18)
  have K10 : own_R p e below (T7.setTop (mkF m 19 #[rv ob, iv p1, lv p2, .second, lv p3, .second, lv p4, .second, lv p5, .second, lv p6, .second, iv cn, .unset, .unset, .unset, .unset, .unset, .unset] [(.long y1), (.ref ob)])) S0 := fun t hk => K9 t (st10 _ hk)
  obtain ⟨cq11, kq11, q11a, q11b, q11c⟩ := isOf hZ e7 (own_pE Gq2)
  obtain ⟨_, _, ⟨T11, L11, k11, n11⟩, -, X11, ⟨Lc11, hQ11, l11, y11, z11⟩, st11⟩ := X7.virtualBack hx (y := (⟨"com/example/bitrun/bitrun/orc/intv2/Segments", "key", "(J)J"⟩ : MethodName)) (z := (⟨"com/example/bitrun/bitrun/orc/intv2/Segments", "key", "(J)J"⟩ : MethodName)) hown (mvT hZ (hw _ (List.mem_of_getElem? (i := 85) rfl))) (mvT hZ (hw _ (List.mem_of_getElem? (i := 86) rfl))) (notFace_of_selects (args := #[]) (mvT hZ (hw _ (List.mem_of_getElem? (i := 88) rfl)))) (mvT hZ (hw _ (List.mem_of_getElem? (i := 88) rfl))) (mvT hZ (hw _ (List.mem_of_getElem? (i := 87) rfl))) (by decide) (backOf (W := 0) (rm14 l Z a0 hw [] ob y1 va vb vl vh vf vg vs kv kb kl kh kf kg ks fl nn nb VV (cn + (1 : Int32)) VB VL VH VF VG VS T2.heap n0 (Nat.le_trans Z0 Kp3.1) hO Gq2) hZ (hw _ (List.mem_of_getElem? (i := 89) rfl)) (hw _ (List.mem_of_getElem? (i := 4) rfl)) (by decide) (by decide)) q11a q11c (g := (mkF m 19 #[rv ob, iv p1, lv p2, .second, lv p3, .second, lv p4, .second, lv p5, .second, lv p6, .second, iv cn, .unset, .unset, .unset, .unset, .unset, .unset] [(.long y1), (.ref ob)])) rfl (by rw [hml]; rfl) (Steps.refl _) (argsL := [(.long y1)]) (rest := []) (lenOf (by decide +kernel : parseMethodDescriptor "(J)J" = some ⟨[.long], (some .long)⟩) rfl) rfl (by show 2 * 0 + _ ≤ _; exact Nat.le_of_eq rfl) (hb hby d17_19) (fun _ _ => ⟨rfl, e7, (by decide : 0 + 0 + 0 ≤ _), (by decide : 0 + 0 + 0 ≤ _)⟩)
  dsimp only [Pt.U, Pt.locs, Pt.cells, Pt.slots] at X11 l11 y11 z11 st11 hQ11
  replace y11 := y11.symm; replace z11 := z11.symm; subst l11 y11 z11
  obtain ⟨rfl, Nq11, e11⟩ := hQ11
  have N11 := Fr.app N2 Nq11
  have K11 : own_R p e below (T11.setTop (mkF m 22 #[rv ob, iv p1, lv p2, .second, lv p3, .second, lv p4, .second, lv p5, .second, lv p6, .second, iv cn, .unset, .unset, .unset, .unset, .unset, .unset] [(.long (y1 ^^^ fl))])) S0 := fun t hk => K10 t (st11.trans hk)
  have K12 : own_R p e below (T11.setTop (mkF m 24 #[rv ob, iv p1, lv p2, .second, lv p3, .second, lv p4, .second, lv p5, .second, lv p6, .second, iv cn, .unset, .unset, .unset, .unset, .unset, .unset] [(.long ((y1 ^^^ fl) - p2))])) S0 := by
    intro t hk
    refine K11 t ?_
    show Steps p.tables e below (T11.setTop (mkF m 22 #[rv ob, iv p1, lv p2, .second, lv p3, .second, lv p4, .second, lv p5, .second, lv p6, .second, iv cn, .unset, .unset, .unset, .unset, .unset, .unset] [(.long (y1 ^^^ fl))])) _
    refine XS.lloadN X11.here hx rfl (hb hby d17_22) rfl ?_
    refine XS.lsub X11.here hx rfl (hb hby d17_23) rfl ?_
    exact hk
  obtain ⟨fs, hfs⟩ : ∃ z_, z_ = ((y1 ^^^ fl) - p2) := ⟨_, rfl⟩
  have K13 : own_R p e below (T11.setTop (mkF m 24 #[rv ob, iv p1, lv p2, .second, lv p3, .second, lv p4, .second, lv p5, .second, lv p6, .second, iv cn, .unset, .unset, .unset, .unset, .unset, .unset] [(.long fs)])) S0 := by rw [hfs]; exact K12
  have K14 : own_R p e below (T11.setTop (mkF m 26 #[rv ob, iv p1, lv p2, .second, lv p3, .second, lv p4, .second, lv p5, .second, lv p6, .second, iv cn, lv fs, .second, .unset, .unset, .unset, .unset] [])) S0 := by
    intro t hk
    refine K13 t ?_
    show Steps p.tables e below (T11.setTop (mkF m 24 #[rv ob, iv p1, lv p2, .second, lv p3, .second, lv p4, .second, lv p5, .second, lv p6, .second, iv cn, .unset, .unset, .unset, .unset, .unset, .unset] [(.long fs)])) _
    refine XS.lstore X11.here hx rfl (hb hby d17_24) rfl (l' := #[rv ob, iv p1, lv p2, .second, lv p3, .second, lv p4, .second, lv p5, .second, lv p6, .second, iv cn, lv fs, .second, .unset, .unset, .unset, .unset]) rfl ?_
    exact hk
  have K15 : own_R p e below (T11.setTop (mkF m 38 #[rv ob, iv p1, lv p2, .second, lv p3, .second, lv p4, .second, lv p5, .second, lv p6, .second, iv cn, lv fs, .second, .unset, .unset, .unset, .unset] [(.int (own_t1 ob p1 p2 p3 p4 p5 p6 cn fs))])) S0 := fun t hk => K14 t (own_t1_s X11 hx hby hown hZ hw ob p1 p2 p3 p4 p5 p6 cn fs _ rfl hk)
  obtain ⟨d1, hd1⟩ : ∃ z_, z_ = (own_t1 ob p1 p2 p3 p4 p5 p6 cn fs) := ⟨_, rfl⟩
  have K16 : own_R p e below (T11.setTop (mkF m 38 #[rv ob, iv p1, lv p2, .second, lv p3, .second, lv p4, .second, lv p5, .second, lv p6, .second, iv cn, lv fs, .second, .unset, .unset, .unset, .unset] [(.int d1)])) S0 := by rw [hd1]; exact K15
  have K17 : own_R p e below (T11.setTop (mkF m 50 #[rv ob, iv p1, lv p2, .second, lv p3, .second, lv p4, .second, lv p5, .second, lv p6, .second, iv cn, lv fs, .second, .unset, .unset, .unset, .unset] [(.int (own_t2 ob p1 p2 p3 p4 p5 p6 cn fs d1)), (.int d1)])) S0 := fun t hk => K16 t (own_t2_s X11 hx hby hown hZ hw ob p1 p2 p3 p4 p5 p6 cn fs d1 _ rfl hk)
  have K18 : own_R p e below (T11.setTop (mkF m 51 #[rv ob, iv p1, lv p2, .second, lv p3, .second, lv p4, .second, lv p5, .second, lv p6, .second, iv cn, lv fs, .second, .unset, .unset, .unset, .unset] [(.int (d1 ||| (own_t2 ob p1 p2 p3 p4 p5 p6 cn fs d1)))])) S0 := by
    intro t hk
    refine K17 t ?_
    show Steps p.tables e below (T11.setTop (mkF m 50 #[rv ob, iv p1, lv p2, .second, lv p3, .second, lv p4, .second, lv p5, .second, lv p6, .second, iv cn, lv fs, .second, .unset, .unset, .unset, .unset] [(.int (own_t2 ob p1 p2 p3 p4 p5 p6 cn fs d1)), (.int d1)])) _
    refine XS.ior X11.here hx rfl (hb hby d17_50) rfl ?_
    exact hk
  obtain ⟨dr, hdr⟩ : ∃ z_, z_ = (d1 ||| (own_t2 ob p1 p2 p3 p4 p5 p6 cn fs d1)) := ⟨_, rfl⟩
  have K19 : own_R p e below (T11.setTop (mkF m 51 #[rv ob, iv p1, lv p2, .second, lv p3, .second, lv p4, .second, lv p5, .second, lv p6, .second, iv cn, lv fs, .second, .unset, .unset, .unset, .unset] [(.int dr)])) S0 := by rw [hdr]; exact K18
  have K20 : own_R p e below (T11.setTop (mkF m 53 #[rv ob, iv p1, lv p2, .second, lv p3, .second, lv p4, .second, lv p5, .second, lv p6, .second, iv cn, lv fs, .second, iv dr, .unset, .unset, .unset] [])) S0 := by
    intro t hk
    refine K19 t ?_
    show Steps p.tables e below (T11.setTop (mkF m 51 #[rv ob, iv p1, lv p2, .second, lv p3, .second, lv p4, .second, lv p5, .second, lv p6, .second, iv cn, lv fs, .second, .unset, .unset, .unset, .unset] [(.int dr)])) _
    refine XS.istore X11.here hx rfl (hb hby d17_51) rfl (l' := #[rv ob, iv p1, lv p2, .second, lv p3, .second, lv p4, .second, lv p5, .second, lv p6, .second, iv cn, lv fs, .second, iv dr, .unset, .unset, .unset]) rfl ?_
    exact hk
  have K21 : own_R p e below (T11.setTop (mkF m 68 #[rv ob, iv p1, lv p2, .second, lv p3, .second, lv p4, .second, lv p5, .second, lv p6, .second, iv cn, lv fs, .second, iv dr, .unset, .unset, .unset] [(.long (own_t3 ob p1 p2 p3 p4 p5 p6 cn fs dr))])) S0 := fun t hk => K20 t (own_t3_s X11 hx hby hown hZ hw ob p1 p2 p3 p4 p5 p6 cn fs dr _ rfl hk)
  obtain ⟨mg, hmg⟩ : ∃ z_, z_ = (own_t3 ob p1 p2 p3 p4 p5 p6 cn fs dr) := ⟨_, rfl⟩
  have K22 : own_R p e below (T11.setTop (mkF m 68 #[rv ob, iv p1, lv p2, .second, lv p3, .second, lv p4, .second, lv p5, .second, lv p6, .second, iv cn, lv fs, .second, iv dr, .unset, .unset, .unset] [(.long mg)])) S0 := by rw [hmg]; exact K21
  have K23 : own_R p e below (T11.setTop (mkF m 70 #[rv ob, iv p1, lv p2, .second, lv p3, .second, lv p4, .second, lv p5, .second, lv p6, .second, iv cn, lv fs, .second, iv dr, lv mg, .second, .unset] [])) S0 := by
    intro t hk
    refine K22 t ?_
    show Steps p.tables e below (T11.setTop (mkF m 68 #[rv ob, iv p1, lv p2, .second, lv p3, .second, lv p4, .second, lv p5, .second, lv p6, .second, iv cn, lv fs, .second, iv dr, .unset, .unset, .unset] [(.long mg)])) _
    refine XS.lstore X11.here hx rfl (hb hby d17_68) rfl (l' := #[rv ob, iv p1, lv p2, .second, lv p3, .second, lv p4, .second, lv p5, .second, lv p6, .second, iv cn, lv fs, .second, iv dr, lv mg, .second, .unset]) rfl ?_
    exact hk
  have K24 : own_R p e below (T11.setTop (mkF m 91 #[rv ob, iv p1, lv p2, .second, lv p3, .second, lv p4, .second, lv p5, .second, lv p6, .second, iv cn, lv fs, .second, iv dr, lv mg, .second, .unset] [(.int (own_t4 ob p1 p2 p3 p4 p5 p6 cn fs dr mg))])) S0 := fun t hk => K23 t (own_t4_s X11 hx hby hown hZ hw ob p1 p2 p3 p4 p5 p6 cn fs dr mg _ rfl hk)
  obtain ⟨sm, hsm⟩ : ∃ z_, z_ = (own_t4 ob p1 p2 p3 p4 p5 p6 cn fs dr mg) := ⟨_, rfl⟩
  have K25 : own_R p e below (T11.setTop (mkF m 91 #[rv ob, iv p1, lv p2, .second, lv p3, .second, lv p4, .second, lv p5, .second, lv p6, .second, iv cn, lv fs, .second, iv dr, lv mg, .second, .unset] [(.int sm)])) S0 := by rw [hsm]; exact K24
  have K26 : own_R p e below (T11.setTop (mkF m 110 #[rv ob, iv p1, lv p2, .second, lv p3, .second, lv p4, .second, lv p5, .second, lv p6, .second, iv cn, lv fs, .second, iv dr, lv mg, .second, iv sm] [(.int (dr ||| sm)), (.long mg), (.long fs), (.long p4), (.long p3), (.int p1), (.int cn), (.ref ob)])) S0 := by
    intro t hk
    refine K25 t ?_
    show Steps p.tables e below (T11.setTop (mkF m 91 #[rv ob, iv p1, lv p2, .second, lv p3, .second, lv p4, .second, lv p5, .second, lv p6, .second, iv cn, lv fs, .second, iv dr, lv mg, .second, .unset] [(.int sm)])) _
    refine XS.istore X11.here hx rfl (hb hby d17_91) rfl (l' := #[rv ob, iv p1, lv p2, .second, lv p3, .second, lv p4, .second, lv p5, .second, lv p6, .second, iv cn, lv fs, .second, iv dr, lv mg, .second, iv sm]) rfl ?_
    refine XS.aloadN X11.here hx rfl (hb hby d17_93) rfl rfl ?_
    refine XS.iload X11.here hx rfl (hb hby d17_94) rfl ?_
    refine XS.iloadN X11.here hx rfl (hb hby d17_96) rfl ?_
    refine XS.lload X11.here hx rfl (hb hby d17_97) rfl ?_
    refine XS.lload X11.here hx rfl (hb hby d17_99) rfl ?_
    refine XS.lload X11.here hx rfl (hb hby d17_101) rfl ?_
    refine XS.lload X11.here hx rfl (hb hby d17_103) rfl ?_
    refine XS.iload X11.here hx rfl (hb hby d17_105) rfl ?_
    refine XS.iload X11.here hx rfl (hb hby d17_107) rfl ?_
    refine XS.ior X11.here hx rfl (hb hby d17_109) rfl ?_
    exact hk
  obtain ⟨kd, hkd⟩ : ∃ z_, z_ = (dr ||| sm) := ⟨_, rfl⟩
  have K27 : own_R p e below (T11.setTop (mkF m 110 #[rv ob, iv p1, lv p2, .second, lv p3, .second, lv p4, .second, lv p5, .second, lv p6, .second, iv cn, lv fs, .second, iv dr, lv mg, .second, iv sm] [(.int kd), (.long mg), (.long fs), (.long p4), (.long p3), (.int p1), (.int cn), (.ref ob)])) S0 := by rw [hkd]; exact K26
  obtain ⟨cq28, q28, r28⟩ := (own_pE Gq2).cell
  obtain ⟨_, _, ⟨T28, L28, k28, n28⟩, -, X28, ⟨Lc28, hQ28, l28, y28, z28⟩, st28⟩ := X11.privateBack hx (y := (⟨"com/example/bitrun/bitrun/orc/intv2/Segments", "set", "(IIJJJJI)V"⟩ : MethodName)) hown (mvT hZ (hw _ (List.mem_of_getElem? (i := 106) rfl))) (mvT hZ (hw _ (List.mem_of_getElem? (i := 107) rfl))) (own_selp hZ (hw _ (List.mem_of_getElem? (i := 108) rfl)) (hw _ (List.mem_of_getElem? (i := 107) rfl)) (by decide) (hw _ (List.mem_of_getElem? (i := 37) rfl)) rfl) (Cond.privateMethod_at (mvP hZ (hw _ (List.mem_of_getElem? (i := 108) rfl)) (args := #[]))) (mvT hZ (hw _ (List.mem_of_getElem? (i := 109) rfl))) (by decide) (backOf (W := 0) (rm19 l Z a0 hw [] ob cn p1 p3 p4 fs mg kd va vb vl vh vf vg vs kv kb kl kh kf kg ks fl nn nb VV (cn + (1 : Int32)) VB VL VH VF VG VS T2.heap n0 (Nat.le_trans Z0 Kp3.1) hO Gq2 hcn) hZ (hw _ (List.mem_of_getElem? (i := 109) rfl)) (hw _ (List.mem_of_getElem? (i := 4) rfl)) (by decide) (by decide)) (g := (mkF m 110 #[rv ob, iv p1, lv p2, .second, lv p3, .second, lv p4, .second, lv p5, .second, lv p6, .second, iv cn, lv fs, .second, iv dr, lv mg, .second, iv sm] [(.int kd), (.long mg), (.long fs), (.long p4), (.long p3), (.int p1), (.int cn), (.ref ob)])) rfl (by rw [hml]; rfl) (Steps.refl _) (a := ob) (by rw [e11]; exact q28) r28 (argsL := [(.int cn), (.int p1), (.long p3), (.long p4), (.long fs), (.long mg), (.int kd)]) (rest := []) (lenOf (by decide +kernel : parseMethodDescriptor "(IIJJJJI)V" = some ⟨[.int, .int, .long, .long, .long, .long, .int], none⟩) rfl) rfl (by show 2 * 0 + _ ≤ _; exact Nat.le_of_eq rfl) (hb hby d17_110) (fun _ _ => ⟨rfl, e11, (by decide : 0 + 0 + 0 + 0 ≤ _), (by decide : 0 + 0 + 0 + 0 ≤ _)⟩)
  dsimp only [Pt.U, Pt.locs, Pt.cells, Pt.slots] at X28 l28 y28 z28 st28 hQ28
  replace y28 := y28.symm; replace z28 := z28.symm; subst l28 y28 z28
  obtain ⟨rfl, Nq28, Kq28, Gq28⟩ := hQ28
  have N28 := Fr.app N11 Nq28
  have K28 : own_R p e below (T28.setTop (mkF m 113 #[rv ob, iv p1, lv p2, .second, lv p3, .second, lv p4, .second, lv p5, .second, lv p6, .second, iv cn, lv fs, .second, iv dr, lv mg, .second, iv sm] [])) S0 := fun t hk => K27 t (st28.trans hk)
  have Kp29 := Kp3.trans Kq28 (fun x hx => Or.inl hx)
  have K30 : own_R p e below (T28.setTop (mkF m 116 #[rv ob, iv p1, lv p2, .second, lv p3, .second, lv p4, .second, lv p5, .second, lv p6, .second, iv cn, lv fs, .second, iv dr, lv mg, .second, iv sm] [(.long p2), (.long p4)])) S0 := by
    intro t hk
    refine K28 t ?_
    show Steps p.tables e below (T28.setTop (mkF m 113 #[rv ob, iv p1, lv p2, .second, lv p3, .second, lv p4, .second, lv p5, .second, lv p6, .second, iv cn, lv fs, .second, iv dr, lv mg, .second, iv sm] [])) _
    refine XS.lload X28.here hx rfl (hb hby d17_113) rfl ?_
    refine XS.lloadN X28.here hx rfl (hb hby d17_115) rfl ?_
    exact hk
  obtain ⟨_, _, ⟨T31, L31, k31, n31⟩, -, X31, ⟨Lc31, hQ31, l31, y31, z31⟩, st31⟩ := Jvm.LawKit.callS X28 hx (y := (⟨"java/lang/Math", "max", "(JJ)J"⟩ : MethodName)) hown (mvT hZ (hw _ (List.mem_of_getElem? (i := 94) rfl))) (mvT hZ (hw _ (List.mem_of_getElem? (i := 95) rfl))) (mvT hZ (hw _ (List.mem_of_getElem? (i := 49) rfl))) (mvT hZ (hw _ (List.mem_of_getElem? (i := 96) rfl))) (by decide) (backOf (W := 0) (rm16 l Z a0 hw [] p4 p2  T28.heap n0 (Nat.le_trans Z0 Kp29.1) ) hZ (hw _ (List.mem_of_getElem? (i := 96) rfl)) (hw _ (List.mem_of_getElem? (i := 49) rfl)) (by decide) (by decide)) (g := (mkF m 116 #[rv ob, iv p1, lv p2, .second, lv p3, .second, lv p4, .second, lv p5, .second, lv p6, .second, iv cn, lv fs, .second, iv dr, lv mg, .second, iv sm] [(.long p2), (.long p4)])) rfl (by rw [hml]; rfl) (argsL := [(.long p4), (.long p2)]) (rest := []) (lenOf (by decide +kernel : parseMethodDescriptor "(JJ)J" = some ⟨[.long, .long], (some .long)⟩) rfl) rfl (by show 2 * 0 + _ ≤ _; exact Nat.le_of_eq rfl) (hb hby d17_116) (fun _ _ => ⟨rfl, rfl, (by decide : 0 + 0 + 0 + 0 + 0 ≤ _), (by decide : 0 + 0 + 0 + 0 + 0 ≤ _)⟩)
  dsimp only [Pt.U, Pt.locs, Pt.cells, Pt.slots] at X31 l31 y31 z31 st31 hQ31
  replace y31 := y31.symm; replace z31 := z31.symm; subst l31 y31 z31
  obtain ⟨rfl, Nq31, e31⟩ := hQ31
  have N31 := Fr.app N28 Nq31
  have K31 : own_R p e below (T31.setTop (mkF m 119 #[rv ob, iv p1, lv p2, .second, lv p3, .second, lv p4, .second, lv p5, .second, lv p6, .second, iv cn, lv fs, .second, iv dr, lv mg, .second, iv sm] [(.long (own_f16_0 p4 p2))])) S0 := fun t hk => K30 t (st31 _ hk)
  have K32 : own_R p e below (T31.setTop (mkF m 122 #[rv ob, iv p1, lv p2, .second, lv p3, .second, lv p4, .second, lv p5, .second, lv p6, .second, iv cn, lv fs, .second, iv dr, lv mg, .second, iv sm] [(.long p2), (.long p3), (.long (own_f16_0 p4 p2))])) S0 := by
    intro t hk
    refine K31 t ?_
    show Steps p.tables e below (T31.setTop (mkF m 119 #[rv ob, iv p1, lv p2, .second, lv p3, .second, lv p4, .second, lv p5, .second, lv p6, .second, iv cn, lv fs, .second, iv dr, lv mg, .second, iv sm] [(.long (own_f16_0 p4 p2))])) _
    refine XS.lload X31.here hx rfl (hb hby d17_119) rfl ?_
    refine XS.lloadN X31.here hx rfl (hb hby d17_121) rfl ?_
    exact hk
  obtain ⟨_, _, ⟨T33, L33, k33, n33⟩, -, X33, ⟨Lc33, hQ33, l33, y33, z33⟩, st33⟩ := Jvm.LawKit.callS X31 hx (y := (⟨"java/lang/Math", "min", "(JJ)J"⟩ : MethodName)) hown (mvT hZ (hw _ (List.mem_of_getElem? (i := 91) rfl))) (mvT hZ (hw _ (List.mem_of_getElem? (i := 92) rfl))) (mvT hZ (hw _ (List.mem_of_getElem? (i := 49) rfl))) (mvT hZ (hw _ (List.mem_of_getElem? (i := 93) rfl))) (by decide) (backOf (W := 2) (rm15 l Z a0 hw [] p3 p2  T28.heap n0 (Nat.le_trans Z0 Kp29.1) ) hZ (hw _ (List.mem_of_getElem? (i := 93) rfl)) (hw _ (List.mem_of_getElem? (i := 49) rfl)) (by decide) (by decide)) (g := (mkF m 122 #[rv ob, iv p1, lv p2, .second, lv p3, .second, lv p4, .second, lv p5, .second, lv p6, .second, iv cn, lv fs, .second, iv dr, lv mg, .second, iv sm] [(.long p2), (.long p3), (.long (own_f16_0 p4 p2))])) rfl (by rw [hml]; rfl) (argsL := [(.long p3), (.long p2)]) (rest := [(.long (own_f16_0 p4 p2))]) (lenOf (by decide +kernel : parseMethodDescriptor "(JJ)J" = some ⟨[.long, .long], (some .long)⟩) rfl) rfl (by show 2 * 0 + _ ≤ _; exact Nat.le_of_eq rfl) (hb hby d17_122) (fun _ _ => ⟨rfl, e31, (by decide : 0 + 0 + 0 + 0 + 0 + 0 ≤ _), (by decide : 0 + 0 + 0 + 0 + 0 + 0 ≤ _)⟩)
  dsimp only [Pt.U, Pt.locs, Pt.cells, Pt.slots] at X33 l33 y33 z33 st33 hQ33
  replace y33 := y33.symm; replace z33 := z33.symm; subst l33 y33 z33
  obtain ⟨rfl, Nq33, e33⟩ := hQ33
  have N33 := Fr.app N31 Nq33
  have K33 : own_R p e below (T33.setTop (mkF m 125 #[rv ob, iv p1, lv p2, .second, lv p3, .second, lv p4, .second, lv p5, .second, lv p6, .second, iv cn, lv fs, .second, iv dr, lv mg, .second, iv sm] [(.long (own_f15_0 p3 p2)), (.long (own_f16_0 p4 p2))])) S0 := fun t hk => K32 t (st33 _ hk)
  have K34 : own_R p e below (T33.setTop (mkF m 128 #[rv ob, iv p1, lv p2, .second, lv p3, .second, lv p4, .second, lv p5, .second, lv p6, .second, iv cn, lv fs, .second, iv dr, lv mg, .second, iv sm] [(.int (lcmpW ((own_f16_0 p4 p2) - (own_f15_0 p3 p2)) (0 : Int64)))])) S0 := by
    intro t hk
    refine K33 t ?_
    show Steps p.tables e below (T33.setTop (mkF m 125 #[rv ob, iv p1, lv p2, .second, lv p3, .second, lv p4, .second, lv p5, .second, lv p6, .second, iv cn, lv fs, .second, iv dr, lv mg, .second, iv sm] [(.long (own_f15_0 p3 p2)), (.long (own_f16_0 p4 p2))])) _
    refine XS.lsub X33.here hx rfl (hb hby d17_125) rfl ?_
    refine XS.lconst X33.here hx rfl (hb hby d17_126) ?_
    refine XS.lcmp X33.here hx rfl (hb hby d17_127) rfl ?_
    exact hk
  by_cases hc128 : ((own_f16_0 p4 p2) - (own_f15_0 p3 p2)) < (0 : Int64)
  · have K35 : own_R p e below (T33.setTop (mkF m 131 #[rv ob, iv p1, lv p2, .second, lv p3, .second, lv p4, .second, lv p5, .second, lv p6, .second, iv cn, lv fs, .second, iv dr, lv mg, .second, iv sm] [])) S0 := by
      intro t hk
      refine K34 t ?_
      show Steps p.tables e below (T33.setTop (mkF m 128 #[rv ob, iv p1, lv p2, .second, lv p3, .second, lv p4, .second, lv p5, .second, lv p6, .second, iv cn, lv fs, .second, iv dr, lv mg, .second, iv sm] [(.int (lcmpW ((own_f16_0 p4 p2) - (own_f15_0 p3 p2)) (0 : Int64)))])) _
      refine XS.ifNo X33.here hx rfl (hb hby d17_128) rfl ((if0 _ _).trans (tlt ((lw_lt _ _).mpr hc128)).2.1) ?_
      exact hk
    have K36 : own_R p e below (T33.setTop (mkF m 135 #[rv ob, iv p1, lv p2, .second, lv p3, .second, lv p4, .second, lv p5, .second, lv p6, .second, iv cn, lv fs, .second, iv dr, lv mg, .second, iv sm] [(.long p2), (.int cn), (.ref ob)])) S0 := by
      intro t hk
      refine K35 t ?_
      show Steps p.tables e below (T33.setTop (mkF m 131 #[rv ob, iv p1, lv p2, .second, lv p3, .second, lv p4, .second, lv p5, .second, lv p6, .second, iv cn, lv fs, .second, iv dr, lv mg, .second, iv sm] [])) _
      refine XS.aloadN X33.here hx rfl (hb hby d17_131) rfl rfl ?_
      refine XS.iload X33.here hx rfl (hb hby d17_132) rfl ?_
      refine XS.lloadN X33.here hx rfl (hb hby d17_134) rfl ?_
      exact hk
    have hj := own_add1 cn (by omega)
    have z1 : (VB.set (cn + (1 : Int32)).toNatClampNeg (.int p1)).getD cn.toNatClampNeg (.int (0 : Int32)) = .int sx := (own_gs _ _ _ _ _ (by show (cn + (1 : Int32)).toInt.toNat ≠ cn.toInt.toNat; omega)).trans hsx
    have z2 : (VB.set (cn + (1 : Int32)).toNatClampNeg (.int p1)).getD (cn + (1 : Int32)).toNatClampNeg (.int (0 : Int32)) = .int p1 := own_ge _ _ _ _ (by rw [own_pL_vb hG]; exact own_cl _ _ (by omega))
    obtain ⟨cq37, q37, r37⟩ := (own_pE Gq28).cell
    obtain ⟨_, _, ⟨T37, L37, k37, n37⟩, -, X37, ⟨Lc37, hQ37, l37, y37, z37⟩, st37⟩ := X33.privateBack hx (y := (⟨"com/example/bitrun/bitrun/orc/intv2/Segments", "wrappedSteps", "(IJ)V"⟩ : MethodName)) hown (mvT hZ (hw _ (List.mem_of_getElem? (i := 110) rfl))) (mvT hZ (hw _ (List.mem_of_getElem? (i := 111) rfl))) (own_selp hZ (hw _ (List.mem_of_getElem? (i := 112) rfl)) (hw _ (List.mem_of_getElem? (i := 111) rfl)) (by decide) (hw _ (List.mem_of_getElem? (i := 37) rfl)) rfl) (Cond.privateMethod_at (mvP hZ (hw _ (List.mem_of_getElem? (i := 112) rfl)) (args := #[]))) (mvT hZ (hw _ (List.mem_of_getElem? (i := 113) rfl))) (by decide) (backOf (W := 0) (rm20 l Z a0 hw [] ob cn p2 va vb vl vh vf vg vs kv kb kl kh kf kg ks fl nn nb VV (cn + (1 : Int32)) (VB.set (cn + (1 : Int32)).toNatClampNeg (.int p1)) (VL.set cn.toNatClampNeg (.long p3)) (VH.set cn.toNatClampNeg (.long p4)) (VF.set cn.toNatClampNeg (.long fs)) (VG.set cn.toNatClampNeg (.long mg)) (VS.set cn.toNatClampNeg (.int (nar .byte (kd.toInt8.toInt32)))) T28.heap n0 (Nat.le_trans Z0 Kp29.1) hO Gq28 hcn sx p1 z1 z2 hs) hZ (hw _ (List.mem_of_getElem? (i := 113) rfl)) (hw _ (List.mem_of_getElem? (i := 4) rfl)) (by decide) (by decide)) (g := (mkF m 135 #[rv ob, iv p1, lv p2, .second, lv p3, .second, lv p4, .second, lv p5, .second, lv p6, .second, iv cn, lv fs, .second, iv dr, lv mg, .second, iv sm] [(.long p2), (.int cn), (.ref ob)])) rfl (by rw [hml]; rfl) (Steps.refl _) (a := ob) (by rw [e33]; exact q37) r37 (argsL := [(.int cn), (.long p2)]) (rest := []) (lenOf (by decide +kernel : parseMethodDescriptor "(IJ)V" = some ⟨[.int, .long], none⟩) rfl) rfl (by show 2 * 0 + _ ≤ _; exact Nat.le_of_eq rfl) (hb hby d17_135) (fun _ _ => ⟨rfl, e33, (by decide : 0 + 0 + 0 + 0 + 0 + 0 + 0 ≤ _), (by decide : 0 + 0 + 0 + 0 + 0 + 0 + 0 ≤ _)⟩)
    dsimp only [Pt.U, Pt.locs, Pt.cells, Pt.slots] at X37 l37 y37 z37 st37 hQ37
    replace y37 := y37.symm; replace z37 := z37.symm; subst l37 y37 z37
    obtain ⟨rfl, Nq37, Kq37, ⟨x4, x5, Gq37⟩⟩ := hQ37
    have N37 := Fr.app N33 Nq37
    have K37 : own_R p e below (T37.setTop (mkF m 138 #[rv ob, iv p1, lv p2, .second, lv p3, .second, lv p4, .second, lv p5, .second, lv p6, .second, iv cn, lv fs, .second, iv dr, lv mg, .second, iv sm] [])) S0 := fun t hk => K36 t (st37.trans hk)
    have Kp38 := Kp29.trans Kq37 (fun x hx => Or.inl hx)
    rw [List.set_set, List.set_set] at Gq37
    have KP : Keep h0 T37.heap [ob, vb, vl, vh, vf, vg, vs] := Kp38
    have GG : ∃ x1 x2 x3 x4 x5, own_G Z T37.heap ob va vb vl vh vf vg vs kv kb kl kh kf kg ks fl nn nb VV (.ref va) (cn + (1 : Int32)) (VB.set (cn + (1 : Int32)).toNatClampNeg (.int p1)) (VL.set cn.toNatClampNeg (.long x1)) (VH.set cn.toNatClampNeg (.long x2)) (VF.set cn.toNatClampNeg (.long x3)) (VG.set cn.toNatClampNeg (.long x4)) (VS.set cn.toNatClampNeg (.int x5)) := ⟨_, _, _, _, _, Gq37⟩
    obtain ⟨fs, hr, hrun, hended, hW, hsame⟩ := X37.leave (v := none) (fun _ => rfl) Bd.notSynchronized
    exact ⟨_, _, K37 _ (X37.returnOut hx Bd.returns (hb hby d17_138) hr), hrun, hended, _, _, rfl, ⟨rfl, N37, KP, GG⟩, ⟨_, rfl⟩, hW, hsame.mono (by decide) (by decide)⟩
  · have K39 : own_R p e below (T33.setTop (mkF m 138 #[rv ob, iv p1, lv p2, .second, lv p3, .second, lv p4, .second, lv p5, .second, lv p6, .second, iv cn, lv fs, .second, iv dr, lv mg, .second, iv sm] [])) S0 := by
      intro t hk
      refine K34 t ?_
      show Steps p.tables e below (T33.setTop (mkF m 128 #[rv ob, iv p1, lv p2, .second, lv p3, .second, lv p4, .second, lv p5, .second, lv p6, .second, iv cn, lv fs, .second, iv dr, lv mg, .second, iv sm] [(.int (lcmpW ((own_f16_0 p4 p2) - (own_f15_0 p3 p2)) (0 : Int64)))])) _
      refine XS.ifYes X33.here hx rfl (pc0 := 128) (pc' := 138) rfl (hb hby d17_128) rfl ((if0 _ _).trans (flt (fun q => hc128 ((lw_lt _ _).mp q))).2.1) (by decide) (by decide) ?_
      exact hk
    have KP : Keep h0 T33.heap [ob, vb, vl, vh, vf, vg, vs] := by rw [e33]; exact Kp29
    have GG : ∃ x1 x2 x3 x4 x5, own_G Z T33.heap ob va vb vl vh vf vg vs kv kb kl kh kf kg ks fl nn nb VV (.ref va) (cn + (1 : Int32)) (VB.set (cn + (1 : Int32)).toNatClampNeg (.int p1)) (VL.set cn.toNatClampNeg (.long x1)) (VH.set cn.toNatClampNeg (.long x2)) (VF.set cn.toNatClampNeg (.long x3)) (VG.set cn.toNatClampNeg (.long x4)) (VS.set cn.toNatClampNeg (.int x5)) := by rw [e33]; exact ⟨_, _, _, _, _, Gq28⟩
    obtain ⟨fs, hr, hrun, hended, hW, hsame⟩ := X33.leave (v := none) (fun _ => rfl) Bd.notSynchronized
    exact ⟨_, _, K39 _ (X33.returnOut hx Bd.returns (hb hby d17_138) hr), hrun, hended, _, _, rfl, ⟨rfl, N33, KP, GG⟩, ⟨_, rfl⟩, hW, hsame.mono (by decide) (by decide)⟩
theorem d12_0 : decode prog_74_method_11_code 0 = .ok (.aload_n 0, 1) := by decide +kernel
theorem d12_1 : decode prog_74_method_11_code 1 = .ok (.getfield 59, 3) := by decide +kernel
theorem d12_4 : decode prog_74_method_11_code 4 = .ok (.astore_n 2, 1) := by decide +kernel
theorem d12_5 : decode prog_74_method_11_code 5 = .ok (.aload_n 0, 1) := by decide +kernel
theorem d12_6 : decode prog_74_method_11_code 6 = .ok (.getfield 20, 3) := by decide +kernel
theorem d12_9 : decode prog_74_method_11_code 9 = .ok (.lstore_n 3, 1) := by decide +kernel
theorem d12_10 : decode prog_74_method_11_code 10 = .ok (.aload_n 0, 1) := by decide +kernel
theorem d12_11 : decode prog_74_method_11_code 11 = .ok (.invokevirtual 68, 3) := by decide +kernel
theorem d12_14 : decode prog_74_method_11_code 14 = .ok (.lstore 5, 2) := by decide +kernel
theorem d12_16 : decode prog_74_method_11_code 16 = .ok (.lload 5, 2) := by decide +kernel
theorem d12_18 : decode prog_74_method_11_code 18 = .ok (.lstore 7, 2) := by decide +kernel
theorem d12_20 : decode prog_74_method_11_code 20 = .ok (.ldc2_w 72, 3) := by decide +kernel
theorem d12_23 : decode prog_74_method_11_code 23 = .ok (.lstore 9, 2) := by decide +kernel
theorem d12_25 : decode prog_74_method_11_code 25 = .ok (.ldc2_w 18, 3) := by decide +kernel
theorem d12_28 : decode prog_74_method_11_code 28 = .ok (.lstore 11, 2) := by decide +kernel
theorem d12_30 : decode prog_74_method_11_code 30 = .ok (.ldc2_w 72, 3) := by decide +kernel
theorem d12_33 : decode prog_74_method_11_code 33 = .ok (.lstore 13, 2) := by decide +kernel
theorem d12_35 : decode prog_74_method_11_code 35 = .ok (.ldc2_w 18, 3) := by decide +kernel
theorem d12_38 : decode prog_74_method_11_code 38 = .ok (.lstore 15, 2) := by decide +kernel
theorem d12_40 : decode prog_74_method_11_code 40 = .ok (.aload_n 0, 1) := by decide +kernel
theorem d12_41 : decode prog_74_method_11_code 41 = .ok (.getfield 27, 3) := by decide +kernel
theorem d12_44 : decode prog_74_method_11_code 44 = .ok (.aload_n 0, 1) := by decide +kernel
theorem d12_45 : decode prog_74_method_11_code 45 = .ok (.getfield 64, 3) := by decide +kernel
theorem d12_48 : decode prog_74_method_11_code 48 = .ok (.iaload, 1) := by decide +kernel
theorem d12_49 : decode prog_74_method_11_code 49 = .ok (.istore 17, 2) := by decide +kernel
theorem d12_51 : decode prog_74_method_11_code 51 = .ok (.iload 17, 2) := by decide +kernel
theorem d12_53 : decode prog_74_method_11_code 53 = .ok (.iload_n 1, 1) := by decide +kernel
theorem d12_54 : decode prog_74_method_11_code 54 = .ok (.if_icmp .ge 64, 3) := by decide +kernel
theorem d12_57 : decode prog_74_method_11_code 57 = .ok (.aload_n 2, 1) := by decide +kernel
theorem d12_58 : decode prog_74_method_11_code 58 = .ok (.iload 17, 2) := by decide +kernel
theorem d12_60 : decode prog_74_method_11_code 60 = .ok (.laload, 1) := by decide +kernel
theorem d12_61 : decode prog_74_method_11_code 61 = .ok (.lload_n 3, 1) := by decide +kernel
theorem d12_62 : decode prog_74_method_11_code 62 = .ok (.lxor, 1) := by decide +kernel
theorem d12_63 : decode prog_74_method_11_code 63 = .ok (.lstore 18, 2) := by decide +kernel
theorem d12_65 : decode prog_74_method_11_code 65 = .ok (.lload 18, 2) := by decide +kernel
theorem d12_67 : decode prog_74_method_11_code 67 = .ok (.lload 7, 2) := by decide +kernel
theorem d12_69 : decode prog_74_method_11_code 69 = .ok (.lsub, 1) := by decide +kernel
theorem d12_70 : decode prog_74_method_11_code 70 = .ok (.lstore 20, 2) := by decide +kernel
theorem d12_72 : decode prog_74_method_11_code 72 = .ok (.lload 9, 2) := by decide +kernel
theorem d12_74 : decode prog_74_method_11_code 74 = .ok (.lload 18, 2) := by decide +kernel
theorem d12_76 : decode prog_74_method_11_code 76 = .ok (.invokestatic 74, 3) := by decide +kernel
theorem d12_79 : decode prog_74_method_11_code 79 = .ok (.lstore 9, 2) := by decide +kernel
theorem d12_81 : decode prog_74_method_11_code 81 = .ok (.lload 11, 2) := by decide +kernel
theorem d12_83 : decode prog_74_method_11_code 83 = .ok (.lload 18, 2) := by decide +kernel
theorem d12_85 : decode prog_74_method_11_code 85 = .ok (.invokestatic 80, 3) := by decide +kernel
theorem d12_88 : decode prog_74_method_11_code 88 = .ok (.lstore 11, 2) := by decide +kernel
theorem d12_90 : decode prog_74_method_11_code 90 = .ok (.lload 13, 2) := by decide +kernel
theorem d12_92 : decode prog_74_method_11_code 92 = .ok (.lload 20, 2) := by decide +kernel
theorem d12_94 : decode prog_74_method_11_code 94 = .ok (.invokestatic 74, 3) := by decide +kernel
theorem d12_97 : decode prog_74_method_11_code 97 = .ok (.lstore 13, 2) := by decide +kernel
theorem d12_99 : decode prog_74_method_11_code 99 = .ok (.lload 15, 2) := by decide +kernel
theorem d12_101 : decode prog_74_method_11_code 101 = .ok (.lload 20, 2) := by decide +kernel
theorem d12_103 : decode prog_74_method_11_code 103 = .ok (.invokestatic 80, 3) := by decide +kernel
theorem d12_106 : decode prog_74_method_11_code 106 = .ok (.lstore 15, 2) := by decide +kernel
theorem d12_108 : decode prog_74_method_11_code 108 = .ok (.lload 18, 2) := by decide +kernel
theorem d12_110 : decode prog_74_method_11_code 110 = .ok (.lstore 7, 2) := by decide +kernel
theorem d12_112 : decode prog_74_method_11_code 112 = .ok (.iinc 17 1, 3) := by decide +kernel
theorem d12_115 : decode prog_74_method_11_code 115 = .ok (.goto (-64), 3) := by decide +kernel
theorem d12_118 : decode prog_74_method_11_code 118 = .ok (.aload_n 0, 1) := by decide +kernel
theorem d12_119 : decode prog_74_method_11_code 119 = .ok (.iload_n 1, 1) := by decide +kernel
theorem d12_120 : decode prog_74_method_11_code 120 = .ok (.lload 5, 2) := by decide +kernel
theorem d12_122 : decode prog_74_method_11_code 122 = .ok (.lload 9, 2) := by decide +kernel
theorem d12_124 : decode prog_74_method_11_code 124 = .ok (.lload 11, 2) := by decide +kernel
theorem d12_126 : decode prog_74_method_11_code 126 = .ok (.lload 13, 2) := by decide +kernel
theorem d12_128 : decode prog_74_method_11_code 128 = .ok (.lload 15, 2) := by decide +kernel
theorem d12_130 : decode prog_74_method_11_code 130 = .ok (.invokevirtual 83, 3) := by decide +kernel
theorem d12_133 : decode prog_74_method_11_code 133 = .ok (.return_, 1) := by decide +kernel
theorem ef_12 (m : MethodId) (x0 : Addr) (x1 : Int32) : entryFrame m #[(.ref x0), (.int x1)] 22 = mkF m 0 #[rv x0, iv x1, .unset, .unset, .unset, .unset, .unset, .unset, .unset, .unset, .unset, .unset, .unset, .unset, .unset, .unset, .unset, .unset, .unset, .unset, .unset, .unset] [] := by first | (simp [entryFrame, mkF, argsToLocals, Value.category, maxLocals]; done) | rfl
theorem pn_12 : plainName "com/example/bitrun/bitrun/orc/intv2/Segments" = true := by first | (simp [plainName, overriddenIn]; done) | decide +kernel
def Q_rm12 (Z : State) (ob : Addr) (p1 : Int32) (va vb vl vh vf vg vs : Addr) (kv kb kl kh kf kg ks : ClassId) (fl : Int64) (nn nb : Int32) (VV : List Value) (cn : Int32) (VB VL VH VF VG VS : List Value) (h0 : Heap) (n0 : Nat) (v : Option Value) (h : Heap) (L : List Loc) : Prop := v = none ∧ Fr n0 L ∧ Keep h0 h [ob, vb, vl, vh, vf, vg, vs] ∧ ∃ x1 x2 x3 x4 x5, own_G Z h ob va vb vl vh vf vg vs kv kb kl kh kf kg ks fl nn nb VV (.ref va) (cn + (1 : Int32)) (VB.set (cn + (1 : Int32)).toNatClampNeg (.int p1)) (VL.set cn.toNatClampNeg (.long x1)) (VH.set cn.toNatClampNeg (.long x2)) (VF.set cn.toNatClampNeg (.long x3)) (VG.set cn.toNatClampNeg (.long x4)) (VS.set cn.toNatClampNeg (.int x5))
set_option maxRecDepth 65536 in
set_option maxHeartbeats 40000000 in
theorem rm12 (l : Launch) (Z : State) (a0 : Array Value) (hw : ∀ d ∈ tables_1, d.before a0 Z = true) (ws : List Jvm.Cond) (ob : Addr) (p1 : Int32) (va vb vl vh vf vg vs : Addr) (kv kb kl kh kf kg ks : ClassId) (fl : Int64) (nn nb : Int32) (VV : List Value) (cn : Int32) (VB VL VH VF VG VS : List Value) (h0 : Heap) (n0 : Nat) (Z0 : n0 ≤ h0.size) (hO : own_O n0 ob va vb vl vh vf vg vs nn nb) (hG : own_G Z h0 ob va vb vl vh vf vg vs kv kb kl kh kf kg ks fl nn nb VV (.ref va) cn VB VL VH VF VG VS) (hcn : 0 ≤ cn.toInt ∧ cn.toInt < nn.toInt) (sx : Int32) (hsx : VB.getD cn.toNatClampNeg (.int (0 : Int32)) = .int sx) (hs : 0 ≤ sx.toInt ∧ p1.toInt = sx.toInt + 2 ∧ p1.toInt ≤ 6) (hs1 : ¬ cn = (0 : Int32) → 1 ≤ sx.toInt) :
    MetFree l (⟨"com/example/bitrun/bitrun/orc/intv2/Segments", "summarise", "(I)V"⟩ : MethodName) (head1 (Jvm.Cond.code (⟨"com/example/bitrun/bitrun/orc/intv2/Segments", "summarise", "(I)V"⟩ : MethodName) prog_74_method_11_code 22 none :: ws) ({ frames := 3, cells := 0, slots := 0, locals := 71 } : Room)) (fun a U => a = #[(.ref ob), (.int p1)] ∧ Z.Warmed39 U.vm ∧ U.heap = h0) (fun _ _ _ _ _ => True) (fun _ U o U' => ∃ v L, o = .returned v ∧ Q_rm12 Z ob p1 va vb vl vh vf vg vs kv kb kl kh kf kg ks fl nn nb VV cn VB VL VH VF VG VS h0 n0 v U'.heap L ∧ FrameEnd U o U' L ({ frames := 3, cells := 0, slots := 0, locals := 71 } : Room).cells ({ frames := 3, cells := 0, slots := 0, locals := 71 } : Room).slots) := by
  refine MetFree.of_bodySF (plainFor_of_name pn_12) hisR ?_
  intro p e s m args below meth c s₁ Bd hml0 hP hK
  obtain ⟨rfl, hZ, hh⟩ := hP
  have hx := Bd.exec
  have hby := Bd.bytes
  have hml : c.maxLocals = 22 := hml0
  have hown : s.vm.findClass "com/example/bitrun/bitrun/orc/intv2/Segments" = some m.cls := findClass_of_methodNamed Bd.named
  have hnm := (name_of_methodNamed Bd.named Bd.method).1
  have X0 : Stand p l e ({ frames := 3, cells := 0, slots := 0, locals := 71 } : Room) s m #[(.ref ob), (.int p1)] below meth c s₁ [] 0 0 := Stand.of_body Bd
  have e0 : s₁.heap = h0 := by rw [← hh, Bd.state]; rfl
  have N0 := Fr.nil n0
  have pre0 : ∀ t, Steps p.tables e below (s₁.setTop (mkF m 0 #[rv ob, iv p1, .unset, .unset, .unset, .unset, .unset, .unset, .unset, .unset, .unset, .unset, .unset, .unset, .unset, .unset, .unset, .unset, .unset, .unset, .unset, .unset] [])) t → Steps p.tables e below (s₁.setTop (entryFrame m #[(.ref ob), (.int p1)] 22)) t := fun t k => castTop (ef_12 m ob p1) k
  obtain ⟨S0, hS0⟩ : ∃ z, z = (s₁.setTop (entryFrame m #[(.ref ob), (.int p1)] 22)) := ⟨_, rfl⟩
  rw [← hS0] at pre0 ⊢
  have K0 : own_R p e below (s₁.setTop (mkF m 0 #[rv ob, iv p1, .unset, .unset, .unset, .unset, .unset, .unset, .unset, .unset, .unset, .unset, .unset, .unset, .unset, .unset, .unset, .unset, .unset, .unset, .unset, .unset] [])) S0 := pre0
  obtain ⟨o1, o2, o3, o4, o5, o6, o7, o8, o9, o10, o11⟩ := id hO
  have t1 := own_add1 sx (by omega)
  have t2 := own_add1 (sx + (1 : Int32)) (by omega)
  have l0 : sx < p1 := Int32.lt_iff_toInt_lt.mpr (by omega)
  have l1 : (sx + (1 : Int32)) < p1 := Int32.lt_iff_toInt_lt.mpr (by omega)
  have l2 : ¬ (((sx + (1 : Int32)) + (1 : Int32)) < p1) := fun q => by have := Int32.lt_iff_toInt_lt.mp q; omega
  have K1 : own_R p e below (s₁.setTop (mkF m 1 #[rv ob, iv p1, .unset, .unset, .unset, .unset, .unset, .unset, .unset, .unset, .unset, .unset, .unset, .unset, .unset, .unset, .unset, .unset, .unset, .unset, .unset, .unset] [(.ref ob)])) S0 := by
    intro t hk
    refine K0 t ?_
    show Steps p.tables e below (s₁.setTop (mkF m 0 #[rv ob, iv p1, .unset, .unset, .unset, .unset, .unset, .unset, .unset, .unset, .unset, .unset, .unset, .unset, .unset, .unset, .unset, .unset, .unset, .unset, .unset, .unset] [])) _
    refine XS.aloadN X0.here hx rfl (hb hby d12_0) rfl rfl ?_
    exact hk
  obtain ⟨T2, X2, e2, st2⟩ := getF X0 hx hZ hown (host := "") (Or.inl (hw _ (List.mem_of_getElem? (i := 66) rfl))) Via.refl e0 (own_pF_values hG) (g := (mkF m 1 #[rv ob, iv p1, .unset, .unset, .unset, .unset, .unset, .unset, .unset, .unset, .unset, .unset, .unset, .unset, .unset, .unset, .unset, .unset, .unset, .unset, .unset, .unset] [(.ref ob)])) rfl rfl (hb hby d12_1)
  have K2 : own_R p e below (T2.setTop (mkF m 4 #[rv ob, iv p1, .unset, .unset, .unset, .unset, .unset, .unset, .unset, .unset, .unset, .unset, .unset, .unset, .unset, .unset, .unset, .unset, .unset, .unset, .unset, .unset] [(.ref va)])) S0 := fun t hk => K1 t (st2 _ hk)
  have K3 : own_R p e below (T2.setTop (mkF m 6 #[rv ob, iv p1, rv va, .unset, .unset, .unset, .unset, .unset, .unset, .unset, .unset, .unset, .unset, .unset, .unset, .unset, .unset, .unset, .unset, .unset, .unset, .unset] [(.ref ob)])) S0 := by
    intro t hk
    refine K2 t ?_
    show Steps p.tables e below (T2.setTop (mkF m 4 #[rv ob, iv p1, .unset, .unset, .unset, .unset, .unset, .unset, .unset, .unset, .unset, .unset, .unset, .unset, .unset, .unset, .unset, .unset, .unset, .unset, .unset, .unset] [(.ref va)])) _
    refine XS.astoreN X2.here hx rfl (hb hby d12_4) rfl rfl (l' := #[rv ob, iv p1, rv va, .unset, .unset, .unset, .unset, .unset, .unset, .unset, .unset, .unset, .unset, .unset, .unset, .unset, .unset, .unset, .unset, .unset, .unset, .unset]) rfl ?_
    refine XS.aloadN X2.here hx rfl (hb hby d12_5) rfl rfl ?_
    exact hk
  obtain ⟨T4, X4, e4, st4⟩ := getF X2 hx hZ hown (host := "") (Or.inl (hw _ (List.mem_of_getElem? (i := 17) rfl))) Via.refl e2 (own_pF_flip hG) (g := (mkF m 6 #[rv ob, iv p1, rv va, .unset, .unset, .unset, .unset, .unset, .unset, .unset, .unset, .unset, .unset, .unset, .unset, .unset, .unset, .unset, .unset, .unset, .unset, .unset] [(.ref ob)])) rfl rfl (hb hby d12_6)
  have K4 : own_R p e below (T4.setTop (mkF m 9 #[rv ob, iv p1, rv va, .unset, .unset, .unset, .unset, .unset, .unset, .unset, .unset, .unset, .unset, .unset, .unset, .unset, .unset, .unset, .unset, .unset, .unset, .unset] [(.long fl)])) S0 := fun t hk => K3 t (st4 _ hk)
  have K5 : own_R p e below (T4.setTop (mkF m 11 #[rv ob, iv p1, rv va, lv fl, .second, .unset, .unset, .unset, .unset, .unset, .unset, .unset, .unset, .unset, .unset, .unset, .unset, .unset, .unset, .unset, .unset, .unset] [(.ref ob)])) S0 := by
    intro t hk
    refine K4 t ?_
    show Steps p.tables e below (T4.setTop (mkF m 9 #[rv ob, iv p1, rv va, .unset, .unset, .unset, .unset, .unset, .unset, .unset, .unset, .unset, .unset, .unset, .unset, .unset, .unset, .unset, .unset, .unset, .unset, .unset] [(.long fl)])) _
    refine XS.lstoreN X4.here hx rfl (hb hby d12_9) rfl (l' := #[rv ob, iv p1, rv va, lv fl, .second, .unset, .unset, .unset, .unset, .unset, .unset, .unset, .unset, .unset, .unset, .unset, .unset, .unset, .unset, .unset, .unset, .unset]) rfl ?_
    refine XS.aloadN X4.here hx rfl (hb hby d12_10) rfl rfl ?_
    exact hk
  obtain ⟨cq6, kq6, q6a, q6b, q6c⟩ := isOf hZ e4 (own_pE hG)
  obtain ⟨_, _, ⟨T6, L6, k6, n6⟩, -, X6, ⟨Lc6, hQ6, l6, y6, z6⟩, st6⟩ := X4.virtualBack hx (y := (⟨"com/example/bitrun/bitrun/orc/intv2/Segments", "keyBeforeNext", "()J"⟩ : MethodName)) (z := (⟨"com/example/bitrun/bitrun/orc/intv2/Segments", "keyBeforeNext", "()J"⟩ : MethodName)) hown (mvT hZ (hw _ (List.mem_of_getElem? (i := 80) rfl))) (mvT hZ (hw _ (List.mem_of_getElem? (i := 81) rfl))) (notFace_of_selects (args := #[]) (mvT hZ (hw _ (List.mem_of_getElem? (i := 83) rfl)))) (mvT hZ (hw _ (List.mem_of_getElem? (i := 83) rfl))) (mvT hZ (hw _ (List.mem_of_getElem? (i := 82) rfl))) (by decide) (backOf (W := 0) (rm13 l Z a0 hw [] ob va vb vl vh vf vg vs kv kb kl kh kf kg ks fl nn nb VV cn VB VL VH VF VG VS h0 n0 Z0 hO hG hcn sx hsx (by omega) hs1) hZ (hw _ (List.mem_of_getElem? (i := 84) rfl)) (hw _ (List.mem_of_getElem? (i := 4) rfl)) (by decide) (by decide)) q6a q6c (g := (mkF m 11 #[rv ob, iv p1, rv va, lv fl, .second, .unset, .unset, .unset, .unset, .unset, .unset, .unset, .unset, .unset, .unset, .unset, .unset, .unset, .unset, .unset, .unset, .unset] [(.ref ob)])) rfl (by rw [hml]; rfl) (Steps.refl _) (argsL := []) (rest := []) (lenOf (by decide +kernel : parseMethodDescriptor "()J" = some ⟨[], (some .long)⟩) rfl) rfl (by show 2 * 0 + _ ≤ _; exact Nat.le_of_eq rfl) (hb hby d12_11) (fun _ _ => ⟨rfl, e4, (by decide : 0 + 0 ≤ _), (by decide : 0 + 0 ≤ _)⟩)
  dsimp only [Pt.U, Pt.locs, Pt.cells, Pt.slots] at X6 l6 y6 z6 st6 hQ6
  replace y6 := y6.symm; replace z6 := z6.symm; subst l6 y6 z6
  obtain ⟨⟨bf, rfl⟩, Nq6, e6⟩ := hQ6
  have N6 := Fr.app N0 Nq6
  have K6 : own_R p e below (T6.setTop (mkF m 14 #[rv ob, iv p1, rv va, lv fl, .second, .unset, .unset, .unset, .unset, .unset, .unset, .unset, .unset, .unset, .unset, .unset, .unset, .unset, .unset, .unset, .unset, .unset] [(.long bf)])) S0 := fun t hk => K5 t (st6.trans hk)
  have K7 : own_R p e below (T6.setTop (mkF m 41 #[rv ob, iv p1, rv va, lv fl, .second, lv bf, .second, lv bf, .second, lv (9223372036854775807 : Int64), .second, lv (-9223372036854775808 : Int64), .second, lv (9223372036854775807 : Int64), .second, lv (-9223372036854775808 : Int64), .second, .unset, .unset, .unset, .unset, .unset] [(.ref ob)])) S0 := by
    intro t hk
    refine K6 t ?_
    show Steps p.tables e below (T6.setTop (mkF m 14 #[rv ob, iv p1, rv va, lv fl, .second, .unset, .unset, .unset, .unset, .unset, .unset, .unset, .unset, .unset, .unset, .unset, .unset, .unset, .unset, .unset, .unset, .unset] [(.long bf)])) _
    refine XS.lstore X6.here hx rfl (hb hby d12_14) rfl (l' := #[rv ob, iv p1, rv va, lv fl, .second, lv bf, .second, .unset, .unset, .unset, .unset, .unset, .unset, .unset, .unset, .unset, .unset, .unset, .unset, .unset, .unset, .unset]) rfl ?_
    refine XS.lload X6.here hx rfl (hb hby d12_16) rfl ?_
    refine XS.lstore X6.here hx rfl (hb hby d12_18) rfl (l' := #[rv ob, iv p1, rv va, lv fl, .second, lv bf, .second, lv bf, .second, .unset, .unset, .unset, .unset, .unset, .unset, .unset, .unset, .unset, .unset, .unset, .unset, .unset]) rfl ?_
    refine X6.ldc2Long hx hown (mvT hZ (hw _ (List.mem_of_getElem? (i := 90) rfl))) (g := (mkF m 20 #[rv ob, iv p1, rv va, lv fl, .second, lv bf, .second, lv bf, .second, .unset, .unset, .unset, .unset, .unset, .unset, .unset, .unset, .unset, .unset, .unset, .unset, .unset] [])) rfl (hb hby d12_20) _ ?_
    refine XS.lstore X6.here hx rfl (hb hby d12_23) rfl (l' := #[rv ob, iv p1, rv va, lv fl, .second, lv bf, .second, lv bf, .second, lv (9223372036854775807 : Int64), .second, .unset, .unset, .unset, .unset, .unset, .unset, .unset, .unset, .unset, .unset, .unset]) rfl ?_
    refine X6.ldc2Long hx hown (mvT hZ (hw _ (List.mem_of_getElem? (i := 16) rfl))) (g := (mkF m 25 #[rv ob, iv p1, rv va, lv fl, .second, lv bf, .second, lv bf, .second, lv (9223372036854775807 : Int64), .second, .unset, .unset, .unset, .unset, .unset, .unset, .unset, .unset, .unset, .unset, .unset] [])) rfl (hb hby d12_25) _ ?_
    refine XS.lstore X6.here hx rfl (hb hby d12_28) rfl (l' := #[rv ob, iv p1, rv va, lv fl, .second, lv bf, .second, lv bf, .second, lv (9223372036854775807 : Int64), .second, lv (-9223372036854775808 : Int64), .second, .unset, .unset, .unset, .unset, .unset, .unset, .unset, .unset, .unset]) rfl ?_
    refine X6.ldc2Long hx hown (mvT hZ (hw _ (List.mem_of_getElem? (i := 90) rfl))) (g := (mkF m 30 #[rv ob, iv p1, rv va, lv fl, .second, lv bf, .second, lv bf, .second, lv (9223372036854775807 : Int64), .second, lv (-9223372036854775808 : Int64), .second, .unset, .unset, .unset, .unset, .unset, .unset, .unset, .unset, .unset] [])) rfl (hb hby d12_30) _ ?_
    refine XS.lstore X6.here hx rfl (hb hby d12_33) rfl (l' := #[rv ob, iv p1, rv va, lv fl, .second, lv bf, .second, lv bf, .second, lv (9223372036854775807 : Int64), .second, lv (-9223372036854775808 : Int64), .second, lv (9223372036854775807 : Int64), .second, .unset, .unset, .unset, .unset, .unset, .unset, .unset]) rfl ?_
    refine X6.ldc2Long hx hown (mvT hZ (hw _ (List.mem_of_getElem? (i := 16) rfl))) (g := (mkF m 35 #[rv ob, iv p1, rv va, lv fl, .second, lv bf, .second, lv bf, .second, lv (9223372036854775807 : Int64), .second, lv (-9223372036854775808 : Int64), .second, lv (9223372036854775807 : Int64), .second, .unset, .unset, .unset, .unset, .unset, .unset, .unset] [])) rfl (hb hby d12_35) _ ?_
    refine XS.lstore X6.here hx rfl (hb hby d12_38) rfl (l' := #[rv ob, iv p1, rv va, lv fl, .second, lv bf, .second, lv bf, .second, lv (9223372036854775807 : Int64), .second, lv (-9223372036854775808 : Int64), .second, lv (9223372036854775807 : Int64), .second, lv (-9223372036854775808 : Int64), .second, .unset, .unset, .unset, .unset, .unset]) rfl ?_
    refine XS.aloadN X6.here hx rfl (hb hby d12_40) rfl rfl ?_
    exact hk
  obtain ⟨T8, X8, e8, st8⟩ := getF X6 hx hZ hown (host := "") (Or.inl (hw _ (List.mem_of_getElem? (i := 21) rfl))) Via.refl e6 (own_pF_bounds hG) (g := (mkF m 41 #[rv ob, iv p1, rv va, lv fl, .second, lv bf, .second, lv bf, .second, lv (9223372036854775807 : Int64), .second, lv (-9223372036854775808 : Int64), .second, lv (9223372036854775807 : Int64), .second, lv (-9223372036854775808 : Int64), .second, .unset, .unset, .unset, .unset, .unset] [(.ref ob)])) rfl rfl (hb hby d12_41)
  have K8 : own_R p e below (T8.setTop (mkF m 44 #[rv ob, iv p1, rv va, lv fl, .second, lv bf, .second, lv bf, .second, lv (9223372036854775807 : Int64), .second, lv (-9223372036854775808 : Int64), .second, lv (9223372036854775807 : Int64), .second, lv (-9223372036854775808 : Int64), .second, .unset, .unset, .unset, .unset, .unset] [(.ref vb)])) S0 := fun t hk => K7 t (st8 _ hk)
  have K9 : own_R p e below (T8.setTop (mkF m 45 #[rv ob, iv p1, rv va, lv fl, .second, lv bf, .second, lv bf, .second, lv (9223372036854775807 : Int64), .second, lv (-9223372036854775808 : Int64), .second, lv (9223372036854775807 : Int64), .second, lv (-9223372036854775808 : Int64), .second, .unset, .unset, .unset, .unset, .unset] [(.ref ob), (.ref vb)])) S0 := by
    intro t hk
    refine K8 t ?_
    show Steps p.tables e below (T8.setTop (mkF m 44 #[rv ob, iv p1, rv va, lv fl, .second, lv bf, .second, lv bf, .second, lv (9223372036854775807 : Int64), .second, lv (-9223372036854775808 : Int64), .second, lv (9223372036854775807 : Int64), .second, lv (-9223372036854775808 : Int64), .second, .unset, .unset, .unset, .unset, .unset] [(.ref vb)])) _
    refine XS.aloadN X8.here hx rfl (hb hby d12_44) rfl rfl ?_
    exact hk
  obtain ⟨T10, X10, e10, st10⟩ := getF X8 hx hZ hown (host := "") (Or.inl (hw _ (List.mem_of_getElem? (i := 73) rfl))) Via.refl e8 (own_pF_count hG) (g := (mkF m 45 #[rv ob, iv p1, rv va, lv fl, .second, lv bf, .second, lv bf, .second, lv (9223372036854775807 : Int64), .second, lv (-9223372036854775808 : Int64), .second, lv (9223372036854775807 : Int64), .second, lv (-9223372036854775808 : Int64), .second, .unset, .unset, .unset, .unset, .unset] [(.ref ob), (.ref vb)])) rfl rfl (hb hby d12_45)
  have K10 : own_R p e below (T10.setTop (mkF m 48 #[rv ob, iv p1, rv va, lv fl, .second, lv bf, .second, lv bf, .second, lv (9223372036854775807 : Int64), .second, lv (-9223372036854775808 : Int64), .second, lv (9223372036854775807 : Int64), .second, lv (-9223372036854775808 : Int64), .second, .unset, .unset, .unset, .unset, .unset] [(.int cn), (.ref vb)])) S0 := fun t hk => K9 t (st10 _ hk)
  obtain ⟨w1, hv_w1, st11⟩ := own_ldI X10 hx hZ e10 (own_pV_vb hG) (j := cn) (own_b _ _ (by omega)) (g := (mkF m 48 #[rv ob, iv p1, rv va, lv fl, .second, lv bf, .second, lv bf, .second, lv (9223372036854775807 : Int64), .second, lv (-9223372036854775808 : Int64), .second, lv (9223372036854775807 : Int64), .second, lv (-9223372036854775808 : Int64), .second, .unset, .unset, .unset, .unset, .unset] [(.int cn), (.ref vb)])) rfl rfl (hb hby d12_48)
  rw [show w1 = sx from Value.int.inj ((hsx).symm.trans hv_w1 |>.symm)] at st11
  have K11 : own_R p e below (T10.setTop (mkF m 49 #[rv ob, iv p1, rv va, lv fl, .second, lv bf, .second, lv bf, .second, lv (9223372036854775807 : Int64), .second, lv (-9223372036854775808 : Int64), .second, lv (9223372036854775807 : Int64), .second, lv (-9223372036854775808 : Int64), .second, .unset, .unset, .unset, .unset, .unset] [(.int sx)])) S0 := fun t hk => K10 t (st11 _ hk)
  have K12 : own_R p e below (T10.setTop (mkF m 54 #[rv ob, iv p1, rv va, lv fl, .second, lv bf, .second, lv bf, .second, lv (9223372036854775807 : Int64), .second, lv (-9223372036854775808 : Int64), .second, lv (9223372036854775807 : Int64), .second, lv (-9223372036854775808 : Int64), .second, iv sx, .unset, .unset, .unset, .unset] [(.int p1), (.int sx)])) S0 := by
    intro t hk
    refine K11 t ?_
    show Steps p.tables e below (T10.setTop (mkF m 49 #[rv ob, iv p1, rv va, lv fl, .second, lv bf, .second, lv bf, .second, lv (9223372036854775807 : Int64), .second, lv (-9223372036854775808 : Int64), .second, lv (9223372036854775807 : Int64), .second, lv (-9223372036854775808 : Int64), .second, .unset, .unset, .unset, .unset, .unset] [(.int sx)])) _
    refine XS.istore X10.here hx rfl (hb hby d12_49) rfl (l' := #[rv ob, iv p1, rv va, lv fl, .second, lv bf, .second, lv bf, .second, lv (9223372036854775807 : Int64), .second, lv (-9223372036854775808 : Int64), .second, lv (9223372036854775807 : Int64), .second, lv (-9223372036854775808 : Int64), .second, iv sx, .unset, .unset, .unset, .unset]) rfl ?_
    refine XS.iload X10.here hx rfl (hb hby d12_51) rfl ?_
    refine XS.iloadN X10.here hx rfl (hb hby d12_53) rfl ?_
    exact hk
  have hc54 : sx < p1 := l0
  have K13 : own_R p e below (T10.setTop (mkF m 57 #[rv ob, iv p1, rv va, lv fl, .second, lv bf, .second, lv bf, .second, lv (9223372036854775807 : Int64), .second, lv (-9223372036854775808 : Int64), .second, lv (9223372036854775807 : Int64), .second, lv (-9223372036854775808 : Int64), .second, iv sx, .unset, .unset, .unset, .unset] [])) S0 := by
    intro t hk
    refine K12 t ?_
    show Steps p.tables e below (T10.setTop (mkF m 54 #[rv ob, iv p1, rv va, lv fl, .second, lv bf, .second, lv bf, .second, lv (9223372036854775807 : Int64), .second, lv (-9223372036854775808 : Int64), .second, lv (9223372036854775807 : Int64), .second, lv (-9223372036854775808 : Int64), .second, iv sx, .unset, .unset, .unset, .unset] [(.int p1), (.int sx)])) _
    refine XS.icmpNo X10.here hx rfl (hb hby d12_54) rfl (tlt hc54).2.1 ?_
    exact hk
  have K14 : own_R p e below (T10.setTop (mkF m 60 #[rv ob, iv p1, rv va, lv fl, .second, lv bf, .second, lv bf, .second, lv (9223372036854775807 : Int64), .second, lv (-9223372036854775808 : Int64), .second, lv (9223372036854775807 : Int64), .second, lv (-9223372036854775808 : Int64), .second, iv sx, .unset, .unset, .unset, .unset] [(.int sx), (.ref va)])) S0 := by
    intro t hk
    refine K13 t ?_
    show Steps p.tables e below (T10.setTop (mkF m 57 #[rv ob, iv p1, rv va, lv fl, .second, lv bf, .second, lv bf, .second, lv (9223372036854775807 : Int64), .second, lv (-9223372036854775808 : Int64), .second, lv (9223372036854775807 : Int64), .second, lv (-9223372036854775808 : Int64), .second, iv sx, .unset, .unset, .unset, .unset] [])) _
    refine XS.aloadN X10.here hx rfl (hb hby d12_57) rfl rfl ?_
    refine XS.iload X10.here hx rfl (hb hby d12_58) rfl ?_
    exact hk
  obtain ⟨x0, hv_x0, st15⟩ := own_ldJ X10 hx hZ e10 (own_pV_va hG) (j := sx) (own_b _ _ (by rw [own_six]; omega)) (g := (mkF m 60 #[rv ob, iv p1, rv va, lv fl, .second, lv bf, .second, lv bf, .second, lv (9223372036854775807 : Int64), .second, lv (-9223372036854775808 : Int64), .second, lv (9223372036854775807 : Int64), .second, lv (-9223372036854775808 : Int64), .second, iv sx, .unset, .unset, .unset, .unset] [(.int sx), (.ref va)])) rfl rfl (hb hby d12_60)
  have K15 : own_R p e below (T10.setTop (mkF m 61 #[rv ob, iv p1, rv va, lv fl, .second, lv bf, .second, lv bf, .second, lv (9223372036854775807 : Int64), .second, lv (-9223372036854775808 : Int64), .second, lv (9223372036854775807 : Int64), .second, lv (-9223372036854775808 : Int64), .second, iv sx, .unset, .unset, .unset, .unset] [(.long x0)])) S0 := fun t hk => K14 t (st15 _ hk)
  have K16 : own_R p e below (T10.setTop (mkF m 65 #[rv ob, iv p1, rv va, lv fl, .second, lv bf, .second, lv bf, .second, lv (9223372036854775807 : Int64), .second, lv (-9223372036854775808 : Int64), .second, lv (9223372036854775807 : Int64), .second, lv (-9223372036854775808 : Int64), .second, iv sx, lv (x0 ^^^ fl), .second, .unset, .unset] [])) S0 := by
    intro t hk
    refine K15 t ?_
    show Steps p.tables e below (T10.setTop (mkF m 61 #[rv ob, iv p1, rv va, lv fl, .second, lv bf, .second, lv bf, .second, lv (9223372036854775807 : Int64), .second, lv (-9223372036854775808 : Int64), .second, lv (9223372036854775807 : Int64), .second, lv (-9223372036854775808 : Int64), .second, iv sx, .unset, .unset, .unset, .unset] [(.long x0)])) _
    refine XS.lloadN X10.here hx rfl (hb hby d12_61) rfl ?_
    refine XS.lxor X10.here hx rfl (hb hby d12_62) rfl ?_
    refine XS.lstore X10.here hx rfl (hb hby d12_63) rfl (l' := #[rv ob, iv p1, rv va, lv fl, .second, lv bf, .second, lv bf, .second, lv (9223372036854775807 : Int64), .second, lv (-9223372036854775808 : Int64), .second, lv (9223372036854775807 : Int64), .second, lv (-9223372036854775808 : Int64), .second, iv sx, lv (x0 ^^^ fl), .second, .unset, .unset]) rfl ?_
    exact hk
  obtain ⟨ky0, hky0⟩ : ∃ z_, z_ = (x0 ^^^ fl) := ⟨_, rfl⟩
  have K17 : own_R p e below (T10.setTop (mkF m 65 #[rv ob, iv p1, rv va, lv fl, .second, lv bf, .second, lv bf, .second, lv (9223372036854775807 : Int64), .second, lv (-9223372036854775808 : Int64), .second, lv (9223372036854775807 : Int64), .second, lv (-9223372036854775808 : Int64), .second, iv sx, lv ky0, .second, .unset, .unset] [])) S0 := by rw [hky0]; exact K16
  have K18 : own_R p e below (T10.setTop (mkF m 72 #[rv ob, iv p1, rv va, lv fl, .second, lv bf, .second, lv bf, .second, lv (9223372036854775807 : Int64), .second, lv (-9223372036854775808 : Int64), .second, lv (9223372036854775807 : Int64), .second, lv (-9223372036854775808 : Int64), .second, iv sx, lv ky0, .second, lv (ky0 - bf), .second] [])) S0 := by
    intro t hk
    refine K17 t ?_
    show Steps p.tables e below (T10.setTop (mkF m 65 #[rv ob, iv p1, rv va, lv fl, .second, lv bf, .second, lv bf, .second, lv (9223372036854775807 : Int64), .second, lv (-9223372036854775808 : Int64), .second, lv (9223372036854775807 : Int64), .second, lv (-9223372036854775808 : Int64), .second, iv sx, lv ky0, .second, .unset, .unset] [])) _
    refine XS.lload X10.here hx rfl (hb hby d12_65) rfl ?_
    refine XS.lload X10.here hx rfl (hb hby d12_67) rfl ?_
    refine XS.lsub X10.here hx rfl (hb hby d12_69) rfl ?_
    refine XS.lstore X10.here hx rfl (hb hby d12_70) rfl (l' := #[rv ob, iv p1, rv va, lv fl, .second, lv bf, .second, lv bf, .second, lv (9223372036854775807 : Int64), .second, lv (-9223372036854775808 : Int64), .second, lv (9223372036854775807 : Int64), .second, lv (-9223372036854775808 : Int64), .second, iv sx, lv ky0, .second, lv (ky0 - bf), .second]) rfl ?_
    exact hk
  obtain ⟨sp0, hsp0⟩ : ∃ z_, z_ = (ky0 - bf) := ⟨_, rfl⟩
  have K19 : own_R p e below (T10.setTop (mkF m 72 #[rv ob, iv p1, rv va, lv fl, .second, lv bf, .second, lv bf, .second, lv (9223372036854775807 : Int64), .second, lv (-9223372036854775808 : Int64), .second, lv (9223372036854775807 : Int64), .second, lv (-9223372036854775808 : Int64), .second, iv sx, lv ky0, .second, lv sp0, .second] [])) S0 := by rw [hsp0]; exact K18
  have K20 : own_R p e below (T10.setTop (mkF m 76 #[rv ob, iv p1, rv va, lv fl, .second, lv bf, .second, lv bf, .second, lv (9223372036854775807 : Int64), .second, lv (-9223372036854775808 : Int64), .second, lv (9223372036854775807 : Int64), .second, lv (-9223372036854775808 : Int64), .second, iv sx, lv ky0, .second, lv sp0, .second] [(.long ky0), (.long (9223372036854775807 : Int64))])) S0 := by
    intro t hk
    refine K19 t ?_
    show Steps p.tables e below (T10.setTop (mkF m 72 #[rv ob, iv p1, rv va, lv fl, .second, lv bf, .second, lv bf, .second, lv (9223372036854775807 : Int64), .second, lv (-9223372036854775808 : Int64), .second, lv (9223372036854775807 : Int64), .second, lv (-9223372036854775808 : Int64), .second, iv sx, lv ky0, .second, lv sp0, .second] [])) _
    refine XS.lload X10.here hx rfl (hb hby d12_72) rfl ?_
    refine XS.lload X10.here hx rfl (hb hby d12_74) rfl ?_
    exact hk
  obtain ⟨_, _, ⟨T21, L21, k21, n21⟩, -, X21, ⟨Lc21, hQ21, l21, y21, z21⟩, st21⟩ := Jvm.LawKit.callS X10 hx (y := (⟨"java/lang/Math", "min", "(JJ)J"⟩ : MethodName)) hown (mvT hZ (hw _ (List.mem_of_getElem? (i := 91) rfl))) (mvT hZ (hw _ (List.mem_of_getElem? (i := 92) rfl))) (mvT hZ (hw _ (List.mem_of_getElem? (i := 49) rfl))) (mvT hZ (hw _ (List.mem_of_getElem? (i := 93) rfl))) (by decide) (backOf (W := 0) (rm15 l Z a0 hw [] (9223372036854775807 : Int64) ky0  h0 n0 Z0 ) hZ (hw _ (List.mem_of_getElem? (i := 93) rfl)) (hw _ (List.mem_of_getElem? (i := 49) rfl)) (by decide) (by decide)) (g := (mkF m 76 #[rv ob, iv p1, rv va, lv fl, .second, lv bf, .second, lv bf, .second, lv (9223372036854775807 : Int64), .second, lv (-9223372036854775808 : Int64), .second, lv (9223372036854775807 : Int64), .second, lv (-9223372036854775808 : Int64), .second, iv sx, lv ky0, .second, lv sp0, .second] [(.long ky0), (.long (9223372036854775807 : Int64))])) rfl (by rw [hml]; rfl) (argsL := [(.long (9223372036854775807 : Int64)), (.long ky0)]) (rest := []) (lenOf (by decide +kernel : parseMethodDescriptor "(JJ)J" = some ⟨[.long, .long], (some .long)⟩) rfl) rfl (by show 2 * 0 + _ ≤ _; exact Nat.le_of_eq rfl) (hb hby d12_76) (fun _ _ => ⟨rfl, e10, (by decide : 0 + 0 + 0 ≤ _), (by decide : 0 + 0 + 0 ≤ _)⟩)
  dsimp only [Pt.U, Pt.locs, Pt.cells, Pt.slots] at X21 l21 y21 z21 st21 hQ21
  replace y21 := y21.symm; replace z21 := z21.symm; subst l21 y21 z21
  obtain ⟨rfl, Nq21, e21⟩ := hQ21
  have N21 := Fr.app N6 Nq21
  have K21 : own_R p e below (T21.setTop (mkF m 79 #[rv ob, iv p1, rv va, lv fl, .second, lv bf, .second, lv bf, .second, lv (9223372036854775807 : Int64), .second, lv (-9223372036854775808 : Int64), .second, lv (9223372036854775807 : Int64), .second, lv (-9223372036854775808 : Int64), .second, iv sx, lv ky0, .second, lv sp0, .second] [(.long (own_f15_0 (9223372036854775807 : Int64) ky0))])) S0 := fun t hk => K20 t (st21 _ hk)
  have K22 : own_R p e below (T21.setTop (mkF m 81 #[rv ob, iv p1, rv va, lv fl, .second, lv bf, .second, lv bf, .second, lv (own_f15_0 (9223372036854775807 : Int64) ky0), .second, lv (-9223372036854775808 : Int64), .second, lv (9223372036854775807 : Int64), .second, lv (-9223372036854775808 : Int64), .second, iv sx, lv ky0, .second, lv sp0, .second] [])) S0 := by
    intro t hk
    refine K21 t ?_
    show Steps p.tables e below (T21.setTop (mkF m 79 #[rv ob, iv p1, rv va, lv fl, .second, lv bf, .second, lv bf, .second, lv (9223372036854775807 : Int64), .second, lv (-9223372036854775808 : Int64), .second, lv (9223372036854775807 : Int64), .second, lv (-9223372036854775808 : Int64), .second, iv sx, lv ky0, .second, lv sp0, .second] [(.long (own_f15_0 (9223372036854775807 : Int64) ky0))])) _
    refine XS.lstore X21.here hx rfl (hb hby d12_79) rfl (l' := #[rv ob, iv p1, rv va, lv fl, .second, lv bf, .second, lv bf, .second, lv (own_f15_0 (9223372036854775807 : Int64) ky0), .second, lv (-9223372036854775808 : Int64), .second, lv (9223372036854775807 : Int64), .second, lv (-9223372036854775808 : Int64), .second, iv sx, lv ky0, .second, lv sp0, .second]) rfl ?_
    exact hk
  obtain ⟨lw0, hlw0⟩ : ∃ z_, z_ = (own_f15_0 (9223372036854775807 : Int64) ky0) := ⟨_, rfl⟩
  have K23 : own_R p e below (T21.setTop (mkF m 81 #[rv ob, iv p1, rv va, lv fl, .second, lv bf, .second, lv bf, .second, lv lw0, .second, lv (-9223372036854775808 : Int64), .second, lv (9223372036854775807 : Int64), .second, lv (-9223372036854775808 : Int64), .second, iv sx, lv ky0, .second, lv sp0, .second] [])) S0 := by rw [hlw0]; exact K22
  have K24 : own_R p e below (T21.setTop (mkF m 85 #[rv ob, iv p1, rv va, lv fl, .second, lv bf, .second, lv bf, .second, lv lw0, .second, lv (-9223372036854775808 : Int64), .second, lv (9223372036854775807 : Int64), .second, lv (-9223372036854775808 : Int64), .second, iv sx, lv ky0, .second, lv sp0, .second] [(.long ky0), (.long (-9223372036854775808 : Int64))])) S0 := by
    intro t hk
    refine K23 t ?_
    show Steps p.tables e below (T21.setTop (mkF m 81 #[rv ob, iv p1, rv va, lv fl, .second, lv bf, .second, lv bf, .second, lv lw0, .second, lv (-9223372036854775808 : Int64), .second, lv (9223372036854775807 : Int64), .second, lv (-9223372036854775808 : Int64), .second, iv sx, lv ky0, .second, lv sp0, .second] [])) _
    refine XS.lload X21.here hx rfl (hb hby d12_81) rfl ?_
    refine XS.lload X21.here hx rfl (hb hby d12_83) rfl ?_
    exact hk
  obtain ⟨_, _, ⟨T25, L25, k25, n25⟩, -, X25, ⟨Lc25, hQ25, l25, y25, z25⟩, st25⟩ := Jvm.LawKit.callS X21 hx (y := (⟨"java/lang/Math", "max", "(JJ)J"⟩ : MethodName)) hown (mvT hZ (hw _ (List.mem_of_getElem? (i := 94) rfl))) (mvT hZ (hw _ (List.mem_of_getElem? (i := 95) rfl))) (mvT hZ (hw _ (List.mem_of_getElem? (i := 49) rfl))) (mvT hZ (hw _ (List.mem_of_getElem? (i := 96) rfl))) (by decide) (backOf (W := 0) (rm16 l Z a0 hw [] (-9223372036854775808 : Int64) ky0  h0 n0 Z0 ) hZ (hw _ (List.mem_of_getElem? (i := 96) rfl)) (hw _ (List.mem_of_getElem? (i := 49) rfl)) (by decide) (by decide)) (g := (mkF m 85 #[rv ob, iv p1, rv va, lv fl, .second, lv bf, .second, lv bf, .second, lv lw0, .second, lv (-9223372036854775808 : Int64), .second, lv (9223372036854775807 : Int64), .second, lv (-9223372036854775808 : Int64), .second, iv sx, lv ky0, .second, lv sp0, .second] [(.long ky0), (.long (-9223372036854775808 : Int64))])) rfl (by rw [hml]; rfl) (argsL := [(.long (-9223372036854775808 : Int64)), (.long ky0)]) (rest := []) (lenOf (by decide +kernel : parseMethodDescriptor "(JJ)J" = some ⟨[.long, .long], (some .long)⟩) rfl) rfl (by show 2 * 0 + _ ≤ _; exact Nat.le_of_eq rfl) (hb hby d12_85) (fun _ _ => ⟨rfl, e21, (by decide : 0 + 0 + 0 + 0 ≤ _), (by decide : 0 + 0 + 0 + 0 ≤ _)⟩)
  dsimp only [Pt.U, Pt.locs, Pt.cells, Pt.slots] at X25 l25 y25 z25 st25 hQ25
  replace y25 := y25.symm; replace z25 := z25.symm; subst l25 y25 z25
  obtain ⟨rfl, Nq25, e25⟩ := hQ25
  have N25 := Fr.app N21 Nq25
  have K25 : own_R p e below (T25.setTop (mkF m 88 #[rv ob, iv p1, rv va, lv fl, .second, lv bf, .second, lv bf, .second, lv lw0, .second, lv (-9223372036854775808 : Int64), .second, lv (9223372036854775807 : Int64), .second, lv (-9223372036854775808 : Int64), .second, iv sx, lv ky0, .second, lv sp0, .second] [(.long (own_f16_0 (-9223372036854775808 : Int64) ky0))])) S0 := fun t hk => K24 t (st25 _ hk)
  have K26 : own_R p e below (T25.setTop (mkF m 90 #[rv ob, iv p1, rv va, lv fl, .second, lv bf, .second, lv bf, .second, lv lw0, .second, lv (own_f16_0 (-9223372036854775808 : Int64) ky0), .second, lv (9223372036854775807 : Int64), .second, lv (-9223372036854775808 : Int64), .second, iv sx, lv ky0, .second, lv sp0, .second] [])) S0 := by
    intro t hk
    refine K25 t ?_
    show Steps p.tables e below (T25.setTop (mkF m 88 #[rv ob, iv p1, rv va, lv fl, .second, lv bf, .second, lv bf, .second, lv lw0, .second, lv (-9223372036854775808 : Int64), .second, lv (9223372036854775807 : Int64), .second, lv (-9223372036854775808 : Int64), .second, iv sx, lv ky0, .second, lv sp0, .second] [(.long (own_f16_0 (-9223372036854775808 : Int64) ky0))])) _
    refine XS.lstore X25.here hx rfl (hb hby d12_88) rfl (l' := #[rv ob, iv p1, rv va, lv fl, .second, lv bf, .second, lv bf, .second, lv lw0, .second, lv (own_f16_0 (-9223372036854775808 : Int64) ky0), .second, lv (9223372036854775807 : Int64), .second, lv (-9223372036854775808 : Int64), .second, iv sx, lv ky0, .second, lv sp0, .second]) rfl ?_
    exact hk
  obtain ⟨hg0, hhg0⟩ : ∃ z_, z_ = (own_f16_0 (-9223372036854775808 : Int64) ky0) := ⟨_, rfl⟩
  have K27 : own_R p e below (T25.setTop (mkF m 90 #[rv ob, iv p1, rv va, lv fl, .second, lv bf, .second, lv bf, .second, lv lw0, .second, lv hg0, .second, lv (9223372036854775807 : Int64), .second, lv (-9223372036854775808 : Int64), .second, iv sx, lv ky0, .second, lv sp0, .second] [])) S0 := by rw [hhg0]; exact K26
  have K28 : own_R p e below (T25.setTop (mkF m 94 #[rv ob, iv p1, rv va, lv fl, .second, lv bf, .second, lv bf, .second, lv lw0, .second, lv hg0, .second, lv (9223372036854775807 : Int64), .second, lv (-9223372036854775808 : Int64), .second, iv sx, lv ky0, .second, lv sp0, .second] [(.long sp0), (.long (9223372036854775807 : Int64))])) S0 := by
    intro t hk
    refine K27 t ?_
    show Steps p.tables e below (T25.setTop (mkF m 90 #[rv ob, iv p1, rv va, lv fl, .second, lv bf, .second, lv bf, .second, lv lw0, .second, lv hg0, .second, lv (9223372036854775807 : Int64), .second, lv (-9223372036854775808 : Int64), .second, iv sx, lv ky0, .second, lv sp0, .second] [])) _
    refine XS.lload X25.here hx rfl (hb hby d12_90) rfl ?_
    refine XS.lload X25.here hx rfl (hb hby d12_92) rfl ?_
    exact hk
  obtain ⟨_, _, ⟨T29, L29, k29, n29⟩, -, X29, ⟨Lc29, hQ29, l29, y29, z29⟩, st29⟩ := Jvm.LawKit.callS X25 hx (y := (⟨"java/lang/Math", "min", "(JJ)J"⟩ : MethodName)) hown (mvT hZ (hw _ (List.mem_of_getElem? (i := 91) rfl))) (mvT hZ (hw _ (List.mem_of_getElem? (i := 92) rfl))) (mvT hZ (hw _ (List.mem_of_getElem? (i := 49) rfl))) (mvT hZ (hw _ (List.mem_of_getElem? (i := 93) rfl))) (by decide) (backOf (W := 0) (rm15 l Z a0 hw [] (9223372036854775807 : Int64) sp0  h0 n0 Z0 ) hZ (hw _ (List.mem_of_getElem? (i := 93) rfl)) (hw _ (List.mem_of_getElem? (i := 49) rfl)) (by decide) (by decide)) (g := (mkF m 94 #[rv ob, iv p1, rv va, lv fl, .second, lv bf, .second, lv bf, .second, lv lw0, .second, lv hg0, .second, lv (9223372036854775807 : Int64), .second, lv (-9223372036854775808 : Int64), .second, iv sx, lv ky0, .second, lv sp0, .second] [(.long sp0), (.long (9223372036854775807 : Int64))])) rfl (by rw [hml]; rfl) (argsL := [(.long (9223372036854775807 : Int64)), (.long sp0)]) (rest := []) (lenOf (by decide +kernel : parseMethodDescriptor "(JJ)J" = some ⟨[.long, .long], (some .long)⟩) rfl) rfl (by show 2 * 0 + _ ≤ _; exact Nat.le_of_eq rfl) (hb hby d12_94) (fun _ _ => ⟨rfl, e25, (by decide : 0 + 0 + 0 + 0 + 0 ≤ _), (by decide : 0 + 0 + 0 + 0 + 0 ≤ _)⟩)
  dsimp only [Pt.U, Pt.locs, Pt.cells, Pt.slots] at X29 l29 y29 z29 st29 hQ29
  replace y29 := y29.symm; replace z29 := z29.symm; subst l29 y29 z29
  obtain ⟨rfl, Nq29, e29⟩ := hQ29
  have N29 := Fr.app N25 Nq29
  have K29 : own_R p e below (T29.setTop (mkF m 97 #[rv ob, iv p1, rv va, lv fl, .second, lv bf, .second, lv bf, .second, lv lw0, .second, lv hg0, .second, lv (9223372036854775807 : Int64), .second, lv (-9223372036854775808 : Int64), .second, iv sx, lv ky0, .second, lv sp0, .second] [(.long (own_f15_0 (9223372036854775807 : Int64) sp0))])) S0 := fun t hk => K28 t (st29 _ hk)
  have K30 : own_R p e below (T29.setTop (mkF m 99 #[rv ob, iv p1, rv va, lv fl, .second, lv bf, .second, lv bf, .second, lv lw0, .second, lv hg0, .second, lv (own_f15_0 (9223372036854775807 : Int64) sp0), .second, lv (-9223372036854775808 : Int64), .second, iv sx, lv ky0, .second, lv sp0, .second] [])) S0 := by
    intro t hk
    refine K29 t ?_
    show Steps p.tables e below (T29.setTop (mkF m 97 #[rv ob, iv p1, rv va, lv fl, .second, lv bf, .second, lv bf, .second, lv lw0, .second, lv hg0, .second, lv (9223372036854775807 : Int64), .second, lv (-9223372036854775808 : Int64), .second, iv sx, lv ky0, .second, lv sp0, .second] [(.long (own_f15_0 (9223372036854775807 : Int64) sp0))])) _
    refine XS.lstore X29.here hx rfl (hb hby d12_97) rfl (l' := #[rv ob, iv p1, rv va, lv fl, .second, lv bf, .second, lv bf, .second, lv lw0, .second, lv hg0, .second, lv (own_f15_0 (9223372036854775807 : Int64) sp0), .second, lv (-9223372036854775808 : Int64), .second, iv sx, lv ky0, .second, lv sp0, .second]) rfl ?_
    exact hk
  obtain ⟨fw0, hfw0⟩ : ∃ z_, z_ = (own_f15_0 (9223372036854775807 : Int64) sp0) := ⟨_, rfl⟩
  have K31 : own_R p e below (T29.setTop (mkF m 99 #[rv ob, iv p1, rv va, lv fl, .second, lv bf, .second, lv bf, .second, lv lw0, .second, lv hg0, .second, lv fw0, .second, lv (-9223372036854775808 : Int64), .second, iv sx, lv ky0, .second, lv sp0, .second] [])) S0 := by rw [hfw0]; exact K30
  have K32 : own_R p e below (T29.setTop (mkF m 103 #[rv ob, iv p1, rv va, lv fl, .second, lv bf, .second, lv bf, .second, lv lw0, .second, lv hg0, .second, lv fw0, .second, lv (-9223372036854775808 : Int64), .second, iv sx, lv ky0, .second, lv sp0, .second] [(.long sp0), (.long (-9223372036854775808 : Int64))])) S0 := by
    intro t hk
    refine K31 t ?_
    show Steps p.tables e below (T29.setTop (mkF m 99 #[rv ob, iv p1, rv va, lv fl, .second, lv bf, .second, lv bf, .second, lv lw0, .second, lv hg0, .second, lv fw0, .second, lv (-9223372036854775808 : Int64), .second, iv sx, lv ky0, .second, lv sp0, .second] [])) _
    refine XS.lload X29.here hx rfl (hb hby d12_99) rfl ?_
    refine XS.lload X29.here hx rfl (hb hby d12_101) rfl ?_
    exact hk
  obtain ⟨_, _, ⟨T33, L33, k33, n33⟩, -, X33, ⟨Lc33, hQ33, l33, y33, z33⟩, st33⟩ := Jvm.LawKit.callS X29 hx (y := (⟨"java/lang/Math", "max", "(JJ)J"⟩ : MethodName)) hown (mvT hZ (hw _ (List.mem_of_getElem? (i := 94) rfl))) (mvT hZ (hw _ (List.mem_of_getElem? (i := 95) rfl))) (mvT hZ (hw _ (List.mem_of_getElem? (i := 49) rfl))) (mvT hZ (hw _ (List.mem_of_getElem? (i := 96) rfl))) (by decide) (backOf (W := 0) (rm16 l Z a0 hw [] (-9223372036854775808 : Int64) sp0  h0 n0 Z0 ) hZ (hw _ (List.mem_of_getElem? (i := 96) rfl)) (hw _ (List.mem_of_getElem? (i := 49) rfl)) (by decide) (by decide)) (g := (mkF m 103 #[rv ob, iv p1, rv va, lv fl, .second, lv bf, .second, lv bf, .second, lv lw0, .second, lv hg0, .second, lv fw0, .second, lv (-9223372036854775808 : Int64), .second, iv sx, lv ky0, .second, lv sp0, .second] [(.long sp0), (.long (-9223372036854775808 : Int64))])) rfl (by rw [hml]; rfl) (argsL := [(.long (-9223372036854775808 : Int64)), (.long sp0)]) (rest := []) (lenOf (by decide +kernel : parseMethodDescriptor "(JJ)J" = some ⟨[.long, .long], (some .long)⟩) rfl) rfl (by show 2 * 0 + _ ≤ _; exact Nat.le_of_eq rfl) (hb hby d12_103) (fun _ _ => ⟨rfl, e29, (by decide : 0 + 0 + 0 + 0 + 0 + 0 ≤ _), (by decide : 0 + 0 + 0 + 0 + 0 + 0 ≤ _)⟩)
  dsimp only [Pt.U, Pt.locs, Pt.cells, Pt.slots] at X33 l33 y33 z33 st33 hQ33
  replace y33 := y33.symm; replace z33 := z33.symm; subst l33 y33 z33
  obtain ⟨rfl, Nq33, e33⟩ := hQ33
  have N33 := Fr.app N29 Nq33
  have K33 : own_R p e below (T33.setTop (mkF m 106 #[rv ob, iv p1, rv va, lv fl, .second, lv bf, .second, lv bf, .second, lv lw0, .second, lv hg0, .second, lv fw0, .second, lv (-9223372036854775808 : Int64), .second, iv sx, lv ky0, .second, lv sp0, .second] [(.long (own_f16_0 (-9223372036854775808 : Int64) sp0))])) S0 := fun t hk => K32 t (st33 _ hk)
  have K34 : own_R p e below (T33.setTop (mkF m 108 #[rv ob, iv p1, rv va, lv fl, .second, lv bf, .second, lv bf, .second, lv lw0, .second, lv hg0, .second, lv fw0, .second, lv (own_f16_0 (-9223372036854775808 : Int64) sp0), .second, iv sx, lv ky0, .second, lv sp0, .second] [])) S0 := by
    intro t hk
    refine K33 t ?_
    show Steps p.tables e below (T33.setTop (mkF m 106 #[rv ob, iv p1, rv va, lv fl, .second, lv bf, .second, lv bf, .second, lv lw0, .second, lv hg0, .second, lv fw0, .second, lv (-9223372036854775808 : Int64), .second, iv sx, lv ky0, .second, lv sp0, .second] [(.long (own_f16_0 (-9223372036854775808 : Int64) sp0))])) _
    refine XS.lstore X33.here hx rfl (hb hby d12_106) rfl (l' := #[rv ob, iv p1, rv va, lv fl, .second, lv bf, .second, lv bf, .second, lv lw0, .second, lv hg0, .second, lv fw0, .second, lv (own_f16_0 (-9223372036854775808 : Int64) sp0), .second, iv sx, lv ky0, .second, lv sp0, .second]) rfl ?_
    exact hk
  obtain ⟨ms0, hms0⟩ : ∃ z_, z_ = (own_f16_0 (-9223372036854775808 : Int64) sp0) := ⟨_, rfl⟩
  have K35 : own_R p e below (T33.setTop (mkF m 108 #[rv ob, iv p1, rv va, lv fl, .second, lv bf, .second, lv bf, .second, lv lw0, .second, lv hg0, .second, lv fw0, .second, lv ms0, .second, iv sx, lv ky0, .second, lv sp0, .second] [])) S0 := by rw [hms0]; exact K34
  have K36 : own_R p e below (T33.setTop (mkF m 51 #[rv ob, iv p1, rv va, lv fl, .second, lv bf, .second, lv ky0, .second, lv lw0, .second, lv hg0, .second, lv fw0, .second, lv ms0, .second, iv (sx + (1 : Int32)), lv ky0, .second, lv sp0, .second] [])) S0 := by
    intro t hk
    refine K35 t ?_
    show Steps p.tables e below (T33.setTop (mkF m 108 #[rv ob, iv p1, rv va, lv fl, .second, lv bf, .second, lv bf, .second, lv lw0, .second, lv hg0, .second, lv fw0, .second, lv ms0, .second, iv sx, lv ky0, .second, lv sp0, .second] [])) _
    refine XS.lload X33.here hx rfl (hb hby d12_108) rfl ?_
    refine XS.lstore X33.here hx rfl (hb hby d12_110) rfl (l' := #[rv ob, iv p1, rv va, lv fl, .second, lv bf, .second, lv ky0, .second, lv lw0, .second, lv hg0, .second, lv fw0, .second, lv ms0, .second, iv sx, lv ky0, .second, lv sp0, .second]) rfl ?_
    refine XS.iinc X33.here hx rfl (hb hby d12_112) rfl (l' := #[rv ob, iv p1, rv va, lv fl, .second, lv bf, .second, lv ky0, .second, lv lw0, .second, lv hg0, .second, lv fw0, .second, lv ms0, .second, iv (sx + (1 : Int32)), lv ky0, .second, lv sp0, .second]) rfl ?_
    refine XS.goto X33.here hx rfl (pc0 := 115) (pc' := 51) rfl (hb hby d12_115) (by decide) (by decide) ?_
    exact hk
  have K37 : own_R p e below (T33.setTop (mkF m 54 #[rv ob, iv p1, rv va, lv fl, .second, lv bf, .second, lv ky0, .second, lv lw0, .second, lv hg0, .second, lv fw0, .second, lv ms0, .second, iv (sx + (1 : Int32)), lv ky0, .second, lv sp0, .second] [(.int p1), (.int (sx + (1 : Int32)))])) S0 := by
    intro t hk
    refine K36 t ?_
    show Steps p.tables e below (T33.setTop (mkF m 51 #[rv ob, iv p1, rv va, lv fl, .second, lv bf, .second, lv ky0, .second, lv lw0, .second, lv hg0, .second, lv fw0, .second, lv ms0, .second, iv (sx + (1 : Int32)), lv ky0, .second, lv sp0, .second] [])) _
    refine XS.iload X33.here hx rfl (hb hby d12_51) rfl ?_
    refine XS.iloadN X33.here hx rfl (hb hby d12_53) rfl ?_
    exact hk
  have hc54 : (sx + (1 : Int32)) < p1 := l1
  have K38 : own_R p e below (T33.setTop (mkF m 57 #[rv ob, iv p1, rv va, lv fl, .second, lv bf, .second, lv ky0, .second, lv lw0, .second, lv hg0, .second, lv fw0, .second, lv ms0, .second, iv (sx + (1 : Int32)), lv ky0, .second, lv sp0, .second] [])) S0 := by
    intro t hk
    refine K37 t ?_
    show Steps p.tables e below (T33.setTop (mkF m 54 #[rv ob, iv p1, rv va, lv fl, .second, lv bf, .second, lv ky0, .second, lv lw0, .second, lv hg0, .second, lv fw0, .second, lv ms0, .second, iv (sx + (1 : Int32)), lv ky0, .second, lv sp0, .second] [(.int p1), (.int (sx + (1 : Int32)))])) _
    refine XS.icmpNo X33.here hx rfl (hb hby d12_54) rfl (tlt hc54).2.1 ?_
    exact hk
  have K39 : own_R p e below (T33.setTop (mkF m 60 #[rv ob, iv p1, rv va, lv fl, .second, lv bf, .second, lv ky0, .second, lv lw0, .second, lv hg0, .second, lv fw0, .second, lv ms0, .second, iv (sx + (1 : Int32)), lv ky0, .second, lv sp0, .second] [(.int (sx + (1 : Int32))), (.ref va)])) S0 := by
    intro t hk
    refine K38 t ?_
    show Steps p.tables e below (T33.setTop (mkF m 57 #[rv ob, iv p1, rv va, lv fl, .second, lv bf, .second, lv ky0, .second, lv lw0, .second, lv hg0, .second, lv fw0, .second, lv ms0, .second, iv (sx + (1 : Int32)), lv ky0, .second, lv sp0, .second] [])) _
    refine XS.aloadN X33.here hx rfl (hb hby d12_57) rfl rfl ?_
    refine XS.iload X33.here hx rfl (hb hby d12_58) rfl ?_
    exact hk
  obtain ⟨x1, hv_x1, st40⟩ := own_ldJ X33 hx hZ e33 (own_pV_va hG) (j := (sx + (1 : Int32))) (own_b _ _ (by rw [own_six]; omega)) (g := (mkF m 60 #[rv ob, iv p1, rv va, lv fl, .second, lv bf, .second, lv ky0, .second, lv lw0, .second, lv hg0, .second, lv fw0, .second, lv ms0, .second, iv (sx + (1 : Int32)), lv ky0, .second, lv sp0, .second] [(.int (sx + (1 : Int32))), (.ref va)])) rfl rfl (hb hby d12_60)
  have K40 : own_R p e below (T33.setTop (mkF m 61 #[rv ob, iv p1, rv va, lv fl, .second, lv bf, .second, lv ky0, .second, lv lw0, .second, lv hg0, .second, lv fw0, .second, lv ms0, .second, iv (sx + (1 : Int32)), lv ky0, .second, lv sp0, .second] [(.long x1)])) S0 := fun t hk => K39 t (st40 _ hk)
  have K41 : own_R p e below (T33.setTop (mkF m 65 #[rv ob, iv p1, rv va, lv fl, .second, lv bf, .second, lv ky0, .second, lv lw0, .second, lv hg0, .second, lv fw0, .second, lv ms0, .second, iv (sx + (1 : Int32)), lv (x1 ^^^ fl), .second, lv sp0, .second] [])) S0 := by
    intro t hk
    refine K40 t ?_
    show Steps p.tables e below (T33.setTop (mkF m 61 #[rv ob, iv p1, rv va, lv fl, .second, lv bf, .second, lv ky0, .second, lv lw0, .second, lv hg0, .second, lv fw0, .second, lv ms0, .second, iv (sx + (1 : Int32)), lv ky0, .second, lv sp0, .second] [(.long x1)])) _
    refine XS.lloadN X33.here hx rfl (hb hby d12_61) rfl ?_
    refine XS.lxor X33.here hx rfl (hb hby d12_62) rfl ?_
    refine XS.lstore X33.here hx rfl (hb hby d12_63) rfl (l' := #[rv ob, iv p1, rv va, lv fl, .second, lv bf, .second, lv ky0, .second, lv lw0, .second, lv hg0, .second, lv fw0, .second, lv ms0, .second, iv (sx + (1 : Int32)), lv (x1 ^^^ fl), .second, lv sp0, .second]) rfl ?_
    exact hk
  obtain ⟨ky1, hky1⟩ : ∃ z_, z_ = (x1 ^^^ fl) := ⟨_, rfl⟩
  have K42 : own_R p e below (T33.setTop (mkF m 65 #[rv ob, iv p1, rv va, lv fl, .second, lv bf, .second, lv ky0, .second, lv lw0, .second, lv hg0, .second, lv fw0, .second, lv ms0, .second, iv (sx + (1 : Int32)), lv ky1, .second, lv sp0, .second] [])) S0 := by rw [hky1]; exact K41
  have K43 : own_R p e below (T33.setTop (mkF m 72 #[rv ob, iv p1, rv va, lv fl, .second, lv bf, .second, lv ky0, .second, lv lw0, .second, lv hg0, .second, lv fw0, .second, lv ms0, .second, iv (sx + (1 : Int32)), lv ky1, .second, lv (ky1 - ky0), .second] [])) S0 := by
    intro t hk
    refine K42 t ?_
    show Steps p.tables e below (T33.setTop (mkF m 65 #[rv ob, iv p1, rv va, lv fl, .second, lv bf, .second, lv ky0, .second, lv lw0, .second, lv hg0, .second, lv fw0, .second, lv ms0, .second, iv (sx + (1 : Int32)), lv ky1, .second, lv sp0, .second] [])) _
    refine XS.lload X33.here hx rfl (hb hby d12_65) rfl ?_
    refine XS.lload X33.here hx rfl (hb hby d12_67) rfl ?_
    refine XS.lsub X33.here hx rfl (hb hby d12_69) rfl ?_
    refine XS.lstore X33.here hx rfl (hb hby d12_70) rfl (l' := #[rv ob, iv p1, rv va, lv fl, .second, lv bf, .second, lv ky0, .second, lv lw0, .second, lv hg0, .second, lv fw0, .second, lv ms0, .second, iv (sx + (1 : Int32)), lv ky1, .second, lv (ky1 - ky0), .second]) rfl ?_
    exact hk
  obtain ⟨sp1, hsp1⟩ : ∃ z_, z_ = (ky1 - ky0) := ⟨_, rfl⟩
  have K44 : own_R p e below (T33.setTop (mkF m 72 #[rv ob, iv p1, rv va, lv fl, .second, lv bf, .second, lv ky0, .second, lv lw0, .second, lv hg0, .second, lv fw0, .second, lv ms0, .second, iv (sx + (1 : Int32)), lv ky1, .second, lv sp1, .second] [])) S0 := by rw [hsp1]; exact K43
  have K45 : own_R p e below (T33.setTop (mkF m 76 #[rv ob, iv p1, rv va, lv fl, .second, lv bf, .second, lv ky0, .second, lv lw0, .second, lv hg0, .second, lv fw0, .second, lv ms0, .second, iv (sx + (1 : Int32)), lv ky1, .second, lv sp1, .second] [(.long ky1), (.long lw0)])) S0 := by
    intro t hk
    refine K44 t ?_
    show Steps p.tables e below (T33.setTop (mkF m 72 #[rv ob, iv p1, rv va, lv fl, .second, lv bf, .second, lv ky0, .second, lv lw0, .second, lv hg0, .second, lv fw0, .second, lv ms0, .second, iv (sx + (1 : Int32)), lv ky1, .second, lv sp1, .second] [])) _
    refine XS.lload X33.here hx rfl (hb hby d12_72) rfl ?_
    refine XS.lload X33.here hx rfl (hb hby d12_74) rfl ?_
    exact hk
  obtain ⟨_, _, ⟨T46, L46, k46, n46⟩, -, X46, ⟨Lc46, hQ46, l46, y46, z46⟩, st46⟩ := Jvm.LawKit.callS X33 hx (y := (⟨"java/lang/Math", "min", "(JJ)J"⟩ : MethodName)) hown (mvT hZ (hw _ (List.mem_of_getElem? (i := 91) rfl))) (mvT hZ (hw _ (List.mem_of_getElem? (i := 92) rfl))) (mvT hZ (hw _ (List.mem_of_getElem? (i := 49) rfl))) (mvT hZ (hw _ (List.mem_of_getElem? (i := 93) rfl))) (by decide) (backOf (W := 0) (rm15 l Z a0 hw [] lw0 ky1  h0 n0 Z0 ) hZ (hw _ (List.mem_of_getElem? (i := 93) rfl)) (hw _ (List.mem_of_getElem? (i := 49) rfl)) (by decide) (by decide)) (g := (mkF m 76 #[rv ob, iv p1, rv va, lv fl, .second, lv bf, .second, lv ky0, .second, lv lw0, .second, lv hg0, .second, lv fw0, .second, lv ms0, .second, iv (sx + (1 : Int32)), lv ky1, .second, lv sp1, .second] [(.long ky1), (.long lw0)])) rfl (by rw [hml]; rfl) (argsL := [(.long lw0), (.long ky1)]) (rest := []) (lenOf (by decide +kernel : parseMethodDescriptor "(JJ)J" = some ⟨[.long, .long], (some .long)⟩) rfl) rfl (by show 2 * 0 + _ ≤ _; exact Nat.le_of_eq rfl) (hb hby d12_76) (fun _ _ => ⟨rfl, e33, (by decide : 0 + 0 + 0 + 0 + 0 + 0 + 0 ≤ _), (by decide : 0 + 0 + 0 + 0 + 0 + 0 + 0 ≤ _)⟩)
  dsimp only [Pt.U, Pt.locs, Pt.cells, Pt.slots] at X46 l46 y46 z46 st46 hQ46
  replace y46 := y46.symm; replace z46 := z46.symm; subst l46 y46 z46
  obtain ⟨rfl, Nq46, e46⟩ := hQ46
  have N46 := Fr.app N33 Nq46
  have K46 : own_R p e below (T46.setTop (mkF m 79 #[rv ob, iv p1, rv va, lv fl, .second, lv bf, .second, lv ky0, .second, lv lw0, .second, lv hg0, .second, lv fw0, .second, lv ms0, .second, iv (sx + (1 : Int32)), lv ky1, .second, lv sp1, .second] [(.long (own_f15_0 lw0 ky1))])) S0 := fun t hk => K45 t (st46 _ hk)
  have K47 : own_R p e below (T46.setTop (mkF m 81 #[rv ob, iv p1, rv va, lv fl, .second, lv bf, .second, lv ky0, .second, lv (own_f15_0 lw0 ky1), .second, lv hg0, .second, lv fw0, .second, lv ms0, .second, iv (sx + (1 : Int32)), lv ky1, .second, lv sp1, .second] [])) S0 := by
    intro t hk
    refine K46 t ?_
    show Steps p.tables e below (T46.setTop (mkF m 79 #[rv ob, iv p1, rv va, lv fl, .second, lv bf, .second, lv ky0, .second, lv lw0, .second, lv hg0, .second, lv fw0, .second, lv ms0, .second, iv (sx + (1 : Int32)), lv ky1, .second, lv sp1, .second] [(.long (own_f15_0 lw0 ky1))])) _
    refine XS.lstore X46.here hx rfl (hb hby d12_79) rfl (l' := #[rv ob, iv p1, rv va, lv fl, .second, lv bf, .second, lv ky0, .second, lv (own_f15_0 lw0 ky1), .second, lv hg0, .second, lv fw0, .second, lv ms0, .second, iv (sx + (1 : Int32)), lv ky1, .second, lv sp1, .second]) rfl ?_
    exact hk
  obtain ⟨lw1, hlw1⟩ : ∃ z_, z_ = (own_f15_0 lw0 ky1) := ⟨_, rfl⟩
  have K48 : own_R p e below (T46.setTop (mkF m 81 #[rv ob, iv p1, rv va, lv fl, .second, lv bf, .second, lv ky0, .second, lv lw1, .second, lv hg0, .second, lv fw0, .second, lv ms0, .second, iv (sx + (1 : Int32)), lv ky1, .second, lv sp1, .second] [])) S0 := by rw [hlw1]; exact K47
  have K49 : own_R p e below (T46.setTop (mkF m 85 #[rv ob, iv p1, rv va, lv fl, .second, lv bf, .second, lv ky0, .second, lv lw1, .second, lv hg0, .second, lv fw0, .second, lv ms0, .second, iv (sx + (1 : Int32)), lv ky1, .second, lv sp1, .second] [(.long ky1), (.long hg0)])) S0 := by
    intro t hk
    refine K48 t ?_
    show Steps p.tables e below (T46.setTop (mkF m 81 #[rv ob, iv p1, rv va, lv fl, .second, lv bf, .second, lv ky0, .second, lv lw1, .second, lv hg0, .second, lv fw0, .second, lv ms0, .second, iv (sx + (1 : Int32)), lv ky1, .second, lv sp1, .second] [])) _
    refine XS.lload X46.here hx rfl (hb hby d12_81) rfl ?_
    refine XS.lload X46.here hx rfl (hb hby d12_83) rfl ?_
    exact hk
  obtain ⟨_, _, ⟨T50, L50, k50, n50⟩, -, X50, ⟨Lc50, hQ50, l50, y50, z50⟩, st50⟩ := Jvm.LawKit.callS X46 hx (y := (⟨"java/lang/Math", "max", "(JJ)J"⟩ : MethodName)) hown (mvT hZ (hw _ (List.mem_of_getElem? (i := 94) rfl))) (mvT hZ (hw _ (List.mem_of_getElem? (i := 95) rfl))) (mvT hZ (hw _ (List.mem_of_getElem? (i := 49) rfl))) (mvT hZ (hw _ (List.mem_of_getElem? (i := 96) rfl))) (by decide) (backOf (W := 0) (rm16 l Z a0 hw [] hg0 ky1  h0 n0 Z0 ) hZ (hw _ (List.mem_of_getElem? (i := 96) rfl)) (hw _ (List.mem_of_getElem? (i := 49) rfl)) (by decide) (by decide)) (g := (mkF m 85 #[rv ob, iv p1, rv va, lv fl, .second, lv bf, .second, lv ky0, .second, lv lw1, .second, lv hg0, .second, lv fw0, .second, lv ms0, .second, iv (sx + (1 : Int32)), lv ky1, .second, lv sp1, .second] [(.long ky1), (.long hg0)])) rfl (by rw [hml]; rfl) (argsL := [(.long hg0), (.long ky1)]) (rest := []) (lenOf (by decide +kernel : parseMethodDescriptor "(JJ)J" = some ⟨[.long, .long], (some .long)⟩) rfl) rfl (by show 2 * 0 + _ ≤ _; exact Nat.le_of_eq rfl) (hb hby d12_85) (fun _ _ => ⟨rfl, e46, (by decide : 0 + 0 + 0 + 0 + 0 + 0 + 0 + 0 ≤ _), (by decide : 0 + 0 + 0 + 0 + 0 + 0 + 0 + 0 ≤ _)⟩)
  dsimp only [Pt.U, Pt.locs, Pt.cells, Pt.slots] at X50 l50 y50 z50 st50 hQ50
  replace y50 := y50.symm; replace z50 := z50.symm; subst l50 y50 z50
  obtain ⟨rfl, Nq50, e50⟩ := hQ50
  have N50 := Fr.app N46 Nq50
  have K50 : own_R p e below (T50.setTop (mkF m 88 #[rv ob, iv p1, rv va, lv fl, .second, lv bf, .second, lv ky0, .second, lv lw1, .second, lv hg0, .second, lv fw0, .second, lv ms0, .second, iv (sx + (1 : Int32)), lv ky1, .second, lv sp1, .second] [(.long (own_f16_0 hg0 ky1))])) S0 := fun t hk => K49 t (st50 _ hk)
  have K51 : own_R p e below (T50.setTop (mkF m 90 #[rv ob, iv p1, rv va, lv fl, .second, lv bf, .second, lv ky0, .second, lv lw1, .second, lv (own_f16_0 hg0 ky1), .second, lv fw0, .second, lv ms0, .second, iv (sx + (1 : Int32)), lv ky1, .second, lv sp1, .second] [])) S0 := by
    intro t hk
    refine K50 t ?_
    show Steps p.tables e below (T50.setTop (mkF m 88 #[rv ob, iv p1, rv va, lv fl, .second, lv bf, .second, lv ky0, .second, lv lw1, .second, lv hg0, .second, lv fw0, .second, lv ms0, .second, iv (sx + (1 : Int32)), lv ky1, .second, lv sp1, .second] [(.long (own_f16_0 hg0 ky1))])) _
    refine XS.lstore X50.here hx rfl (hb hby d12_88) rfl (l' := #[rv ob, iv p1, rv va, lv fl, .second, lv bf, .second, lv ky0, .second, lv lw1, .second, lv (own_f16_0 hg0 ky1), .second, lv fw0, .second, lv ms0, .second, iv (sx + (1 : Int32)), lv ky1, .second, lv sp1, .second]) rfl ?_
    exact hk
  obtain ⟨hg1, hhg1⟩ : ∃ z_, z_ = (own_f16_0 hg0 ky1) := ⟨_, rfl⟩
  have K52 : own_R p e below (T50.setTop (mkF m 90 #[rv ob, iv p1, rv va, lv fl, .second, lv bf, .second, lv ky0, .second, lv lw1, .second, lv hg1, .second, lv fw0, .second, lv ms0, .second, iv (sx + (1 : Int32)), lv ky1, .second, lv sp1, .second] [])) S0 := by rw [hhg1]; exact K51
  have K53 : own_R p e below (T50.setTop (mkF m 94 #[rv ob, iv p1, rv va, lv fl, .second, lv bf, .second, lv ky0, .second, lv lw1, .second, lv hg1, .second, lv fw0, .second, lv ms0, .second, iv (sx + (1 : Int32)), lv ky1, .second, lv sp1, .second] [(.long sp1), (.long fw0)])) S0 := by
    intro t hk
    refine K52 t ?_
    show Steps p.tables e below (T50.setTop (mkF m 90 #[rv ob, iv p1, rv va, lv fl, .second, lv bf, .second, lv ky0, .second, lv lw1, .second, lv hg1, .second, lv fw0, .second, lv ms0, .second, iv (sx + (1 : Int32)), lv ky1, .second, lv sp1, .second] [])) _
    refine XS.lload X50.here hx rfl (hb hby d12_90) rfl ?_
    refine XS.lload X50.here hx rfl (hb hby d12_92) rfl ?_
    exact hk
  obtain ⟨_, _, ⟨T54, L54, k54, n54⟩, -, X54, ⟨Lc54, hQ54, l54, y54, z54⟩, st54⟩ := Jvm.LawKit.callS X50 hx (y := (⟨"java/lang/Math", "min", "(JJ)J"⟩ : MethodName)) hown (mvT hZ (hw _ (List.mem_of_getElem? (i := 91) rfl))) (mvT hZ (hw _ (List.mem_of_getElem? (i := 92) rfl))) (mvT hZ (hw _ (List.mem_of_getElem? (i := 49) rfl))) (mvT hZ (hw _ (List.mem_of_getElem? (i := 93) rfl))) (by decide) (backOf (W := 0) (rm15 l Z a0 hw [] fw0 sp1  h0 n0 Z0 ) hZ (hw _ (List.mem_of_getElem? (i := 93) rfl)) (hw _ (List.mem_of_getElem? (i := 49) rfl)) (by decide) (by decide)) (g := (mkF m 94 #[rv ob, iv p1, rv va, lv fl, .second, lv bf, .second, lv ky0, .second, lv lw1, .second, lv hg1, .second, lv fw0, .second, lv ms0, .second, iv (sx + (1 : Int32)), lv ky1, .second, lv sp1, .second] [(.long sp1), (.long fw0)])) rfl (by rw [hml]; rfl) (argsL := [(.long fw0), (.long sp1)]) (rest := []) (lenOf (by decide +kernel : parseMethodDescriptor "(JJ)J" = some ⟨[.long, .long], (some .long)⟩) rfl) rfl (by show 2 * 0 + _ ≤ _; exact Nat.le_of_eq rfl) (hb hby d12_94) (fun _ _ => ⟨rfl, e50, (by decide : 0 + 0 + 0 + 0 + 0 + 0 + 0 + 0 + 0 ≤ _), (by decide : 0 + 0 + 0 + 0 + 0 + 0 + 0 + 0 + 0 ≤ _)⟩)
  dsimp only [Pt.U, Pt.locs, Pt.cells, Pt.slots] at X54 l54 y54 z54 st54 hQ54
  replace y54 := y54.symm; replace z54 := z54.symm; subst l54 y54 z54
  obtain ⟨rfl, Nq54, e54⟩ := hQ54
  have N54 := Fr.app N50 Nq54
  have K54 : own_R p e below (T54.setTop (mkF m 97 #[rv ob, iv p1, rv va, lv fl, .second, lv bf, .second, lv ky0, .second, lv lw1, .second, lv hg1, .second, lv fw0, .second, lv ms0, .second, iv (sx + (1 : Int32)), lv ky1, .second, lv sp1, .second] [(.long (own_f15_0 fw0 sp1))])) S0 := fun t hk => K53 t (st54 _ hk)
  have K55 : own_R p e below (T54.setTop (mkF m 99 #[rv ob, iv p1, rv va, lv fl, .second, lv bf, .second, lv ky0, .second, lv lw1, .second, lv hg1, .second, lv (own_f15_0 fw0 sp1), .second, lv ms0, .second, iv (sx + (1 : Int32)), lv ky1, .second, lv sp1, .second] [])) S0 := by
    intro t hk
    refine K54 t ?_
    show Steps p.tables e below (T54.setTop (mkF m 97 #[rv ob, iv p1, rv va, lv fl, .second, lv bf, .second, lv ky0, .second, lv lw1, .second, lv hg1, .second, lv fw0, .second, lv ms0, .second, iv (sx + (1 : Int32)), lv ky1, .second, lv sp1, .second] [(.long (own_f15_0 fw0 sp1))])) _
    refine XS.lstore X54.here hx rfl (hb hby d12_97) rfl (l' := #[rv ob, iv p1, rv va, lv fl, .second, lv bf, .second, lv ky0, .second, lv lw1, .second, lv hg1, .second, lv (own_f15_0 fw0 sp1), .second, lv ms0, .second, iv (sx + (1 : Int32)), lv ky1, .second, lv sp1, .second]) rfl ?_
    exact hk
  obtain ⟨fw1, hfw1⟩ : ∃ z_, z_ = (own_f15_0 fw0 sp1) := ⟨_, rfl⟩
  have K56 : own_R p e below (T54.setTop (mkF m 99 #[rv ob, iv p1, rv va, lv fl, .second, lv bf, .second, lv ky0, .second, lv lw1, .second, lv hg1, .second, lv fw1, .second, lv ms0, .second, iv (sx + (1 : Int32)), lv ky1, .second, lv sp1, .second] [])) S0 := by rw [hfw1]; exact K55
  have K57 : own_R p e below (T54.setTop (mkF m 103 #[rv ob, iv p1, rv va, lv fl, .second, lv bf, .second, lv ky0, .second, lv lw1, .second, lv hg1, .second, lv fw1, .second, lv ms0, .second, iv (sx + (1 : Int32)), lv ky1, .second, lv sp1, .second] [(.long sp1), (.long ms0)])) S0 := by
    intro t hk
    refine K56 t ?_
    show Steps p.tables e below (T54.setTop (mkF m 99 #[rv ob, iv p1, rv va, lv fl, .second, lv bf, .second, lv ky0, .second, lv lw1, .second, lv hg1, .second, lv fw1, .second, lv ms0, .second, iv (sx + (1 : Int32)), lv ky1, .second, lv sp1, .second] [])) _
    refine XS.lload X54.here hx rfl (hb hby d12_99) rfl ?_
    refine XS.lload X54.here hx rfl (hb hby d12_101) rfl ?_
    exact hk
  obtain ⟨_, _, ⟨T58, L58, k58, n58⟩, -, X58, ⟨Lc58, hQ58, l58, y58, z58⟩, st58⟩ := Jvm.LawKit.callS X54 hx (y := (⟨"java/lang/Math", "max", "(JJ)J"⟩ : MethodName)) hown (mvT hZ (hw _ (List.mem_of_getElem? (i := 94) rfl))) (mvT hZ (hw _ (List.mem_of_getElem? (i := 95) rfl))) (mvT hZ (hw _ (List.mem_of_getElem? (i := 49) rfl))) (mvT hZ (hw _ (List.mem_of_getElem? (i := 96) rfl))) (by decide) (backOf (W := 0) (rm16 l Z a0 hw [] ms0 sp1  h0 n0 Z0 ) hZ (hw _ (List.mem_of_getElem? (i := 96) rfl)) (hw _ (List.mem_of_getElem? (i := 49) rfl)) (by decide) (by decide)) (g := (mkF m 103 #[rv ob, iv p1, rv va, lv fl, .second, lv bf, .second, lv ky0, .second, lv lw1, .second, lv hg1, .second, lv fw1, .second, lv ms0, .second, iv (sx + (1 : Int32)), lv ky1, .second, lv sp1, .second] [(.long sp1), (.long ms0)])) rfl (by rw [hml]; rfl) (argsL := [(.long ms0), (.long sp1)]) (rest := []) (lenOf (by decide +kernel : parseMethodDescriptor "(JJ)J" = some ⟨[.long, .long], (some .long)⟩) rfl) rfl (by show 2 * 0 + _ ≤ _; exact Nat.le_of_eq rfl) (hb hby d12_103) (fun _ _ => ⟨rfl, e54, (by decide : 0 + 0 + 0 + 0 + 0 + 0 + 0 + 0 + 0 + 0 ≤ _), (by decide : 0 + 0 + 0 + 0 + 0 + 0 + 0 + 0 + 0 + 0 ≤ _)⟩)
  dsimp only [Pt.U, Pt.locs, Pt.cells, Pt.slots] at X58 l58 y58 z58 st58 hQ58
  replace y58 := y58.symm; replace z58 := z58.symm; subst l58 y58 z58
  obtain ⟨rfl, Nq58, e58⟩ := hQ58
  have N58 := Fr.app N54 Nq58
  have K58 : own_R p e below (T58.setTop (mkF m 106 #[rv ob, iv p1, rv va, lv fl, .second, lv bf, .second, lv ky0, .second, lv lw1, .second, lv hg1, .second, lv fw1, .second, lv ms0, .second, iv (sx + (1 : Int32)), lv ky1, .second, lv sp1, .second] [(.long (own_f16_0 ms0 sp1))])) S0 := fun t hk => K57 t (st58 _ hk)
  have K59 : own_R p e below (T58.setTop (mkF m 108 #[rv ob, iv p1, rv va, lv fl, .second, lv bf, .second, lv ky0, .second, lv lw1, .second, lv hg1, .second, lv fw1, .second, lv (own_f16_0 ms0 sp1), .second, iv (sx + (1 : Int32)), lv ky1, .second, lv sp1, .second] [])) S0 := by
    intro t hk
    refine K58 t ?_
    show Steps p.tables e below (T58.setTop (mkF m 106 #[rv ob, iv p1, rv va, lv fl, .second, lv bf, .second, lv ky0, .second, lv lw1, .second, lv hg1, .second, lv fw1, .second, lv ms0, .second, iv (sx + (1 : Int32)), lv ky1, .second, lv sp1, .second] [(.long (own_f16_0 ms0 sp1))])) _
    refine XS.lstore X58.here hx rfl (hb hby d12_106) rfl (l' := #[rv ob, iv p1, rv va, lv fl, .second, lv bf, .second, lv ky0, .second, lv lw1, .second, lv hg1, .second, lv fw1, .second, lv (own_f16_0 ms0 sp1), .second, iv (sx + (1 : Int32)), lv ky1, .second, lv sp1, .second]) rfl ?_
    exact hk
  obtain ⟨ms1, hms1⟩ : ∃ z_, z_ = (own_f16_0 ms0 sp1) := ⟨_, rfl⟩
  have K60 : own_R p e below (T58.setTop (mkF m 108 #[rv ob, iv p1, rv va, lv fl, .second, lv bf, .second, lv ky0, .second, lv lw1, .second, lv hg1, .second, lv fw1, .second, lv ms1, .second, iv (sx + (1 : Int32)), lv ky1, .second, lv sp1, .second] [])) S0 := by rw [hms1]; exact K59
  have K61 : own_R p e below (T58.setTop (mkF m 51 #[rv ob, iv p1, rv va, lv fl, .second, lv bf, .second, lv ky1, .second, lv lw1, .second, lv hg1, .second, lv fw1, .second, lv ms1, .second, iv ((sx + (1 : Int32)) + (1 : Int32)), lv ky1, .second, lv sp1, .second] [])) S0 := by
    intro t hk
    refine K60 t ?_
    show Steps p.tables e below (T58.setTop (mkF m 108 #[rv ob, iv p1, rv va, lv fl, .second, lv bf, .second, lv ky0, .second, lv lw1, .second, lv hg1, .second, lv fw1, .second, lv ms1, .second, iv (sx + (1 : Int32)), lv ky1, .second, lv sp1, .second] [])) _
    refine XS.lload X58.here hx rfl (hb hby d12_108) rfl ?_
    refine XS.lstore X58.here hx rfl (hb hby d12_110) rfl (l' := #[rv ob, iv p1, rv va, lv fl, .second, lv bf, .second, lv ky1, .second, lv lw1, .second, lv hg1, .second, lv fw1, .second, lv ms1, .second, iv (sx + (1 : Int32)), lv ky1, .second, lv sp1, .second]) rfl ?_
    refine XS.iinc X58.here hx rfl (hb hby d12_112) rfl (l' := #[rv ob, iv p1, rv va, lv fl, .second, lv bf, .second, lv ky1, .second, lv lw1, .second, lv hg1, .second, lv fw1, .second, lv ms1, .second, iv ((sx + (1 : Int32)) + (1 : Int32)), lv ky1, .second, lv sp1, .second]) rfl ?_
    refine XS.goto X58.here hx rfl (pc0 := 115) (pc' := 51) rfl (hb hby d12_115) (by decide) (by decide) ?_
    exact hk
  have K62 : own_R p e below (T58.setTop (mkF m 54 #[rv ob, iv p1, rv va, lv fl, .second, lv bf, .second, lv ky1, .second, lv lw1, .second, lv hg1, .second, lv fw1, .second, lv ms1, .second, iv ((sx + (1 : Int32)) + (1 : Int32)), lv ky1, .second, lv sp1, .second] [(.int p1), (.int ((sx + (1 : Int32)) + (1 : Int32)))])) S0 := by
    intro t hk
    refine K61 t ?_
    show Steps p.tables e below (T58.setTop (mkF m 51 #[rv ob, iv p1, rv va, lv fl, .second, lv bf, .second, lv ky1, .second, lv lw1, .second, lv hg1, .second, lv fw1, .second, lv ms1, .second, iv ((sx + (1 : Int32)) + (1 : Int32)), lv ky1, .second, lv sp1, .second] [])) _
    refine XS.iload X58.here hx rfl (hb hby d12_51) rfl ?_
    refine XS.iloadN X58.here hx rfl (hb hby d12_53) rfl ?_
    exact hk
  have hc54 : ¬ (((sx + (1 : Int32)) + (1 : Int32)) < p1) := l2
  have K63 : own_R p e below (T58.setTop (mkF m 118 #[rv ob, iv p1, rv va, lv fl, .second, lv bf, .second, lv ky1, .second, lv lw1, .second, lv hg1, .second, lv fw1, .second, lv ms1, .second, iv ((sx + (1 : Int32)) + (1 : Int32)), lv ky1, .second, lv sp1, .second] [])) S0 := by
    intro t hk
    refine K62 t ?_
    show Steps p.tables e below (T58.setTop (mkF m 54 #[rv ob, iv p1, rv va, lv fl, .second, lv bf, .second, lv ky1, .second, lv lw1, .second, lv hg1, .second, lv fw1, .second, lv ms1, .second, iv ((sx + (1 : Int32)) + (1 : Int32)), lv ky1, .second, lv sp1, .second] [(.int p1), (.int ((sx + (1 : Int32)) + (1 : Int32)))])) _
    refine XS.icmpYes X58.here hx rfl (pc0 := 54) (pc' := 118) rfl (hb hby d12_54) rfl (flt hc54).2.1 (by decide) (by decide) ?_
    exact hk
  have K64 : own_R p e below (T58.setTop (mkF m 130 #[rv ob, iv p1, rv va, lv fl, .second, lv bf, .second, lv ky1, .second, lv lw1, .second, lv hg1, .second, lv fw1, .second, lv ms1, .second, iv ((sx + (1 : Int32)) + (1 : Int32)), lv ky1, .second, lv sp1, .second] [(.long ms1), (.long fw1), (.long hg1), (.long lw1), (.long bf), (.int p1), (.ref ob)])) S0 := by
    intro t hk
    refine K63 t ?_
    show Steps p.tables e below (T58.setTop (mkF m 118 #[rv ob, iv p1, rv va, lv fl, .second, lv bf, .second, lv ky1, .second, lv lw1, .second, lv hg1, .second, lv fw1, .second, lv ms1, .second, iv ((sx + (1 : Int32)) + (1 : Int32)), lv ky1, .second, lv sp1, .second] [])) _
    refine XS.aloadN X58.here hx rfl (hb hby d12_118) rfl rfl ?_
    refine XS.iloadN X58.here hx rfl (hb hby d12_119) rfl ?_
    refine XS.lload X58.here hx rfl (hb hby d12_120) rfl ?_
    refine XS.lload X58.here hx rfl (hb hby d12_122) rfl ?_
    refine XS.lload X58.here hx rfl (hb hby d12_124) rfl ?_
    refine XS.lload X58.here hx rfl (hb hby d12_126) rfl ?_
    refine XS.lload X58.here hx rfl (hb hby d12_128) rfl ?_
    exact hk
  obtain ⟨cq65, kq65, q65a, q65b, q65c⟩ := isOf hZ e58 (own_pE hG)
  obtain ⟨_, _, ⟨T65, L65, k65, n65⟩, -, X65, ⟨Lc65, hQ65, l65, y65, z65⟩, st65⟩ := X58.virtualBack hx (y := (⟨"com/example/bitrun/bitrun/orc/intv2/Segments", "take", "(IJJJJJ)V"⟩ : MethodName)) (z := (⟨"com/example/bitrun/bitrun/orc/intv2/Segments", "take", "(IJJJJJ)V"⟩ : MethodName)) hown (mvT hZ (hw _ (List.mem_of_getElem? (i := 97) rfl))) (mvT hZ (hw _ (List.mem_of_getElem? (i := 98) rfl))) (notFace_of_selects (args := #[]) (mvT hZ (hw _ (List.mem_of_getElem? (i := 100) rfl)))) (mvT hZ (hw _ (List.mem_of_getElem? (i := 100) rfl))) (mvT hZ (hw _ (List.mem_of_getElem? (i := 99) rfl))) (by decide) (backOf (W := 0) (rm17 l Z a0 hw [] ob p1 bf lw1 hg1 fw1 ms1 va vb vl vh vf vg vs kv kb kl kh kf kg ks fl nn nb VV cn VB VL VH VF VG VS h0 n0 Z0 hO hG hcn sx hsx hs) hZ (hw _ (List.mem_of_getElem? (i := 101) rfl)) (hw _ (List.mem_of_getElem? (i := 4) rfl)) (by decide) (by decide)) q65a q65c (g := (mkF m 130 #[rv ob, iv p1, rv va, lv fl, .second, lv bf, .second, lv ky1, .second, lv lw1, .second, lv hg1, .second, lv fw1, .second, lv ms1, .second, iv ((sx + (1 : Int32)) + (1 : Int32)), lv ky1, .second, lv sp1, .second] [(.long ms1), (.long fw1), (.long hg1), (.long lw1), (.long bf), (.int p1), (.ref ob)])) rfl (by rw [hml]; rfl) (Steps.refl _) (argsL := [(.int p1), (.long bf), (.long lw1), (.long hg1), (.long fw1), (.long ms1)]) (rest := []) (lenOf (by decide +kernel : parseMethodDescriptor "(IJJJJJ)V" = some ⟨[.int, .long, .long, .long, .long, .long], none⟩) rfl) rfl (by show 2 * 0 + _ ≤ _; exact Nat.le_of_eq rfl) (hb hby d12_130) (fun _ _ => ⟨rfl, e58, (by decide : 0 + 0 + 0 + 0 + 0 + 0 + 0 + 0 + 0 + 0 + 0 ≤ _), (by decide : 0 + 0 + 0 + 0 + 0 + 0 + 0 + 0 + 0 + 0 + 0 ≤ _)⟩)
  dsimp only [Pt.U, Pt.locs, Pt.cells, Pt.slots] at X65 l65 y65 z65 st65 hQ65
  replace y65 := y65.symm; replace z65 := z65.symm; subst l65 y65 z65
  obtain ⟨rfl, Nq65, Kq65, Gq65⟩ := hQ65
  have N65 := Fr.app N58 Nq65
  have K65 : own_R p e below (T65.setTop (mkF m 133 #[rv ob, iv p1, rv va, lv fl, .second, lv bf, .second, lv ky1, .second, lv lw1, .second, lv hg1, .second, lv fw1, .second, lv ms1, .second, iv ((sx + (1 : Int32)) + (1 : Int32)), lv ky1, .second, lv sp1, .second] [])) S0 := fun t hk => K64 t (st65.trans hk)
  have KP : Keep h0 T65.heap [ob, vb, vl, vh, vf, vg, vs] := Kq65
  obtain ⟨fs, hr, hrun, hended, hW, hsame⟩ := X65.leave (v := none) (fun _ => rfl) Bd.notSynchronized
  exact ⟨_, _, K65 _ (X65.returnOut hx Bd.returns (hb hby d12_133) hr), hrun, hended, _, _, rfl, ⟨rfl, N65, KP, Gq65⟩, ⟨_, rfl⟩, hW, hsame.mono (by decide) (by decide)⟩
theorem d11_0 : decode prog_74_method_6_code 0 = .ok (.aload_n 0, 1) := by decide +kernel
theorem d11_1 : decode prog_74_method_6_code 1 = .ok (.iconst 0, 1) := by decide +kernel
theorem d11_2 : decode prog_74_method_6_code 2 = .ok (.putfield 64, 3) := by decide +kernel
theorem d11_5 : decode prog_74_method_6_code 5 = .ok (.aload_n 0, 1) := by decide +kernel
theorem d11_6 : decode prog_74_method_6_code 6 = .ok (.getfield 27, 3) := by decide +kernel
theorem d11_9 : decode prog_74_method_6_code 9 = .ok (.iconst 0, 1) := by decide +kernel
theorem d11_10 : decode prog_74_method_6_code 10 = .ok (.iload_n 1, 1) := by decide +kernel
theorem d11_11 : decode prog_74_method_6_code 11 = .ok (.iastore, 1) := by decide +kernel
theorem d11_12 : decode prog_74_method_6_code 12 = .ok (.return_, 1) := by decide +kernel
theorem ef_11 (m : MethodId) (x0 : Addr) (x1 : Int32) : entryFrame m #[(.ref x0), (.int x1)] 2 = mkF m 0 #[rv x0, iv x1] [] := by first | (simp [entryFrame, mkF, argsToLocals, Value.category, maxLocals]; done) | rfl
theorem pn_11 : plainName "com/example/bitrun/bitrun/orc/intv2/Segments" = true := by first | (simp [plainName, overriddenIn]; done) | decide +kernel
def Q_rm11 (Z : State) (ob : Addr) (p1 : Int32) (va vb vl vh vf vg vs : Addr) (kv kb kl kh kf kg ks : ClassId) (fl : Int64) (nn nb : Int32) (VV : List Value) (cn : Int32) (VB VL VH VF VG VS : List Value) (h0 : Heap) (n0 : Nat) (v : Option Value) (h : Heap) (L : List Loc) : Prop := v = none ∧ Fr n0 L ∧ Keep h0 h [ob, vb, vl, vh, vf, vg, vs] ∧ own_G Z h ob va vb vl vh vf vg vs kv kb kl kh kf kg ks fl nn nb VV (.ref va) (0 : Int32) (VB.set (0 : Int32).toNatClampNeg (.int p1)) VL VH VF VG VS
set_option maxRecDepth 65536 in
set_option maxHeartbeats 40000000 in
theorem rm11 (l : Launch) (Z : State) (a0 : Array Value) (hw : ∀ d ∈ tables_1, d.before a0 Z = true) (ws : List Jvm.Cond) (ob : Addr) (p1 : Int32) (va vb vl vh vf vg vs : Addr) (kv kb kl kh kf kg ks : ClassId) (fl : Int64) (nn nb : Int32) (VV : List Value) (cn : Int32) (VB VL VH VF VG VS : List Value) (h0 : Heap) (n0 : Nat) (Z0 : n0 ≤ h0.size) (hO : own_O n0 ob va vb vl vh vf vg vs nn nb) (hG : own_G Z h0 ob va vb vl vh vf vg vs kv kb kl kh kf kg ks fl nn nb VV (.ref va) cn VB VL VH VF VG VS)  :
    MetFree l (⟨"com/example/bitrun/bitrun/orc/intv2/Segments", "clear", "(I)V"⟩ : MethodName) (head1 (Jvm.Cond.code (⟨"com/example/bitrun/bitrun/orc/intv2/Segments", "clear", "(I)V"⟩ : MethodName) prog_74_method_6_code 2 none :: ws) ({ frames := 0, cells := 0, slots := 0, locals := 0 } : Room)) (fun a U => a = #[(.ref ob), (.int p1)] ∧ Z.Warmed39 U.vm ∧ U.heap = h0) (fun _ _ _ _ _ => True) (fun _ U o U' => ∃ v L, o = .returned v ∧ Q_rm11 Z ob p1 va vb vl vh vf vg vs kv kb kl kh kf kg ks fl nn nb VV cn VB VL VH VF VG VS h0 n0 v U'.heap L ∧ FrameEnd U o U' L ({ frames := 0, cells := 0, slots := 0, locals := 0 } : Room).cells ({ frames := 0, cells := 0, slots := 0, locals := 0 } : Room).slots) := by
  refine MetFree.of_bodySF (plainFor_of_name pn_11) hisR ?_
  intro p e s m args below meth c s₁ Bd hml0 hP hK
  obtain ⟨rfl, hZ, hh⟩ := hP
  have hx := Bd.exec
  have hby := Bd.bytes
  have hml : c.maxLocals = 2 := hml0
  have hown : s.vm.findClass "com/example/bitrun/bitrun/orc/intv2/Segments" = some m.cls := findClass_of_methodNamed Bd.named
  have hnm := (name_of_methodNamed Bd.named Bd.method).1
  have X0 : Stand p l e ({ frames := 0, cells := 0, slots := 0, locals := 0 } : Room) s m #[(.ref ob), (.int p1)] below meth c s₁ [] 0 0 := Stand.of_body Bd
  have e0 : s₁.heap = h0 := by rw [← hh, Bd.state]; rfl
  have N0 := Fr.nil n0
  have pre0 : ∀ t, Steps p.tables e below (s₁.setTop (mkF m 0 #[rv ob, iv p1] [])) t → Steps p.tables e below (s₁.setTop (entryFrame m #[(.ref ob), (.int p1)] 2)) t := fun t k => castTop (ef_11 m ob p1) k
  obtain ⟨S0, hS0⟩ : ∃ z, z = (s₁.setTop (entryFrame m #[(.ref ob), (.int p1)] 2)) := ⟨_, rfl⟩
  rw [← hS0] at pre0 ⊢
  have K0 : own_R p e below (s₁.setTop (mkF m 0 #[rv ob, iv p1] [])) S0 := pre0
  obtain ⟨o1, o2, o3, o4, o5, o6, o7, o8, o9, o10, o11⟩ := id hO
  have e00 : (0 : Int32).toInt = 0 := by decide
  have b00 : 0 ≤ (0 : Int32).toInt ∧ (0 : Int32).toInt < nb.toInt := by omega
  have K1 : own_R p e below (s₁.setTop (mkF m 2 #[rv ob, iv p1] [(.int (0 : Int32)), (.ref ob)])) S0 := by
    intro t hk
    refine K0 t ?_
    show Steps p.tables e below (s₁.setTop (mkF m 0 #[rv ob, iv p1] [])) _
    refine XS.aloadN X0.here hx rfl (hb hby d11_0) rfl rfl ?_
    refine XS.iconst X0.here hx rfl (hb hby d11_1) ?_
    exact hk
  obtain ⟨T2, h2, X2, e2, W2, st2⟩ := putF X0 hx hZ hown (host := "") (Or.inl (hw _ (List.mem_of_getElem? (i := 73) rfl))) Via.refl e0 (own_pF_count hG) (own_pE hG) (Or.inl (hw _ (List.mem_of_getElem? (i := 74) rfl))) (hw _ (List.mem_of_getElem? (i := 3) rfl)) (ty := .int) (by decide) rfl rfl (g := (mkF m 2 #[rv ob, iv p1] [(.int (0 : Int32)), (.ref ob)])) rfl rfl (hb hby d11_2)
  have K2 : own_R p e below (T2.setTop (mkF m 5 #[rv ob, iv p1] [])) S0 := fun t hk => K1 t (st2 _ hk)
  have Kp3 := (Keep.refl h0 [ob, vb, vl, vh, vf, vg, vs]).wr W2 (Or.inl (List.mem_of_getElem? (i := 0) rfl))
  have N2 := Fr.snoc X2 N0 (by omega : n0 ≤ ob)
  have G2 := own_w_count hw hG hO W2
  have K4 : own_R p e below (T2.setTop (mkF m 6 #[rv ob, iv p1] [(.ref ob)])) S0 := by
    intro t hk
    refine K2 t ?_
    show Steps p.tables e below (T2.setTop (mkF m 5 #[rv ob, iv p1] [])) _
    refine XS.aloadN X2.here hx rfl (hb hby d11_5) rfl rfl ?_
    exact hk
  obtain ⟨T5, X5, e5, st5⟩ := getF X2 hx hZ hown (host := "") (Or.inl (hw _ (List.mem_of_getElem? (i := 21) rfl))) Via.refl e2 (own_pF_bounds G2) (g := (mkF m 6 #[rv ob, iv p1] [(.ref ob)])) rfl rfl (hb hby d11_6)
  have K5 : own_R p e below (T5.setTop (mkF m 9 #[rv ob, iv p1] [(.ref vb)])) S0 := fun t hk => K4 t (st5 _ hk)
  have K6 : own_R p e below (T5.setTop (mkF m 11 #[rv ob, iv p1] [(.int p1), (.int (0 : Int32)), (.ref vb)])) S0 := by
    intro t hk
    refine K5 t ?_
    show Steps p.tables e below (T5.setTop (mkF m 9 #[rv ob, iv p1] [(.ref vb)])) _
    refine XS.iconst X5.here hx rfl (hb hby d11_9) ?_
    refine XS.iloadN X5.here hx rfl (hb hby d11_10) rfl ?_
    exact hk
  obtain ⟨T7, h7, X7, e7, W7, V7, st7⟩ := own_stI X5 hx hZ e5 (own_pV_vb G2) (j := (0 : Int32)) _ rfl (own_b _ _ b00) (by rw [(own_pL_vb G2)]; exact own_cl _ _ b00) (g := (mkF m 11 #[rv ob, iv p1] [(.int p1), (.int (0 : Int32)), (.ref vb)])) rfl rfl (hb hby d11_11)
  have K7 : own_R p e below (T7.setTop (mkF m 12 #[rv ob, iv p1] [])) S0 := fun t hk => K6 t (st7 _ hk)
  have Kp8 := Kp3.wr W7 (Or.inl (List.mem_of_getElem? (i := 1) rfl))
  have N7 := Fr.snoc X7 N2 (by omega : n0 ≤ vb)
  have G7 := own_w_vb G2 hO W7 V7 (List.length_set.trans (own_pL_vb G2))
  have KP : Keep h0 T7.heap [ob, vb, vl, vh, vf, vg, vs] := by rw [e7]; exact Kp8
  have GG : own_G Z T7.heap ob va vb vl vh vf vg vs kv kb kl kh kf kg ks fl nn nb VV (.ref va) (0 : Int32) (VB.set (0 : Int32).toNatClampNeg (.int p1)) VL VH VF VG VS := by rw [e7]; exact G7
  obtain ⟨fs, hr, hrun, hended, hW, hsame⟩ := X7.leave (v := none) (fun _ => rfl) Bd.notSynchronized
  exact ⟨_, _, K7 _ (X7.returnOut hx Bd.returns (hb hby d11_12) hr), hrun, hended, _, _, rfl, ⟨rfl, N7, KP, GG⟩, ⟨_, rfl⟩, hW, hsame.mono (by decide) (by decide)⟩
theorem d10_0 : decode prog_74_method_5_code 0 = .ok (.aload_n 0, 1) := by decide +kernel
theorem d10_1 : decode prog_74_method_5_code 1 = .ok (.aload_n 1, 1) := by decide +kernel
theorem d10_2 : decode prog_74_method_5_code 2 = .ok (.putfield 59, 3) := by decide +kernel
theorem d10_5 : decode prog_74_method_5_code 5 = .ok (.aload_n 0, 1) := by decide +kernel
theorem d10_6 : decode prog_74_method_5_code 6 = .ok (.iload_n 2, 1) := by decide +kernel
theorem d10_7 : decode prog_74_method_5_code 7 = .ok (.invokevirtual 62, 3) := by decide +kernel
theorem d10_10 : decode prog_74_method_5_code 10 = .ok (.return_, 1) := by decide +kernel
theorem ef_10 (m : MethodId) (x0 : Addr) (x1 : Addr) (x2 : Int32) : entryFrame m #[(.ref x0), (.ref x1), (.int x2)] 3 = mkF m 0 #[rv x0, rv x1, iv x2] [] := by first | (simp [entryFrame, mkF, argsToLocals, Value.category, maxLocals]; done) | rfl
theorem pn_10 : plainName "com/example/bitrun/bitrun/orc/intv2/Segments" = true := by first | (simp [plainName, overriddenIn]; done) | decide +kernel
def Q_rm10 (Z : State) (ob : Addr) (va : Addr) (p1 : Int32) (vb vl vh vf vg vs : Addr) (kv kb kl kh kf kg ks : ClassId) (fl : Int64) (nn nb : Int32) (VV : List Value) (vv : Value) (cn : Int32) (VB VL VH VF VG VS : List Value) (h0 : Heap) (n0 : Nat) (v : Option Value) (h : Heap) (L : List Loc) : Prop := v = none ∧ Fr n0 L ∧ Keep h0 h [ob, vb, vl, vh, vf, vg, vs] ∧ own_G Z h ob va vb vl vh vf vg vs kv kb kl kh kf kg ks fl nn nb VV (.ref va) (0 : Int32) (VB.set (0 : Int32).toNatClampNeg (.int p1)) VL VH VF VG VS
set_option maxRecDepth 65536 in
set_option maxHeartbeats 40000000 in
theorem rm10 (l : Launch) (Z : State) (a0 : Array Value) (hw : ∀ d ∈ tables_1, d.before a0 Z = true) (ws : List Jvm.Cond) (ob : Addr) (va : Addr) (p1 : Int32) (vb vl vh vf vg vs : Addr) (kv kb kl kh kf kg ks : ClassId) (fl : Int64) (nn nb : Int32) (VV : List Value) (vv : Value) (cn : Int32) (VB VL VH VF VG VS : List Value) (h0 : Heap) (n0 : Nat) (Z0 : n0 ≤ h0.size) (hO : own_O n0 ob va vb vl vh vf vg vs nn nb) (hG : own_G Z h0 ob va vb vl vh vf vg vs kv kb kl kh kf kg ks fl nn nb VV vv cn VB VL VH VF VG VS) :
    MetFree l (⟨"com/example/bitrun/bitrun/orc/intv2/Segments", "clear", "([JI)V"⟩ : MethodName) (head1 (Jvm.Cond.code (⟨"com/example/bitrun/bitrun/orc/intv2/Segments", "clear", "([JI)V"⟩ : MethodName) prog_74_method_5_code 3 none :: ws) ({ frames := 1, cells := 0, slots := 0, locals := 13 } : Room)) (fun a U => a = #[(.ref ob), (.ref va), (.int p1)] ∧ Z.Warmed39 U.vm ∧ U.heap = h0) (fun _ _ _ _ _ => True) (fun _ U o U' => ∃ v L, o = .returned v ∧ Q_rm10 Z ob va p1 vb vl vh vf vg vs kv kb kl kh kf kg ks fl nn nb VV vv cn VB VL VH VF VG VS h0 n0 v U'.heap L ∧ FrameEnd U o U' L ({ frames := 1, cells := 0, slots := 0, locals := 13 } : Room).cells ({ frames := 1, cells := 0, slots := 0, locals := 13 } : Room).slots) := by
  refine MetFree.of_bodySF (plainFor_of_name pn_10) hisR ?_
  intro p e s m args below meth c s₁ Bd hml0 hP hK
  obtain ⟨rfl, hZ, hh⟩ := hP
  have hx := Bd.exec
  have hby := Bd.bytes
  have hml : c.maxLocals = 3 := hml0
  have hown : s.vm.findClass "com/example/bitrun/bitrun/orc/intv2/Segments" = some m.cls := findClass_of_methodNamed Bd.named
  have hnm := (name_of_methodNamed Bd.named Bd.method).1
  have X0 : Stand p l e ({ frames := 1, cells := 0, slots := 0, locals := 13 } : Room) s m #[(.ref ob), (.ref va), (.int p1)] below meth c s₁ [] 0 0 := Stand.of_body Bd
  have e0 : s₁.heap = h0 := by rw [← hh, Bd.state]; rfl
  have N0 := Fr.nil n0
  have pre0 : ∀ t, Steps p.tables e below (s₁.setTop (mkF m 0 #[rv ob, rv va, iv p1] [])) t → Steps p.tables e below (s₁.setTop (entryFrame m #[(.ref ob), (.ref va), (.int p1)] 3)) t := fun t k => castTop (ef_10 m ob va p1) k
  obtain ⟨S0, hS0⟩ : ∃ z, z = (s₁.setTop (entryFrame m #[(.ref ob), (.ref va), (.int p1)] 3)) := ⟨_, rfl⟩
  rw [← hS0] at pre0 ⊢
  have K0 : own_R p e below (s₁.setTop (mkF m 0 #[rv ob, rv va, iv p1] [])) S0 := pre0
  obtain ⟨o1, o2, o3, o4, o5, o6, o7, o8, o9, o10, o11⟩ := id hO
  have K1 : own_R p e below (s₁.setTop (mkF m 2 #[rv ob, rv va, iv p1] [(.ref va), (.ref ob)])) S0 := by
    intro t hk
    refine K0 t ?_
    show Steps p.tables e below (s₁.setTop (mkF m 0 #[rv ob, rv va, iv p1] [])) _
    refine XS.aloadN X0.here hx rfl (hb hby d10_0) rfl rfl ?_
    refine XS.aloadN X0.here hx rfl (hb hby d10_1) rfl rfl ?_
    exact hk
  obtain ⟨T2, h2, X2, e2, W2, st2⟩ := putF X0 hx hZ hown (host := "") (Or.inl (hw _ (List.mem_of_getElem? (i := 66) rfl))) Via.refl e0 (own_pF_values hG) (own_pE hG) (Or.inl (hw _ (List.mem_of_getElem? (i := 67) rfl))) (hw _ (List.mem_of_getElem? (i := 3) rfl)) (ty := (.array .long)) (by decide) rfl rfl (g := (mkF m 2 #[rv ob, rv va, iv p1] [(.ref va), (.ref ob)])) rfl rfl (hb hby d10_2)
  have K2 : own_R p e below (T2.setTop (mkF m 5 #[rv ob, rv va, iv p1] [])) S0 := fun t hk => K1 t (st2 _ hk)
  have Kp3 := (Keep.refl h0 [ob, vb, vl, vh, vf, vg, vs]).wr W2 (Or.inl (List.mem_of_getElem? (i := 0) rfl))
  have N2 := Fr.snoc X2 N0 (by omega : n0 ≤ ob)
  have G2 := own_w_values hw hG hO W2
  have K4 : own_R p e below (T2.setTop (mkF m 7 #[rv ob, rv va, iv p1] [(.int p1), (.ref ob)])) S0 := by
    intro t hk
    refine K2 t ?_
    show Steps p.tables e below (T2.setTop (mkF m 5 #[rv ob, rv va, iv p1] [])) _
    refine XS.aloadN X2.here hx rfl (hb hby d10_5) rfl rfl ?_
    refine XS.iloadN X2.here hx rfl (hb hby d10_6) rfl ?_
    exact hk
  have GG1 : own_G Z h2 ob va vb vl vh vf vg vs kv kb kl kh kf kg ks fl nn nb VV (.ref va) cn VB VL VH VF VG VS := G2
  obtain ⟨cq5, kq5, q5a, q5b, q5c⟩ := isOf hZ e2 (own_pE G2)
  obtain ⟨_, _, ⟨T5, L5, k5, n5⟩, -, X5, ⟨Lc5, hQ5, l5, y5, z5⟩, st5⟩ := X2.virtualBack hx (y := (⟨"com/example/bitrun/bitrun/orc/intv2/Segments", "clear", "(I)V"⟩ : MethodName)) (z := (⟨"com/example/bitrun/bitrun/orc/intv2/Segments", "clear", "(I)V"⟩ : MethodName)) hown (mvT hZ (hw _ (List.mem_of_getElem? (i := 68) rfl))) (mvT hZ (hw _ (List.mem_of_getElem? (i := 69) rfl))) (notFace_of_selects (args := #[]) (mvT hZ (hw _ (List.mem_of_getElem? (i := 71) rfl)))) (mvT hZ (hw _ (List.mem_of_getElem? (i := 71) rfl))) (mvT hZ (hw _ (List.mem_of_getElem? (i := 70) rfl))) (by decide) (backOf (W := 0) (rm11 l Z a0 hw [] ob p1 va vb vl vh vf vg vs kv kb kl kh kf kg ks fl nn nb VV cn VB VL VH VF VG VS h2 n0 (Nat.le_trans Z0 Kp3.1) hO GG1) hZ (hw _ (List.mem_of_getElem? (i := 72) rfl)) (hw _ (List.mem_of_getElem? (i := 4) rfl)) (by decide) (by decide)) q5a q5c (g := (mkF m 7 #[rv ob, rv va, iv p1] [(.int p1), (.ref ob)])) rfl (by rw [hml]; rfl) (Steps.refl _) (argsL := [(.int p1)]) (rest := []) (lenOf (by decide +kernel : parseMethodDescriptor "(I)V" = some ⟨[.int], none⟩) rfl) rfl (by show 2 * 0 + _ ≤ _; exact Nat.le_of_eq rfl) (hb hby d10_7) (fun _ _ => ⟨rfl, e2, (by decide : 0 + 0 ≤ _), (by decide : 0 + 0 ≤ _)⟩)
  dsimp only [Pt.U, Pt.locs, Pt.cells, Pt.slots] at X5 l5 y5 z5 st5 hQ5
  replace y5 := y5.symm; replace z5 := z5.symm; subst l5 y5 z5
  obtain ⟨rfl, Nq5, Kq5, Gq5⟩ := hQ5
  have N5 := Fr.app N2 Nq5
  have K5 : own_R p e below (T5.setTop (mkF m 10 #[rv ob, rv va, iv p1] [])) S0 := fun t hk => K4 t (st5.trans hk)
  have Kp6 := Kp3.trans Kq5 (fun x hx => Or.inl hx)
  have KP : Keep h0 T5.heap [ob, vb, vl, vh, vf, vg, vs] := Kp6
  obtain ⟨fs, hr, hrun, hended, hW, hsame⟩ := X5.leave (v := none) (fun _ => rfl) Bd.notSynchronized
  exact ⟨_, _, K5 _ (X5.returnOut hx Bd.returns (hb hby d10_10) hr), hrun, hended, _, _, rfl, ⟨rfl, N5, KP, Gq5⟩, ⟨_, rfl⟩, hW, hsame.mono (by decide) (by decide)⟩
theorem d6_0 : decode jdk_65_method_123_code 0 = .ok (.iload_n 1, 1) := by decide +kernel
theorem d6_1 : decode jdk_65_method_123_code 1 = .ok (.aload_n 0, 1) := by decide +kernel
theorem d6_2 : decode jdk_65_method_123_code 2 = .ok (.arraylength, 1) := by decide +kernel
theorem d6_3 : decode jdk_65_method_123_code 3 = .ok (.if_icmp .ne 11, 3) := by decide +kernel
theorem d6_6 : decode jdk_65_method_123_code 6 = .ok (.aload_n 0, 1) := by decide +kernel
theorem d6_7 : decode jdk_65_method_123_code 7 = .ok (.invokevirtual 316, 3) := by decide +kernel
theorem d6_10 : decode jdk_65_method_123_code 10 = .ok (.checkcast 317, 3) := by decide +kernel
theorem d6_13 : decode jdk_65_method_123_code 13 = .ok (.areturn, 1) := by decide +kernel
theorem d6_14 : decode jdk_65_method_123_code 14 = .ok (.iload_n 1, 1) := by decide +kernel
theorem d6_15 : decode jdk_65_method_123_code 15 = .ok (.newarray .int, 2) := by decide +kernel
theorem d6_17 : decode jdk_65_method_123_code 17 = .ok (.astore_n 2, 1) := by decide +kernel
theorem d6_18 : decode jdk_65_method_123_code 18 = .ok (.aload_n 0, 1) := by decide +kernel
theorem d6_19 : decode jdk_65_method_123_code 19 = .ok (.iconst 0, 1) := by decide +kernel
theorem d6_20 : decode jdk_65_method_123_code 20 = .ok (.aload_n 2, 1) := by decide +kernel
theorem d6_21 : decode jdk_65_method_123_code 21 = .ok (.iconst 0, 1) := by decide +kernel
theorem d6_22 : decode jdk_65_method_123_code 22 = .ok (.aload_n 0, 1) := by decide +kernel
theorem d6_23 : decode jdk_65_method_123_code 23 = .ok (.arraylength, 1) := by decide +kernel
theorem d6_24 : decode jdk_65_method_123_code 24 = .ok (.iload_n 1, 1) := by decide +kernel
theorem d6_25 : decode jdk_65_method_123_code 25 = .ok (.invokestatic 304, 3) := by decide +kernel
theorem d6_28 : decode jdk_65_method_123_code 28 = .ok (.invokestatic 150, 3) := by decide +kernel
theorem d6_31 : decode jdk_65_method_123_code 31 = .ok (.aload_n 2, 1) := by decide +kernel
theorem d6_32 : decode jdk_65_method_123_code 32 = .ok (.areturn, 1) := by decide +kernel
theorem ef_6 (m : MethodId) (x0 : Addr) (x1 : Int32) : entryFrame m #[(.ref x0), (.int x1)] 3 = mkF m 0 #[rv x0, iv x1, .unset] [] := by first | (simp [entryFrame, mkF, argsToLocals, Value.category, maxLocals]; done) | rfl
theorem pn_6 : plainName "java/util/Arrays" = true := by first | (simp [plainName, overriddenIn]; done) | decide +kernel
def Q_rm6 (Z : State) (ar : Addr) (p1 : Int32) (kk : ClassId) (z : Int32) (LL : List Value) (h0 : Heap) (n0 : Nat) (v : Option Value) (h : Heap) (L : List Loc) : Prop := v = some (.ref h0.size) ∧ Fr n0 L ∧ Keep h0 h [] ∧ ∃ k2 L2, Arv Z h h0.size k2 .int p1 L2 (.int (0 : Int32)) ∧ L2.length = p1.toNatClampNeg
set_option maxRecDepth 65536 in
set_option maxHeartbeats 40000000 in
theorem rm6 (l : Launch) (Z : State) (a0 : Array Value) (hw : ∀ d ∈ tables_1, d.before a0 Z = true) (ws : List Jvm.Cond) (ar : Addr) (p1 : Int32) (kk : ClassId) (z : Int32) (LL : List Value) (h0 : Heap) (n0 : Nat) (Z0 : n0 ≤ h0.size) (hA : Arv Z h0 ar kk .int z LL (.int (0 : Int32))) (hz : 0 ≤ z.toInt ∧ z.toInt < p1.toInt ∧ p1.toInt ≤ 4) :
    MetFree l (⟨"java/util/Arrays", "copyOf", "([II)[I"⟩ : MethodName) (head1 (Jvm.Cond.code (⟨"java/util/Arrays", "copyOf", "([II)[I"⟩ : MethodName) jdk_65_method_123_code 3 (some (.array .int)) :: ws) ({ frames := 1, cells := 1, slots := 4, locals := 70 } : Room)) (fun a U => a = #[(.ref ar), (.int p1)] ∧ Z.Warmed39 U.vm ∧ U.heap = h0) (fun _ _ _ _ _ => True) (fun _ U o U' => ∃ v L, o = .returned v ∧ Q_rm6 Z ar p1 kk z LL h0 n0 v U'.heap L ∧ FrameEnd U o U' L ({ frames := 1, cells := 1, slots := 4, locals := 70 } : Room).cells ({ frames := 1, cells := 1, slots := 4, locals := 70 } : Room).slots) := by
  refine MetFree.of_bodySF (plainFor_of_name pn_6) hisR ?_
  intro p e s m args below meth c s₁ Bd hml0 hP hK
  obtain ⟨rfl, hZ, hh⟩ := hP
  have hx := Bd.exec
  have hby := Bd.bytes
  have hml : c.maxLocals = 3 := hml0
  have hown : s.vm.findClass "java/util/Arrays" = some m.cls := findClass_of_methodNamed Bd.named
  have hnm := (name_of_methodNamed Bd.named Bd.method).1
  have X0 : Stand p l e ({ frames := 1, cells := 1, slots := 4, locals := 70 } : Room) s m #[(.ref ar), (.int p1)] below meth c s₁ [] 0 0 := Stand.of_body Bd
  have e0 : s₁.heap = h0 := by rw [← hh, Bd.state]; rfl
  have N0 := Fr.nil n0
  have pre0 : ∀ t, Steps p.tables e below (s₁.setTop (mkF m 0 #[rv ar, iv p1, .unset] [])) t → Steps p.tables e below (s₁.setTop (entryFrame m #[(.ref ar), (.int p1)] 3)) t := fun t k => castTop (ef_6 m ar p1) k
  obtain ⟨S0, hS0⟩ : ∃ z, z = (s₁.setTop (entryFrame m #[(.ref ar), (.int p1)] 3)) := ⟨_, rfl⟩
  rw [← hS0] at pre0 ⊢
  have K0 : own_R p e below (s₁.setTop (mkF m 0 #[rv ar, iv p1, .unset] [])) S0 := pre0
  have hne : ¬ (p1 = z) := fun q => by rw [q] at hz; omega
  have b0 : ¬ p1 < 0 := by have q0 : (0 : Int32).toInt = 0 := (by decide); rw [Int32.lt_iff_toInt_lt]; omega
  have bc : p1.toNatClampNeg ≤ 4 := by show p1.toInt.toNat ≤ 4; omega
  have K1 : own_R p e below (s₁.setTop (mkF m 2 #[rv ar, iv p1, .unset] [(.ref ar), (.int p1)])) S0 := by
    intro t hk
    refine K0 t ?_
    show Steps p.tables e below (s₁.setTop (mkF m 0 #[rv ar, iv p1, .unset] [])) _
    refine XS.iloadN X0.here hx rfl (hb hby d6_0) rfl ?_
    refine XS.aloadN X0.here hx rfl (hb hby d6_1) rfl rfl ?_
    exact hk
  obtain ⟨cl2, Ar2, -, S2, M2, -, -⟩ := id hA
  have K2 : own_R p e below (s₁.setTop (mkF m 3 #[rv ar, iv p1, .unset] [(.int z), (.int p1)])) S0 := by
    intro t hk
    refine K1 t ?_
    refine X0.arraylength hx (by rw [e0]; exact Ar2.1) (State.isArrayOf_alike hZ.alike Ar2.2.1) (g := (mkF m 2 #[rv ar, iv p1, .unset] [(.ref ar), (.int p1)])) rfl rfl (hb hby d6_2) _ ?_
    rw [len_of S2 M2]
    exact hk
  have hc3 : ¬ (p1 = z) := hne
  have K3 : own_R p e below (s₁.setTop (mkF m 14 #[rv ar, iv p1, .unset] [])) S0 := by
    intro t hk
    refine K2 t ?_
    show Steps p.tables e below (s₁.setTop (mkF m 3 #[rv ar, iv p1, .unset] [(.int z), (.int p1)])) _
    refine XS.icmpYes X0.here hx rfl (pc0 := 3) (pc' := 14) rfl (hb hby d6_3) rfl (feq hc3).2 (by decide) (by decide) ?_
    exact hk
  have K4 : own_R p e below (s₁.setTop (mkF m 15 #[rv ar, iv p1, .unset] [(.int p1)])) S0 := by
    intro t hk
    refine K3 t ?_
    show Steps p.tables e below (s₁.setTop (mkF m 14 #[rv ar, iv p1, .unset] [])) _
    refine XS.iloadN X0.here hx rfl (hb hby d6_14) rfl ?_
    exact hk
  obtain ⟨T5, h5, c5, X5, e5, E5, A5, st5⟩ := newP X0 hx hZ (hw _ (List.mem_of_getElem? (i := 1) rfl)) e0 (g := (mkF m 15 #[rv ar, iv p1, .unset] [(.int p1)])) rfl (hb hby d6_15) rfl b0 (cap := 4) bc (by decide) (by decide) (by decide)
  obtain ⟨b2, g2⟩ : ∃ z, z = h0.size := ⟨_, rfl⟩
  rw [← g2] at A5 st5
  have V2 : Arv Z h5 b2 c5 .int p1 (List.replicate p1.toNatClampNeg (.int (0 : Int32))) (.int (0 : Int32)) := (Arv.new A5 b0).pad (pad_rep [] (.int (0 : Int32)) p1.toNatClampNeg)
  have K5 : own_R p e below (T5.setTop (mkF m 17 #[rv ar, iv p1, .unset] [(.ref b2)])) S0 := fun t hk => K4 t (st5 _ hk)
  have VA := hA.ext E5
  have sz2 : n0 ≤ h5.size := Nat.le_trans Z0 E5.1
  have K6 : own_R p e below (T5.setTop (mkF m 23 #[rv ar, iv p1, rv b2] [(.ref ar), (.int (0 : Int32)), (.ref b2), (.int (0 : Int32)), (.ref ar)])) S0 := by
    intro t hk
    refine K5 t ?_
    show Steps p.tables e below (T5.setTop (mkF m 17 #[rv ar, iv p1, .unset] [(.ref b2)])) _
    refine XS.astoreN X5.here hx rfl (hb hby d6_17) rfl rfl (l' := #[rv ar, iv p1, rv b2]) rfl ?_
    refine XS.aloadN X5.here hx rfl (hb hby d6_18) rfl rfl ?_
    refine XS.iconst X5.here hx rfl (hb hby d6_19) ?_
    refine XS.aloadN X5.here hx rfl (hb hby d6_20) rfl rfl ?_
    refine XS.iconst X5.here hx rfl (hb hby d6_21) ?_
    refine XS.aloadN X5.here hx rfl (hb hby d6_22) rfl rfl ?_
    exact hk
  obtain ⟨cl7, Ar7, -, S7, M7, -, -⟩ := id VA
  have K7 : own_R p e below (T5.setTop (mkF m 24 #[rv ar, iv p1, rv b2] [(.int z), (.int (0 : Int32)), (.ref b2), (.int (0 : Int32)), (.ref ar)])) S0 := by
    intro t hk
    refine K6 t ?_
    refine X5.arraylength hx (by rw [e5]; exact Ar7.1) (State.isArrayOf_alike hZ.alike Ar7.2.1) (g := (mkF m 23 #[rv ar, iv p1, rv b2] [(.ref ar), (.int (0 : Int32)), (.ref b2), (.int (0 : Int32)), (.ref ar)])) rfl rfl (hb hby d6_23) _ ?_
    rw [len_of S7 M7]
    exact hk
  have K8 : own_R p e below (T5.setTop (mkF m 25 #[rv ar, iv p1, rv b2] [(.int p1), (.int z), (.int (0 : Int32)), (.ref b2), (.int (0 : Int32)), (.ref ar)])) S0 := by
    intro t hk
    refine K7 t ?_
    show Steps p.tables e below (T5.setTop (mkF m 24 #[rv ar, iv p1, rv b2] [(.int z), (.int (0 : Int32)), (.ref b2), (.int (0 : Int32)), (.ref ar)])) _
    refine XS.iloadN X5.here hx rfl (hb hby d6_24) rfl ?_
    exact hk
  obtain ⟨_, _, ⟨T9, L9, k9, n9⟩, -, X9, ⟨Lc9, hQ9, l9, y9, z9⟩, st9⟩ := Jvm.LawKit.callS X5 hx (y := (⟨"java/lang/Math", "min", "(II)I"⟩ : MethodName)) hown (mvT hZ (hw _ (List.mem_of_getElem? (i := 47) rfl))) (mvT hZ (hw _ (List.mem_of_getElem? (i := 48) rfl))) (mvT hZ (hw _ (List.mem_of_getElem? (i := 49) rfl))) (mvT hZ (hw _ (List.mem_of_getElem? (i := 50) rfl))) (by decide) (backOf (W := 4) (rm7 l Z a0 hw [] z p1  h5 n0 sz2 ) hZ (hw _ (List.mem_of_getElem? (i := 50) rfl)) (hw _ (List.mem_of_getElem? (i := 49) rfl)) (by decide) (by decide)) (g := (mkF m 25 #[rv ar, iv p1, rv b2] [(.int p1), (.int z), (.int (0 : Int32)), (.ref b2), (.int (0 : Int32)), (.ref ar)])) rfl (by rw [hml]; rfl) (argsL := [(.int z), (.int p1)]) (rest := [(.int (0 : Int32)), (.ref b2), (.int (0 : Int32)), (.ref ar)]) (lenOf (by decide +kernel : parseMethodDescriptor "(II)I" = some ⟨[.int, .int], (some .int)⟩) rfl) rfl (by show 2 * 0 + _ ≤ _; exact Nat.le_of_eq rfl) (hb hby d6_25) (fun _ _ => ⟨rfl, e5, (by decide : 0 + 1 + 0 ≤ _), (by decide : 0 + 4 + 0 ≤ _)⟩)
  dsimp only [Pt.U, Pt.locs, Pt.cells, Pt.slots] at X9 l9 y9 z9 st9 hQ9
  replace y9 := y9.symm; replace z9 := z9.symm; subst l9 y9 z9
  obtain ⟨rfl, Nq9, e9⟩ := hQ9
  have N9 := Fr.app N0 Nq9
  have K9 : own_R p e below (T9.setTop (mkF m 28 #[rv ar, iv p1, rv b2] [(.int (own_f7_0 z p1)), (.int (0 : Int32)), (.ref b2), (.int (0 : Int32)), (.ref ar)])) S0 := fun t hk => K8 t (st9 _ hk)
  obtain ⟨mn, hmn⟩ : ∃ z_, z_ = (own_f7_0 z p1) := ⟨_, rfl⟩
  have K10 : own_R p e below (T9.setTop (mkF m 28 #[rv ar, iv p1, rv b2] [(.int mn), (.int (0 : Int32)), (.ref b2), (.int (0 : Int32)), (.ref ar)])) S0 := by rw [hmn]; exact K9
  have hm : mn = z := hmn.trans (if_neg (by rw [Int32.lt_iff_toInt_lt]; omega))
  have n1 : mn.toNatClampNeg = z.toNatClampNeg := by rw [hm]
  have n2 : z.toNatClampNeg ≤ p1.toNatClampNeg := by show z.toInt.toNat ≤ p1.toInt.toNat; omega
  have n3 : ¬ mn < 0 := by have q0 : (0 : Int32).toInt = 0 := (by decide); rw [hm, Int32.lt_iff_toInt_lt]; omega
  have n4 : (0 : Int32).toNatClampNeg = 0 := by decide
  obtain ⟨T11, h11, L11, X11, e11, N11, Kc11, Vc11, st11⟩ := cpA X9 hx hZ hown (hw _ (List.mem_of_getElem? (i := 51) rfl)) (hw _ (List.mem_of_getElem? (i := 54) rfl)) (hw _ (List.mem_of_getElem? (i := 52) rfl)) (hw _ (List.mem_of_getElem? (i := 53) rfl)) e9 VA V2 (Or.inl ⟨rfl, rfl⟩) (by decide) (by decide) n3 (by rw [n4, n1]; omega) (by rw [n4, n1]; omega) rfl (by rw [n4, n1, List.length_replicate]; omega) N9 (by rw [g2]; exact Z0 : n0 ≤ b2) (g := (mkF m 28 #[rv ar, iv p1, rv b2] [(.int mn), (.int (0 : Int32)), (.ref b2), (.int (0 : Int32)), (.ref ar)])) rfl (by rw [hml]; rfl) rfl (hb hby d6_28) (by decide) (W := 0) (by show 2 * 0 + _ ≤ _; exact Nat.le_of_eq rfl) (by decide)
  have K11 : own_R p e below (T11.setTop (mkF m 31 #[rv ar, iv p1, rv b2] [])) S0 := fun t hk => K10 t (st11 _ hk)
  have K12 : own_R p e below (T11.setTop (mkF m 32 #[rv ar, iv p1, rv b2] [(.ref b2)])) S0 := by
    intro t hk
    refine K11 t ?_
    show Steps p.tables e below (T11.setTop (mkF m 31 #[rv ar, iv p1, rv b2] [])) _
    refine XS.aloadN X11.here hx rfl (hb hby d6_31) rfl rfl ?_
    exact hk
  have KP : Keep h0 T11.heap [] := by rw [e11]; exact ((Keep.refl h0 []).ext E5).trans Kc11 (fun x hx => Or.inr (by cases List.mem_singleton.mp hx; exact Nat.le_of_eq g2.symm))
  have VP : ∃ k2 L2, Arv Z T11.heap h0.size k2 .int p1 L2 (.int (0 : Int32)) ∧ L2.length = p1.toNatClampNeg := by
    rw [e11, ← g2]; refine ⟨_, _, Vc11, ?_⟩
    simp only [List.length_append, List.length_take, List.length_drop, List.length_map, List.length_range, List.length_replicate, n4, n1]; omega
  obtain ⟨fs, hr, hrun, hended, hW, hsame⟩ := X11.leave (v := some (.ref b2)) (fun h => by rw [Bd.returns] at h; cases h) Bd.notSynchronized
  exact ⟨_, _, K12 _ (retOut X11 hx Bd.returns rfl (Or.inr (Or.inr (Or.inr (Or.inr ⟨rfl, rfl, rfl⟩)))) (hb hby d6_32) hr), hrun, hended, _, _, rfl, ⟨by rw [g2], N11, KP, VP⟩, ⟨_, rfl⟩, hW, hsame.mono (by decide) (by decide)⟩
theorem d8_0 : decode jdk_65_method_124_code 0 = .ok (.iload_n 1, 1) := by decide +kernel
theorem d8_1 : decode jdk_65_method_124_code 1 = .ok (.aload_n 0, 1) := by decide +kernel
theorem d8_2 : decode jdk_65_method_124_code 2 = .ok (.arraylength, 1) := by decide +kernel
theorem d8_3 : decode jdk_65_method_124_code 3 = .ok (.if_icmp .ne 11, 3) := by decide +kernel
theorem d8_6 : decode jdk_65_method_124_code 6 = .ok (.aload_n 0, 1) := by decide +kernel
theorem d8_7 : decode jdk_65_method_124_code 7 = .ok (.invokevirtual 319, 3) := by decide +kernel
theorem d8_10 : decode jdk_65_method_124_code 10 = .ok (.checkcast 320, 3) := by decide +kernel
theorem d8_13 : decode jdk_65_method_124_code 13 = .ok (.areturn, 1) := by decide +kernel
theorem d8_14 : decode jdk_65_method_124_code 14 = .ok (.iload_n 1, 1) := by decide +kernel
theorem d8_15 : decode jdk_65_method_124_code 15 = .ok (.newarray .long, 2) := by decide +kernel
theorem d8_17 : decode jdk_65_method_124_code 17 = .ok (.astore_n 2, 1) := by decide +kernel
theorem d8_18 : decode jdk_65_method_124_code 18 = .ok (.aload_n 0, 1) := by decide +kernel
theorem d8_19 : decode jdk_65_method_124_code 19 = .ok (.iconst 0, 1) := by decide +kernel
theorem d8_20 : decode jdk_65_method_124_code 20 = .ok (.aload_n 2, 1) := by decide +kernel
theorem d8_21 : decode jdk_65_method_124_code 21 = .ok (.iconst 0, 1) := by decide +kernel
theorem d8_22 : decode jdk_65_method_124_code 22 = .ok (.aload_n 0, 1) := by decide +kernel
theorem d8_23 : decode jdk_65_method_124_code 23 = .ok (.arraylength, 1) := by decide +kernel
theorem d8_24 : decode jdk_65_method_124_code 24 = .ok (.iload_n 1, 1) := by decide +kernel
theorem d8_25 : decode jdk_65_method_124_code 25 = .ok (.invokestatic 304, 3) := by decide +kernel
theorem d8_28 : decode jdk_65_method_124_code 28 = .ok (.invokestatic 150, 3) := by decide +kernel
theorem d8_31 : decode jdk_65_method_124_code 31 = .ok (.aload_n 2, 1) := by decide +kernel
theorem d8_32 : decode jdk_65_method_124_code 32 = .ok (.areturn, 1) := by decide +kernel
theorem ef_8 (m : MethodId) (x0 : Addr) (x1 : Int32) : entryFrame m #[(.ref x0), (.int x1)] 3 = mkF m 0 #[rv x0, iv x1, .unset] [] := by first | (simp [entryFrame, mkF, argsToLocals, Value.category, maxLocals]; done) | rfl
theorem pn_8 : plainName "java/util/Arrays" = true := by first | (simp [plainName, overriddenIn]; done) | decide +kernel
def Q_rm8 (Z : State) (ar : Addr) (p1 : Int32) (kk : ClassId) (z : Int32) (LL : List Value) (h0 : Heap) (n0 : Nat) (v : Option Value) (h : Heap) (L : List Loc) : Prop := v = some (.ref h0.size) ∧ Fr n0 L ∧ Keep h0 h [] ∧ ∃ k2 L2, Arv Z h h0.size k2 .long p1 L2 (.long (0 : Int64)) ∧ L2.length = p1.toNatClampNeg
set_option maxRecDepth 65536 in
set_option maxHeartbeats 40000000 in
theorem rm8 (l : Launch) (Z : State) (a0 : Array Value) (hw : ∀ d ∈ tables_1, d.before a0 Z = true) (ws : List Jvm.Cond) (ar : Addr) (p1 : Int32) (kk : ClassId) (z : Int32) (LL : List Value) (h0 : Heap) (n0 : Nat) (Z0 : n0 ≤ h0.size) (hA : Arv Z h0 ar kk .long z LL (.long (0 : Int64))) (hz : 0 ≤ z.toInt ∧ z.toInt < p1.toInt ∧ p1.toInt ≤ 4) :
    MetFree l (⟨"java/util/Arrays", "copyOf", "([JI)[J"⟩ : MethodName) (head1 (Jvm.Cond.code (⟨"java/util/Arrays", "copyOf", "([JI)[J"⟩ : MethodName) jdk_65_method_124_code 3 (some (.array .long)) :: ws) ({ frames := 1, cells := 1, slots := 4, locals := 70 } : Room)) (fun a U => a = #[(.ref ar), (.int p1)] ∧ Z.Warmed39 U.vm ∧ U.heap = h0) (fun _ _ _ _ _ => True) (fun _ U o U' => ∃ v L, o = .returned v ∧ Q_rm8 Z ar p1 kk z LL h0 n0 v U'.heap L ∧ FrameEnd U o U' L ({ frames := 1, cells := 1, slots := 4, locals := 70 } : Room).cells ({ frames := 1, cells := 1, slots := 4, locals := 70 } : Room).slots) := by
  refine MetFree.of_bodySF (plainFor_of_name pn_8) hisR ?_
  intro p e s m args below meth c s₁ Bd hml0 hP hK
  obtain ⟨rfl, hZ, hh⟩ := hP
  have hx := Bd.exec
  have hby := Bd.bytes
  have hml : c.maxLocals = 3 := hml0
  have hown : s.vm.findClass "java/util/Arrays" = some m.cls := findClass_of_methodNamed Bd.named
  have hnm := (name_of_methodNamed Bd.named Bd.method).1
  have X0 : Stand p l e ({ frames := 1, cells := 1, slots := 4, locals := 70 } : Room) s m #[(.ref ar), (.int p1)] below meth c s₁ [] 0 0 := Stand.of_body Bd
  have e0 : s₁.heap = h0 := by rw [← hh, Bd.state]; rfl
  have N0 := Fr.nil n0
  have pre0 : ∀ t, Steps p.tables e below (s₁.setTop (mkF m 0 #[rv ar, iv p1, .unset] [])) t → Steps p.tables e below (s₁.setTop (entryFrame m #[(.ref ar), (.int p1)] 3)) t := fun t k => castTop (ef_8 m ar p1) k
  obtain ⟨S0, hS0⟩ : ∃ z, z = (s₁.setTop (entryFrame m #[(.ref ar), (.int p1)] 3)) := ⟨_, rfl⟩
  rw [← hS0] at pre0 ⊢
  have K0 : own_R p e below (s₁.setTop (mkF m 0 #[rv ar, iv p1, .unset] [])) S0 := pre0
  have hne : ¬ (p1 = z) := fun q => by rw [q] at hz; omega
  have b0 : ¬ p1 < 0 := by have q0 : (0 : Int32).toInt = 0 := (by decide); rw [Int32.lt_iff_toInt_lt]; omega
  have bc : p1.toNatClampNeg ≤ 4 := by show p1.toInt.toNat ≤ 4; omega
  have K1 : own_R p e below (s₁.setTop (mkF m 2 #[rv ar, iv p1, .unset] [(.ref ar), (.int p1)])) S0 := by
    intro t hk
    refine K0 t ?_
    show Steps p.tables e below (s₁.setTop (mkF m 0 #[rv ar, iv p1, .unset] [])) _
    refine XS.iloadN X0.here hx rfl (hb hby d8_0) rfl ?_
    refine XS.aloadN X0.here hx rfl (hb hby d8_1) rfl rfl ?_
    exact hk
  obtain ⟨cl2, Ar2, -, S2, M2, -, -⟩ := id hA
  have K2 : own_R p e below (s₁.setTop (mkF m 3 #[rv ar, iv p1, .unset] [(.int z), (.int p1)])) S0 := by
    intro t hk
    refine K1 t ?_
    refine X0.arraylength hx (by rw [e0]; exact Ar2.1) (State.isArrayOf_alike hZ.alike Ar2.2.1) (g := (mkF m 2 #[rv ar, iv p1, .unset] [(.ref ar), (.int p1)])) rfl rfl (hb hby d8_2) _ ?_
    rw [len_of S2 M2]
    exact hk
  have hc3 : ¬ (p1 = z) := hne
  have K3 : own_R p e below (s₁.setTop (mkF m 14 #[rv ar, iv p1, .unset] [])) S0 := by
    intro t hk
    refine K2 t ?_
    show Steps p.tables e below (s₁.setTop (mkF m 3 #[rv ar, iv p1, .unset] [(.int z), (.int p1)])) _
    refine XS.icmpYes X0.here hx rfl (pc0 := 3) (pc' := 14) rfl (hb hby d8_3) rfl (feq hc3).2 (by decide) (by decide) ?_
    exact hk
  have K4 : own_R p e below (s₁.setTop (mkF m 15 #[rv ar, iv p1, .unset] [(.int p1)])) S0 := by
    intro t hk
    refine K3 t ?_
    show Steps p.tables e below (s₁.setTop (mkF m 14 #[rv ar, iv p1, .unset] [])) _
    refine XS.iloadN X0.here hx rfl (hb hby d8_14) rfl ?_
    exact hk
  obtain ⟨T5, h5, c5, X5, e5, E5, A5, st5⟩ := newP X0 hx hZ (hw _ (List.mem_of_getElem? (i := 0) rfl)) e0 (g := (mkF m 15 #[rv ar, iv p1, .unset] [(.int p1)])) rfl (hb hby d8_15) rfl b0 (cap := 4) bc (by decide) (by decide) (by decide)
  obtain ⟨b2, g2⟩ : ∃ z, z = h0.size := ⟨_, rfl⟩
  rw [← g2] at A5 st5
  have V2 : Arv Z h5 b2 c5 .long p1 (List.replicate p1.toNatClampNeg (.long (0 : Int64))) (.long (0 : Int64)) := (Arv.new A5 b0).pad (pad_rep [] (.long (0 : Int64)) p1.toNatClampNeg)
  have K5 : own_R p e below (T5.setTop (mkF m 17 #[rv ar, iv p1, .unset] [(.ref b2)])) S0 := fun t hk => K4 t (st5 _ hk)
  have VA := hA.ext E5
  have sz2 : n0 ≤ h5.size := Nat.le_trans Z0 E5.1
  have K6 : own_R p e below (T5.setTop (mkF m 23 #[rv ar, iv p1, rv b2] [(.ref ar), (.int (0 : Int32)), (.ref b2), (.int (0 : Int32)), (.ref ar)])) S0 := by
    intro t hk
    refine K5 t ?_
    show Steps p.tables e below (T5.setTop (mkF m 17 #[rv ar, iv p1, .unset] [(.ref b2)])) _
    refine XS.astoreN X5.here hx rfl (hb hby d8_17) rfl rfl (l' := #[rv ar, iv p1, rv b2]) rfl ?_
    refine XS.aloadN X5.here hx rfl (hb hby d8_18) rfl rfl ?_
    refine XS.iconst X5.here hx rfl (hb hby d8_19) ?_
    refine XS.aloadN X5.here hx rfl (hb hby d8_20) rfl rfl ?_
    refine XS.iconst X5.here hx rfl (hb hby d8_21) ?_
    refine XS.aloadN X5.here hx rfl (hb hby d8_22) rfl rfl ?_
    exact hk
  obtain ⟨cl7, Ar7, -, S7, M7, -, -⟩ := id VA
  have K7 : own_R p e below (T5.setTop (mkF m 24 #[rv ar, iv p1, rv b2] [(.int z), (.int (0 : Int32)), (.ref b2), (.int (0 : Int32)), (.ref ar)])) S0 := by
    intro t hk
    refine K6 t ?_
    refine X5.arraylength hx (by rw [e5]; exact Ar7.1) (State.isArrayOf_alike hZ.alike Ar7.2.1) (g := (mkF m 23 #[rv ar, iv p1, rv b2] [(.ref ar), (.int (0 : Int32)), (.ref b2), (.int (0 : Int32)), (.ref ar)])) rfl rfl (hb hby d8_23) _ ?_
    rw [len_of S7 M7]
    exact hk
  have K8 : own_R p e below (T5.setTop (mkF m 25 #[rv ar, iv p1, rv b2] [(.int p1), (.int z), (.int (0 : Int32)), (.ref b2), (.int (0 : Int32)), (.ref ar)])) S0 := by
    intro t hk
    refine K7 t ?_
    show Steps p.tables e below (T5.setTop (mkF m 24 #[rv ar, iv p1, rv b2] [(.int z), (.int (0 : Int32)), (.ref b2), (.int (0 : Int32)), (.ref ar)])) _
    refine XS.iloadN X5.here hx rfl (hb hby d8_24) rfl ?_
    exact hk
  obtain ⟨_, _, ⟨T9, L9, k9, n9⟩, -, X9, ⟨Lc9, hQ9, l9, y9, z9⟩, st9⟩ := Jvm.LawKit.callS X5 hx (y := (⟨"java/lang/Math", "min", "(II)I"⟩ : MethodName)) hown (mvT hZ (hw _ (List.mem_of_getElem? (i := 47) rfl))) (mvT hZ (hw _ (List.mem_of_getElem? (i := 48) rfl))) (mvT hZ (hw _ (List.mem_of_getElem? (i := 49) rfl))) (mvT hZ (hw _ (List.mem_of_getElem? (i := 50) rfl))) (by decide) (backOf (W := 4) (rm7 l Z a0 hw [] z p1  h5 n0 sz2 ) hZ (hw _ (List.mem_of_getElem? (i := 50) rfl)) (hw _ (List.mem_of_getElem? (i := 49) rfl)) (by decide) (by decide)) (g := (mkF m 25 #[rv ar, iv p1, rv b2] [(.int p1), (.int z), (.int (0 : Int32)), (.ref b2), (.int (0 : Int32)), (.ref ar)])) rfl (by rw [hml]; rfl) (argsL := [(.int z), (.int p1)]) (rest := [(.int (0 : Int32)), (.ref b2), (.int (0 : Int32)), (.ref ar)]) (lenOf (by decide +kernel : parseMethodDescriptor "(II)I" = some ⟨[.int, .int], (some .int)⟩) rfl) rfl (by show 2 * 0 + _ ≤ _; exact Nat.le_of_eq rfl) (hb hby d8_25) (fun _ _ => ⟨rfl, e5, (by decide : 0 + 1 + 0 ≤ _), (by decide : 0 + 4 + 0 ≤ _)⟩)
  dsimp only [Pt.U, Pt.locs, Pt.cells, Pt.slots] at X9 l9 y9 z9 st9 hQ9
  replace y9 := y9.symm; replace z9 := z9.symm; subst l9 y9 z9
  obtain ⟨rfl, Nq9, e9⟩ := hQ9
  have N9 := Fr.app N0 Nq9
  have K9 : own_R p e below (T9.setTop (mkF m 28 #[rv ar, iv p1, rv b2] [(.int (own_f7_0 z p1)), (.int (0 : Int32)), (.ref b2), (.int (0 : Int32)), (.ref ar)])) S0 := fun t hk => K8 t (st9 _ hk)
  obtain ⟨mn, hmn⟩ : ∃ z_, z_ = (own_f7_0 z p1) := ⟨_, rfl⟩
  have K10 : own_R p e below (T9.setTop (mkF m 28 #[rv ar, iv p1, rv b2] [(.int mn), (.int (0 : Int32)), (.ref b2), (.int (0 : Int32)), (.ref ar)])) S0 := by rw [hmn]; exact K9
  have hm : mn = z := hmn.trans (if_neg (by rw [Int32.lt_iff_toInt_lt]; omega))
  have n1 : mn.toNatClampNeg = z.toNatClampNeg := by rw [hm]
  have n2 : z.toNatClampNeg ≤ p1.toNatClampNeg := by show z.toInt.toNat ≤ p1.toInt.toNat; omega
  have n3 : ¬ mn < 0 := by have q0 : (0 : Int32).toInt = 0 := (by decide); rw [hm, Int32.lt_iff_toInt_lt]; omega
  have n4 : (0 : Int32).toNatClampNeg = 0 := by decide
  obtain ⟨T11, h11, L11, X11, e11, N11, Kc11, Vc11, st11⟩ := cpA X9 hx hZ hown (hw _ (List.mem_of_getElem? (i := 51) rfl)) (hw _ (List.mem_of_getElem? (i := 54) rfl)) (hw _ (List.mem_of_getElem? (i := 52) rfl)) (hw _ (List.mem_of_getElem? (i := 53) rfl)) e9 VA V2 (Or.inl ⟨rfl, rfl⟩) (by decide) (by decide) n3 (by rw [n4, n1]; omega) (by rw [n4, n1]; omega) rfl (by rw [n4, n1, List.length_replicate]; omega) N9 (by rw [g2]; exact Z0 : n0 ≤ b2) (g := (mkF m 28 #[rv ar, iv p1, rv b2] [(.int mn), (.int (0 : Int32)), (.ref b2), (.int (0 : Int32)), (.ref ar)])) rfl (by rw [hml]; rfl) rfl (hb hby d8_28) (by decide) (W := 0) (by show 2 * 0 + _ ≤ _; exact Nat.le_of_eq rfl) (by decide)
  have K11 : own_R p e below (T11.setTop (mkF m 31 #[rv ar, iv p1, rv b2] [])) S0 := fun t hk => K10 t (st11 _ hk)
  have K12 : own_R p e below (T11.setTop (mkF m 32 #[rv ar, iv p1, rv b2] [(.ref b2)])) S0 := by
    intro t hk
    refine K11 t ?_
    show Steps p.tables e below (T11.setTop (mkF m 31 #[rv ar, iv p1, rv b2] [])) _
    refine XS.aloadN X11.here hx rfl (hb hby d8_31) rfl rfl ?_
    exact hk
  have KP : Keep h0 T11.heap [] := by rw [e11]; exact ((Keep.refl h0 []).ext E5).trans Kc11 (fun x hx => Or.inr (by cases List.mem_singleton.mp hx; exact Nat.le_of_eq g2.symm))
  have VP : ∃ k2 L2, Arv Z T11.heap h0.size k2 .long p1 L2 (.long (0 : Int64)) ∧ L2.length = p1.toNatClampNeg := by
    rw [e11, ← g2]; refine ⟨_, _, Vc11, ?_⟩
    simp only [List.length_append, List.length_take, List.length_drop, List.length_map, List.length_range, List.length_replicate, n4, n1]; omega
  obtain ⟨fs, hr, hrun, hended, hW, hsame⟩ := X11.leave (v := some (.ref b2)) (fun h => by rw [Bd.returns] at h; cases h) Bd.notSynchronized
  exact ⟨_, _, K12 _ (retOut X11 hx Bd.returns rfl (Or.inr (Or.inr (Or.inr (Or.inr ⟨rfl, rfl, rfl⟩)))) (hb hby d8_32) hr), hrun, hended, _, _, rfl, ⟨by rw [g2], N11, KP, VP⟩, ⟨_, rfl⟩, hW, hsame.mono (by decide) (by decide)⟩
theorem d9_0 : decode jdk_65_method_121_code 0 = .ok (.iload_n 1, 1) := by decide +kernel
theorem d9_1 : decode jdk_65_method_121_code 1 = .ok (.aload_n 0, 1) := by decide +kernel
theorem d9_2 : decode jdk_65_method_121_code 2 = .ok (.arraylength, 1) := by decide +kernel
theorem d9_3 : decode jdk_65_method_121_code 3 = .ok (.if_icmp .ne 11, 3) := by decide +kernel
theorem d9_6 : decode jdk_65_method_121_code 6 = .ok (.aload_n 0, 1) := by decide +kernel
theorem d9_7 : decode jdk_65_method_121_code 7 = .ok (.invokevirtual 310, 3) := by decide +kernel
theorem d9_10 : decode jdk_65_method_121_code 10 = .ok (.checkcast 311, 3) := by decide +kernel
theorem d9_13 : decode jdk_65_method_121_code 13 = .ok (.areturn, 1) := by decide +kernel
theorem d9_14 : decode jdk_65_method_121_code 14 = .ok (.iload_n 1, 1) := by decide +kernel
theorem d9_15 : decode jdk_65_method_121_code 15 = .ok (.newarray .byte, 2) := by decide +kernel
theorem d9_17 : decode jdk_65_method_121_code 17 = .ok (.astore_n 2, 1) := by decide +kernel
theorem d9_18 : decode jdk_65_method_121_code 18 = .ok (.aload_n 0, 1) := by decide +kernel
theorem d9_19 : decode jdk_65_method_121_code 19 = .ok (.iconst 0, 1) := by decide +kernel
theorem d9_20 : decode jdk_65_method_121_code 20 = .ok (.aload_n 2, 1) := by decide +kernel
theorem d9_21 : decode jdk_65_method_121_code 21 = .ok (.iconst 0, 1) := by decide +kernel
theorem d9_22 : decode jdk_65_method_121_code 22 = .ok (.aload_n 0, 1) := by decide +kernel
theorem d9_23 : decode jdk_65_method_121_code 23 = .ok (.arraylength, 1) := by decide +kernel
theorem d9_24 : decode jdk_65_method_121_code 24 = .ok (.iload_n 1, 1) := by decide +kernel
theorem d9_25 : decode jdk_65_method_121_code 25 = .ok (.invokestatic 304, 3) := by decide +kernel
theorem d9_28 : decode jdk_65_method_121_code 28 = .ok (.invokestatic 150, 3) := by decide +kernel
theorem d9_31 : decode jdk_65_method_121_code 31 = .ok (.aload_n 2, 1) := by decide +kernel
theorem d9_32 : decode jdk_65_method_121_code 32 = .ok (.areturn, 1) := by decide +kernel
theorem ef_9 (m : MethodId) (x0 : Addr) (x1 : Int32) : entryFrame m #[(.ref x0), (.int x1)] 3 = mkF m 0 #[rv x0, iv x1, .unset] [] := by first | (simp [entryFrame, mkF, argsToLocals, Value.category, maxLocals]; done) | rfl
theorem pn_9 : plainName "java/util/Arrays" = true := by first | (simp [plainName, overriddenIn]; done) | decide +kernel
def Q_rm9 (Z : State) (ar : Addr) (p1 : Int32) (kk : ClassId) (z : Int32) (LL : List Value) (h0 : Heap) (n0 : Nat) (v : Option Value) (h : Heap) (L : List Loc) : Prop := v = some (.ref h0.size) ∧ Fr n0 L ∧ Keep h0 h [] ∧ ∃ k2 L2, Arv Z h h0.size k2 .byte p1 L2 (.int (0 : Int32)) ∧ L2.length = p1.toNatClampNeg
set_option maxRecDepth 65536 in
set_option maxHeartbeats 40000000 in
theorem rm9 (l : Launch) (Z : State) (a0 : Array Value) (hw : ∀ d ∈ tables_1, d.before a0 Z = true) (ws : List Jvm.Cond) (ar : Addr) (p1 : Int32) (kk : ClassId) (z : Int32) (LL : List Value) (h0 : Heap) (n0 : Nat) (Z0 : n0 ≤ h0.size) (hA : Arv Z h0 ar kk .byte z LL (.int (0 : Int32))) (hz : 0 ≤ z.toInt ∧ z.toInt < p1.toInt ∧ p1.toInt ≤ 4) :
    MetFree l (⟨"java/util/Arrays", "copyOf", "([BI)[B"⟩ : MethodName) (head1 (Jvm.Cond.code (⟨"java/util/Arrays", "copyOf", "([BI)[B"⟩ : MethodName) jdk_65_method_121_code 3 (some (.array .byte)) :: ws) ({ frames := 1, cells := 1, slots := 4, locals := 70 } : Room)) (fun a U => a = #[(.ref ar), (.int p1)] ∧ Z.Warmed39 U.vm ∧ U.heap = h0) (fun _ _ _ _ _ => True) (fun _ U o U' => ∃ v L, o = .returned v ∧ Q_rm9 Z ar p1 kk z LL h0 n0 v U'.heap L ∧ FrameEnd U o U' L ({ frames := 1, cells := 1, slots := 4, locals := 70 } : Room).cells ({ frames := 1, cells := 1, slots := 4, locals := 70 } : Room).slots) := by
  refine MetFree.of_bodySF (plainFor_of_name pn_9) hisR ?_
  intro p e s m args below meth c s₁ Bd hml0 hP hK
  obtain ⟨rfl, hZ, hh⟩ := hP
  have hx := Bd.exec
  have hby := Bd.bytes
  have hml : c.maxLocals = 3 := hml0
  have hown : s.vm.findClass "java/util/Arrays" = some m.cls := findClass_of_methodNamed Bd.named
  have hnm := (name_of_methodNamed Bd.named Bd.method).1
  have X0 : Stand p l e ({ frames := 1, cells := 1, slots := 4, locals := 70 } : Room) s m #[(.ref ar), (.int p1)] below meth c s₁ [] 0 0 := Stand.of_body Bd
  have e0 : s₁.heap = h0 := by rw [← hh, Bd.state]; rfl
  have N0 := Fr.nil n0
  have pre0 : ∀ t, Steps p.tables e below (s₁.setTop (mkF m 0 #[rv ar, iv p1, .unset] [])) t → Steps p.tables e below (s₁.setTop (entryFrame m #[(.ref ar), (.int p1)] 3)) t := fun t k => castTop (ef_9 m ar p1) k
  obtain ⟨S0, hS0⟩ : ∃ z, z = (s₁.setTop (entryFrame m #[(.ref ar), (.int p1)] 3)) := ⟨_, rfl⟩
  rw [← hS0] at pre0 ⊢
  have K0 : own_R p e below (s₁.setTop (mkF m 0 #[rv ar, iv p1, .unset] [])) S0 := pre0
  have hne : ¬ (p1 = z) := fun q => by rw [q] at hz; omega
  have b0 : ¬ p1 < 0 := by have q0 : (0 : Int32).toInt = 0 := (by decide); rw [Int32.lt_iff_toInt_lt]; omega
  have bc : p1.toNatClampNeg ≤ 4 := by show p1.toInt.toNat ≤ 4; omega
  have K1 : own_R p e below (s₁.setTop (mkF m 2 #[rv ar, iv p1, .unset] [(.ref ar), (.int p1)])) S0 := by
    intro t hk
    refine K0 t ?_
    show Steps p.tables e below (s₁.setTop (mkF m 0 #[rv ar, iv p1, .unset] [])) _
    refine XS.iloadN X0.here hx rfl (hb hby d9_0) rfl ?_
    refine XS.aloadN X0.here hx rfl (hb hby d9_1) rfl rfl ?_
    exact hk
  obtain ⟨cl2, Ar2, -, S2, M2, -, -⟩ := id hA
  have K2 : own_R p e below (s₁.setTop (mkF m 3 #[rv ar, iv p1, .unset] [(.int z), (.int p1)])) S0 := by
    intro t hk
    refine K1 t ?_
    refine X0.arraylength hx (by rw [e0]; exact Ar2.1) (State.isArrayOf_alike hZ.alike Ar2.2.1) (g := (mkF m 2 #[rv ar, iv p1, .unset] [(.ref ar), (.int p1)])) rfl rfl (hb hby d9_2) _ ?_
    rw [len_of S2 M2]
    exact hk
  have hc3 : ¬ (p1 = z) := hne
  have K3 : own_R p e below (s₁.setTop (mkF m 14 #[rv ar, iv p1, .unset] [])) S0 := by
    intro t hk
    refine K2 t ?_
    show Steps p.tables e below (s₁.setTop (mkF m 3 #[rv ar, iv p1, .unset] [(.int z), (.int p1)])) _
    refine XS.icmpYes X0.here hx rfl (pc0 := 3) (pc' := 14) rfl (hb hby d9_3) rfl (feq hc3).2 (by decide) (by decide) ?_
    exact hk
  have K4 : own_R p e below (s₁.setTop (mkF m 15 #[rv ar, iv p1, .unset] [(.int p1)])) S0 := by
    intro t hk
    refine K3 t ?_
    show Steps p.tables e below (s₁.setTop (mkF m 14 #[rv ar, iv p1, .unset] [])) _
    refine XS.iloadN X0.here hx rfl (hb hby d9_14) rfl ?_
    exact hk
  obtain ⟨T5, h5, c5, X5, e5, E5, A5, st5⟩ := newP X0 hx hZ (hw _ (List.mem_of_getElem? (i := 31) rfl)) e0 (g := (mkF m 15 #[rv ar, iv p1, .unset] [(.int p1)])) rfl (hb hby d9_15) rfl b0 (cap := 4) bc (by decide) (by decide) (by decide)
  obtain ⟨b2, g2⟩ : ∃ z, z = h0.size := ⟨_, rfl⟩
  rw [← g2] at A5 st5
  have V2 : Arv Z h5 b2 c5 .byte p1 (List.replicate p1.toNatClampNeg (.int (0 : Int32))) (.int (0 : Int32)) := (Arv.new A5 b0).pad (pad_rep [] (.int (0 : Int32)) p1.toNatClampNeg)
  have K5 : own_R p e below (T5.setTop (mkF m 17 #[rv ar, iv p1, .unset] [(.ref b2)])) S0 := fun t hk => K4 t (st5 _ hk)
  have VA := hA.ext E5
  have sz2 : n0 ≤ h5.size := Nat.le_trans Z0 E5.1
  have K6 : own_R p e below (T5.setTop (mkF m 23 #[rv ar, iv p1, rv b2] [(.ref ar), (.int (0 : Int32)), (.ref b2), (.int (0 : Int32)), (.ref ar)])) S0 := by
    intro t hk
    refine K5 t ?_
    show Steps p.tables e below (T5.setTop (mkF m 17 #[rv ar, iv p1, .unset] [(.ref b2)])) _
    refine XS.astoreN X5.here hx rfl (hb hby d9_17) rfl rfl (l' := #[rv ar, iv p1, rv b2]) rfl ?_
    refine XS.aloadN X5.here hx rfl (hb hby d9_18) rfl rfl ?_
    refine XS.iconst X5.here hx rfl (hb hby d9_19) ?_
    refine XS.aloadN X5.here hx rfl (hb hby d9_20) rfl rfl ?_
    refine XS.iconst X5.here hx rfl (hb hby d9_21) ?_
    refine XS.aloadN X5.here hx rfl (hb hby d9_22) rfl rfl ?_
    exact hk
  obtain ⟨cl7, Ar7, -, S7, M7, -, -⟩ := id VA
  have K7 : own_R p e below (T5.setTop (mkF m 24 #[rv ar, iv p1, rv b2] [(.int z), (.int (0 : Int32)), (.ref b2), (.int (0 : Int32)), (.ref ar)])) S0 := by
    intro t hk
    refine K6 t ?_
    refine X5.arraylength hx (by rw [e5]; exact Ar7.1) (State.isArrayOf_alike hZ.alike Ar7.2.1) (g := (mkF m 23 #[rv ar, iv p1, rv b2] [(.ref ar), (.int (0 : Int32)), (.ref b2), (.int (0 : Int32)), (.ref ar)])) rfl rfl (hb hby d9_23) _ ?_
    rw [len_of S7 M7]
    exact hk
  have K8 : own_R p e below (T5.setTop (mkF m 25 #[rv ar, iv p1, rv b2] [(.int p1), (.int z), (.int (0 : Int32)), (.ref b2), (.int (0 : Int32)), (.ref ar)])) S0 := by
    intro t hk
    refine K7 t ?_
    show Steps p.tables e below (T5.setTop (mkF m 24 #[rv ar, iv p1, rv b2] [(.int z), (.int (0 : Int32)), (.ref b2), (.int (0 : Int32)), (.ref ar)])) _
    refine XS.iloadN X5.here hx rfl (hb hby d9_24) rfl ?_
    exact hk
  obtain ⟨_, _, ⟨T9, L9, k9, n9⟩, -, X9, ⟨Lc9, hQ9, l9, y9, z9⟩, st9⟩ := Jvm.LawKit.callS X5 hx (y := (⟨"java/lang/Math", "min", "(II)I"⟩ : MethodName)) hown (mvT hZ (hw _ (List.mem_of_getElem? (i := 47) rfl))) (mvT hZ (hw _ (List.mem_of_getElem? (i := 48) rfl))) (mvT hZ (hw _ (List.mem_of_getElem? (i := 49) rfl))) (mvT hZ (hw _ (List.mem_of_getElem? (i := 50) rfl))) (by decide) (backOf (W := 4) (rm7 l Z a0 hw [] z p1  h5 n0 sz2 ) hZ (hw _ (List.mem_of_getElem? (i := 50) rfl)) (hw _ (List.mem_of_getElem? (i := 49) rfl)) (by decide) (by decide)) (g := (mkF m 25 #[rv ar, iv p1, rv b2] [(.int p1), (.int z), (.int (0 : Int32)), (.ref b2), (.int (0 : Int32)), (.ref ar)])) rfl (by rw [hml]; rfl) (argsL := [(.int z), (.int p1)]) (rest := [(.int (0 : Int32)), (.ref b2), (.int (0 : Int32)), (.ref ar)]) (lenOf (by decide +kernel : parseMethodDescriptor "(II)I" = some ⟨[.int, .int], (some .int)⟩) rfl) rfl (by show 2 * 0 + _ ≤ _; exact Nat.le_of_eq rfl) (hb hby d9_25) (fun _ _ => ⟨rfl, e5, (by decide : 0 + 1 + 0 ≤ _), (by decide : 0 + 4 + 0 ≤ _)⟩)
  dsimp only [Pt.U, Pt.locs, Pt.cells, Pt.slots] at X9 l9 y9 z9 st9 hQ9
  replace y9 := y9.symm; replace z9 := z9.symm; subst l9 y9 z9
  obtain ⟨rfl, Nq9, e9⟩ := hQ9
  have N9 := Fr.app N0 Nq9
  have K9 : own_R p e below (T9.setTop (mkF m 28 #[rv ar, iv p1, rv b2] [(.int (own_f7_0 z p1)), (.int (0 : Int32)), (.ref b2), (.int (0 : Int32)), (.ref ar)])) S0 := fun t hk => K8 t (st9 _ hk)
  obtain ⟨mn, hmn⟩ : ∃ z_, z_ = (own_f7_0 z p1) := ⟨_, rfl⟩
  have K10 : own_R p e below (T9.setTop (mkF m 28 #[rv ar, iv p1, rv b2] [(.int mn), (.int (0 : Int32)), (.ref b2), (.int (0 : Int32)), (.ref ar)])) S0 := by rw [hmn]; exact K9
  have hm : mn = z := hmn.trans (if_neg (by rw [Int32.lt_iff_toInt_lt]; omega))
  have n1 : mn.toNatClampNeg = z.toNatClampNeg := by rw [hm]
  have n2 : z.toNatClampNeg ≤ p1.toNatClampNeg := by show z.toInt.toNat ≤ p1.toInt.toNat; omega
  have n3 : ¬ mn < 0 := by have q0 : (0 : Int32).toInt = 0 := (by decide); rw [hm, Int32.lt_iff_toInt_lt]; omega
  have n4 : (0 : Int32).toNatClampNeg = 0 := by decide
  obtain ⟨T11, h11, L11, X11, e11, N11, Kc11, Vc11, st11⟩ := cpA X9 hx hZ hown (hw _ (List.mem_of_getElem? (i := 51) rfl)) (hw _ (List.mem_of_getElem? (i := 54) rfl)) (hw _ (List.mem_of_getElem? (i := 52) rfl)) (hw _ (List.mem_of_getElem? (i := 53) rfl)) e9 VA V2 (Or.inl ⟨rfl, rfl⟩) (by decide) (by decide) n3 (by rw [n4, n1]; omega) (by rw [n4, n1]; omega) rfl (by rw [n4, n1, List.length_replicate]; omega) N9 (by rw [g2]; exact Z0 : n0 ≤ b2) (g := (mkF m 28 #[rv ar, iv p1, rv b2] [(.int mn), (.int (0 : Int32)), (.ref b2), (.int (0 : Int32)), (.ref ar)])) rfl (by rw [hml]; rfl) rfl (hb hby d9_28) (by decide) (W := 0) (by show 2 * 0 + _ ≤ _; exact Nat.le_of_eq rfl) (by decide)
  have K11 : own_R p e below (T11.setTop (mkF m 31 #[rv ar, iv p1, rv b2] [])) S0 := fun t hk => K10 t (st11 _ hk)
  have K12 : own_R p e below (T11.setTop (mkF m 32 #[rv ar, iv p1, rv b2] [(.ref b2)])) S0 := by
    intro t hk
    refine K11 t ?_
    show Steps p.tables e below (T11.setTop (mkF m 31 #[rv ar, iv p1, rv b2] [])) _
    refine XS.aloadN X11.here hx rfl (hb hby d9_31) rfl rfl ?_
    exact hk
  have KP : Keep h0 T11.heap [] := by rw [e11]; exact ((Keep.refl h0 []).ext E5).trans Kc11 (fun x hx => Or.inr (by cases List.mem_singleton.mp hx; exact Nat.le_of_eq g2.symm))
  have VP : ∃ k2 L2, Arv Z T11.heap h0.size k2 .byte p1 L2 (.int (0 : Int32)) ∧ L2.length = p1.toNatClampNeg := by
    rw [e11, ← g2]; refine ⟨_, _, Vc11, ?_⟩
    simp only [List.length_append, List.length_take, List.length_drop, List.length_map, List.length_range, List.length_replicate, n4, n1]; omega
  obtain ⟨fs, hr, hrun, hended, hW, hsame⟩ := X11.leave (v := some (.ref b2)) (fun h => by rw [Bd.returns] at h; cases h) Bd.notSynchronized
  exact ⟨_, _, K12 _ (retOut X11 hx Bd.returns rfl (Or.inr (Or.inr (Or.inr (Or.inr ⟨rfl, rfl, rfl⟩)))) (hb hby d9_32) hr), hrun, hended, _, _, rfl, ⟨by rw [g2], N11, KP, VP⟩, ⟨_, rfl⟩, hW, hsame.mono (by decide) (by decide)⟩
theorem d21_0 : decode prog_74_method_24_code 0 = .ok (.aload_n 0, 1) := by decide +kernel
theorem d21_1 : decode prog_74_method_24_code 1 = .ok (.getfield 31, 3) := by decide +kernel
theorem d21_4 : decode prog_74_method_24_code 4 = .ok (.iload_n 1, 1) := by decide +kernel
theorem d21_5 : decode prog_74_method_24_code 5 = .ok (.laload, 1) := by decide +kernel
theorem d21_6 : decode prog_74_method_24_code 6 = .ok (.lreturn, 1) := by decide +kernel
theorem ef_21 (m : MethodId) (x0 : Addr) (x1 : Int32) : entryFrame m #[(.ref x0), (.int x1)] 2 = mkF m 0 #[rv x0, iv x1] [] := by first | (simp [entryFrame, mkF, argsToLocals, Value.category, maxLocals]; done) | rfl
theorem pn_21 : plainName "com/example/bitrun/bitrun/orc/intv2/Segments" = true := by first | (simp [plainName, overriddenIn]; done) | decide +kernel
def Q_rm21 (Z : State) (ob : Addr) (p1 : Int32) (va vb vl vh vf vg vs : Addr) (kv kb kl kh kf kg ks : ClassId) (fl : Int64) (nn nb : Int32) (VV : List Value) (cn : Int32) (VB VL VH VF VG VS : List Value) (w : Int64) (h0 : Heap) (n0 : Nat) (v : Option Value) (h : Heap) (L : List Loc) : Prop := v = some (.long w) ∧ Fr n0 L ∧ h = h0
set_option maxRecDepth 65536 in
set_option maxHeartbeats 40000000 in
theorem rm21 (l : Launch) (Z : State) (a0 : Array Value) (hw : ∀ d ∈ tables_1, d.before a0 Z = true) (ws : List Jvm.Cond) (ob : Addr) (p1 : Int32) (va vb vl vh vf vg vs : Addr) (kv kb kl kh kf kg ks : ClassId) (fl : Int64) (nn nb : Int32) (VV : List Value) (cn : Int32) (VB VL VH VF VG VS : List Value) (w : Int64) (h0 : Heap) (n0 : Nat) (Z0 : n0 ≤ h0.size) (hO : own_O n0 ob va vb vl vh vf vg vs nn nb) (hG : own_G Z h0 ob va vb vl vh vf vg vs kv kb kl kh kf kg ks fl nn nb VV (.ref va) cn VB VL VH VF VG VS) (hp1 : 0 ≤ p1.toInt ∧ p1.toInt < nn.toInt) (hwv : VL.getD p1.toNatClampNeg (.long (0 : Int64)) = .long w) :
    MetFree l (⟨"com/example/bitrun/bitrun/orc/intv2/Segments", "lowest", "(I)J"⟩ : MethodName) (head1 (Jvm.Cond.code (⟨"com/example/bitrun/bitrun/orc/intv2/Segments", "lowest", "(I)J"⟩ : MethodName) prog_74_method_24_code 2 (some .long) :: ws) ({ frames := 0, cells := 0, slots := 0, locals := 0 } : Room)) (fun a U => a = #[(.ref ob), (.int p1)] ∧ Z.Warmed39 U.vm ∧ U.heap = h0) (fun _ _ _ _ _ => True) (fun _ U o U' => ∃ v L, o = .returned v ∧ Q_rm21 Z ob p1 va vb vl vh vf vg vs kv kb kl kh kf kg ks fl nn nb VV cn VB VL VH VF VG VS w h0 n0 v U'.heap L ∧ FrameEnd U o U' L ({ frames := 0, cells := 0, slots := 0, locals := 0 } : Room).cells ({ frames := 0, cells := 0, slots := 0, locals := 0 } : Room).slots) := by
  refine MetFree.of_bodySF (plainFor_of_name pn_21) hisR ?_
  intro p e s m args below meth c s₁ Bd hml0 hP hK
  obtain ⟨rfl, hZ, hh⟩ := hP
  have hx := Bd.exec
  have hby := Bd.bytes
  have hml : c.maxLocals = 2 := hml0
  have hown : s.vm.findClass "com/example/bitrun/bitrun/orc/intv2/Segments" = some m.cls := findClass_of_methodNamed Bd.named
  have hnm := (name_of_methodNamed Bd.named Bd.method).1
  have X0 : Stand p l e ({ frames := 0, cells := 0, slots := 0, locals := 0 } : Room) s m #[(.ref ob), (.int p1)] below meth c s₁ [] 0 0 := Stand.of_body Bd
  have e0 : s₁.heap = h0 := by rw [← hh, Bd.state]; rfl
  have N0 := Fr.nil n0
  have pre0 : ∀ t, Steps p.tables e below (s₁.setTop (mkF m 0 #[rv ob, iv p1] [])) t → Steps p.tables e below (s₁.setTop (entryFrame m #[(.ref ob), (.int p1)] 2)) t := fun t k => castTop (ef_21 m ob p1) k
  obtain ⟨S0, hS0⟩ : ∃ z, z = (s₁.setTop (entryFrame m #[(.ref ob), (.int p1)] 2)) := ⟨_, rfl⟩
  rw [← hS0] at pre0 ⊢
  have K0 : own_R p e below (s₁.setTop (mkF m 0 #[rv ob, iv p1] [])) S0 := pre0
  obtain ⟨o1, o2, o3, o4, o5, o6, o7, o8, o9, o10, o11⟩ := id hO
  have K1 : own_R p e below (s₁.setTop (mkF m 1 #[rv ob, iv p1] [(.ref ob)])) S0 := by
    intro t hk
    refine K0 t ?_
    show Steps p.tables e below (s₁.setTop (mkF m 0 #[rv ob, iv p1] [])) _
    refine XS.aloadN X0.here hx rfl (hb hby d21_0) rfl rfl ?_
    exact hk
  obtain ⟨T2, X2, e2, st2⟩ := getF X0 hx hZ hown (host := "") (Or.inl (hw _ (List.mem_of_getElem? (i := 23) rfl))) Via.refl e0 (own_pF_lowest hG) (g := (mkF m 1 #[rv ob, iv p1] [(.ref ob)])) rfl rfl (hb hby d21_1)
  have K2 : own_R p e below (T2.setTop (mkF m 4 #[rv ob, iv p1] [(.ref vl)])) S0 := fun t hk => K1 t (st2 _ hk)
  have K3 : own_R p e below (T2.setTop (mkF m 5 #[rv ob, iv p1] [(.int p1), (.ref vl)])) S0 := by
    intro t hk
    refine K2 t ?_
    show Steps p.tables e below (T2.setTop (mkF m 4 #[rv ob, iv p1] [(.ref vl)])) _
    refine XS.iloadN X2.here hx rfl (hb hby d21_4) rfl ?_
    exact hk
  obtain ⟨w1, hv_w1, st4⟩ := own_ldJ X2 hx hZ e2 (own_pV_vl hG) (j := p1) (own_b _ _ hp1) (g := (mkF m 5 #[rv ob, iv p1] [(.int p1), (.ref vl)])) rfl rfl (hb hby d21_5)
  rw [show w1 = w from Value.long.inj ((hwv).symm.trans hv_w1 |>.symm)] at st4
  have K4 : own_R p e below (T2.setTop (mkF m 6 #[rv ob, iv p1] [(.long w)])) S0 := fun t hk => K3 t (st4 _ hk)
  obtain ⟨fs, hr, hrun, hended, hW, hsame⟩ := X2.leave (v := some (.long w)) (fun h => by rw [Bd.returns] at h; cases h) Bd.notSynchronized
  exact ⟨_, _, K4 _ (X2.lreturnOut hx Bd.returns (hb hby d21_6) hr), hrun, hended, _, _, rfl, ⟨rfl, N0, e2⟩, ⟨_, rfl⟩, hW, hsame.mono (by decide) (by decide)⟩
theorem d22_0 : decode prog_74_method_25_code 0 = .ok (.aload_n 0, 1) := by decide +kernel
theorem d22_1 : decode prog_74_method_25_code 1 = .ok (.getfield 35, 3) := by decide +kernel
theorem d22_4 : decode prog_74_method_25_code 4 = .ok (.iload_n 1, 1) := by decide +kernel
theorem d22_5 : decode prog_74_method_25_code 5 = .ok (.laload, 1) := by decide +kernel
theorem d22_6 : decode prog_74_method_25_code 6 = .ok (.lreturn, 1) := by decide +kernel
theorem ef_22 (m : MethodId) (x0 : Addr) (x1 : Int32) : entryFrame m #[(.ref x0), (.int x1)] 2 = mkF m 0 #[rv x0, iv x1] [] := by first | (simp [entryFrame, mkF, argsToLocals, Value.category, maxLocals]; done) | rfl
theorem pn_22 : plainName "com/example/bitrun/bitrun/orc/intv2/Segments" = true := by first | (simp [plainName, overriddenIn]; done) | decide +kernel
def Q_rm22 (Z : State) (ob : Addr) (p1 : Int32) (va vb vl vh vf vg vs : Addr) (kv kb kl kh kf kg ks : ClassId) (fl : Int64) (nn nb : Int32) (VV : List Value) (cn : Int32) (VB VL VH VF VG VS : List Value) (w : Int64) (h0 : Heap) (n0 : Nat) (v : Option Value) (h : Heap) (L : List Loc) : Prop := v = some (.long w) ∧ Fr n0 L ∧ h = h0
set_option maxRecDepth 65536 in
set_option maxHeartbeats 40000000 in
theorem rm22 (l : Launch) (Z : State) (a0 : Array Value) (hw : ∀ d ∈ tables_1, d.before a0 Z = true) (ws : List Jvm.Cond) (ob : Addr) (p1 : Int32) (va vb vl vh vf vg vs : Addr) (kv kb kl kh kf kg ks : ClassId) (fl : Int64) (nn nb : Int32) (VV : List Value) (cn : Int32) (VB VL VH VF VG VS : List Value) (w : Int64) (h0 : Heap) (n0 : Nat) (Z0 : n0 ≤ h0.size) (hO : own_O n0 ob va vb vl vh vf vg vs nn nb) (hG : own_G Z h0 ob va vb vl vh vf vg vs kv kb kl kh kf kg ks fl nn nb VV (.ref va) cn VB VL VH VF VG VS) (hp1 : 0 ≤ p1.toInt ∧ p1.toInt < nn.toInt) (hwv : VH.getD p1.toNatClampNeg (.long (0 : Int64)) = .long w) :
    MetFree l (⟨"com/example/bitrun/bitrun/orc/intv2/Segments", "highest", "(I)J"⟩ : MethodName) (head1 (Jvm.Cond.code (⟨"com/example/bitrun/bitrun/orc/intv2/Segments", "highest", "(I)J"⟩ : MethodName) prog_74_method_25_code 2 (some .long) :: ws) ({ frames := 0, cells := 0, slots := 0, locals := 0 } : Room)) (fun a U => a = #[(.ref ob), (.int p1)] ∧ Z.Warmed39 U.vm ∧ U.heap = h0) (fun _ _ _ _ _ => True) (fun _ U o U' => ∃ v L, o = .returned v ∧ Q_rm22 Z ob p1 va vb vl vh vf vg vs kv kb kl kh kf kg ks fl nn nb VV cn VB VL VH VF VG VS w h0 n0 v U'.heap L ∧ FrameEnd U o U' L ({ frames := 0, cells := 0, slots := 0, locals := 0 } : Room).cells ({ frames := 0, cells := 0, slots := 0, locals := 0 } : Room).slots) := by
  refine MetFree.of_bodySF (plainFor_of_name pn_22) hisR ?_
  intro p e s m args below meth c s₁ Bd hml0 hP hK
  obtain ⟨rfl, hZ, hh⟩ := hP
  have hx := Bd.exec
  have hby := Bd.bytes
  have hml : c.maxLocals = 2 := hml0
  have hown : s.vm.findClass "com/example/bitrun/bitrun/orc/intv2/Segments" = some m.cls := findClass_of_methodNamed Bd.named
  have hnm := (name_of_methodNamed Bd.named Bd.method).1
  have X0 : Stand p l e ({ frames := 0, cells := 0, slots := 0, locals := 0 } : Room) s m #[(.ref ob), (.int p1)] below meth c s₁ [] 0 0 := Stand.of_body Bd
  have e0 : s₁.heap = h0 := by rw [← hh, Bd.state]; rfl
  have N0 := Fr.nil n0
  have pre0 : ∀ t, Steps p.tables e below (s₁.setTop (mkF m 0 #[rv ob, iv p1] [])) t → Steps p.tables e below (s₁.setTop (entryFrame m #[(.ref ob), (.int p1)] 2)) t := fun t k => castTop (ef_22 m ob p1) k
  obtain ⟨S0, hS0⟩ : ∃ z, z = (s₁.setTop (entryFrame m #[(.ref ob), (.int p1)] 2)) := ⟨_, rfl⟩
  rw [← hS0] at pre0 ⊢
  have K0 : own_R p e below (s₁.setTop (mkF m 0 #[rv ob, iv p1] [])) S0 := pre0
  obtain ⟨o1, o2, o3, o4, o5, o6, o7, o8, o9, o10, o11⟩ := id hO
  have K1 : own_R p e below (s₁.setTop (mkF m 1 #[rv ob, iv p1] [(.ref ob)])) S0 := by
    intro t hk
    refine K0 t ?_
    show Steps p.tables e below (s₁.setTop (mkF m 0 #[rv ob, iv p1] [])) _
    refine XS.aloadN X0.here hx rfl (hb hby d22_0) rfl rfl ?_
    exact hk
  obtain ⟨T2, X2, e2, st2⟩ := getF X0 hx hZ hown (host := "") (Or.inl (hw _ (List.mem_of_getElem? (i := 25) rfl))) Via.refl e0 (own_pF_highest hG) (g := (mkF m 1 #[rv ob, iv p1] [(.ref ob)])) rfl rfl (hb hby d22_1)
  have K2 : own_R p e below (T2.setTop (mkF m 4 #[rv ob, iv p1] [(.ref vh)])) S0 := fun t hk => K1 t (st2 _ hk)
  have K3 : own_R p e below (T2.setTop (mkF m 5 #[rv ob, iv p1] [(.int p1), (.ref vh)])) S0 := by
    intro t hk
    refine K2 t ?_
    show Steps p.tables e below (T2.setTop (mkF m 4 #[rv ob, iv p1] [(.ref vh)])) _
    refine XS.iloadN X2.here hx rfl (hb hby d22_4) rfl ?_
    exact hk
  obtain ⟨w1, hv_w1, st4⟩ := own_ldJ X2 hx hZ e2 (own_pV_vh hG) (j := p1) (own_b _ _ hp1) (g := (mkF m 5 #[rv ob, iv p1] [(.int p1), (.ref vh)])) rfl rfl (hb hby d22_5)
  rw [show w1 = w from Value.long.inj ((hwv).symm.trans hv_w1 |>.symm)] at st4
  have K4 : own_R p e below (T2.setTop (mkF m 6 #[rv ob, iv p1] [(.long w)])) S0 := fun t hk => K3 t (st4 _ hk)
  obtain ⟨fs, hr, hrun, hended, hW, hsame⟩ := X2.leave (v := some (.long w)) (fun h => by rw [Bd.returns] at h; cases h) Bd.notSynchronized
  exact ⟨_, _, K4 _ (X2.lreturnOut hx Bd.returns (hb hby d22_6) hr), hrun, hended, _, _, rfl, ⟨rfl, N0, e2⟩, ⟨_, rfl⟩, hW, hsame.mono (by decide) (by decide)⟩
theorem d23_0 : decode prog_74_method_26_code 0 = .ok (.aload_n 0, 1) := by decide +kernel
theorem d23_1 : decode prog_74_method_26_code 1 = .ok (.getfield 38, 3) := by decide +kernel
theorem d23_4 : decode prog_74_method_26_code 4 = .ok (.iload_n 1, 1) := by decide +kernel
theorem d23_5 : decode prog_74_method_26_code 5 = .ok (.laload, 1) := by decide +kernel
theorem d23_6 : decode prog_74_method_26_code 6 = .ok (.lreturn, 1) := by decide +kernel
theorem ef_23 (m : MethodId) (x0 : Addr) (x1 : Int32) : entryFrame m #[(.ref x0), (.int x1)] 2 = mkF m 0 #[rv x0, iv x1] [] := by first | (simp [entryFrame, mkF, argsToLocals, Value.category, maxLocals]; done) | rfl
theorem pn_23 : plainName "com/example/bitrun/bitrun/orc/intv2/Segments" = true := by first | (simp [plainName, overriddenIn]; done) | decide +kernel
def Q_rm23 (Z : State) (ob : Addr) (p1 : Int32) (va vb vl vh vf vg vs : Addr) (kv kb kl kh kf kg ks : ClassId) (fl : Int64) (nn nb : Int32) (VV : List Value) (cn : Int32) (VB VL VH VF VG VS : List Value) (w : Int64) (h0 : Heap) (n0 : Nat) (v : Option Value) (h : Heap) (L : List Loc) : Prop := v = some (.long w) ∧ Fr n0 L ∧ h = h0
set_option maxRecDepth 65536 in
set_option maxHeartbeats 40000000 in
theorem rm23 (l : Launch) (Z : State) (a0 : Array Value) (hw : ∀ d ∈ tables_1, d.before a0 Z = true) (ws : List Jvm.Cond) (ob : Addr) (p1 : Int32) (va vb vl vh vf vg vs : Addr) (kv kb kl kh kf kg ks : ClassId) (fl : Int64) (nn nb : Int32) (VV : List Value) (cn : Int32) (VB VL VH VF VG VS : List Value) (w : Int64) (h0 : Heap) (n0 : Nat) (Z0 : n0 ≤ h0.size) (hO : own_O n0 ob va vb vl vh vf vg vs nn nb) (hG : own_G Z h0 ob va vb vl vh vf vg vs kv kb kl kh kf kg ks fl nn nb VV (.ref va) cn VB VL VH VF VG VS) (hp1 : 0 ≤ p1.toInt ∧ p1.toInt < nn.toInt) (hwv : VF.getD p1.toNatClampNeg (.long (0 : Int64)) = .long w) :
    MetFree l (⟨"com/example/bitrun/bitrun/orc/intv2/Segments", "firstStep", "(I)J"⟩ : MethodName) (head1 (Jvm.Cond.code (⟨"com/example/bitrun/bitrun/orc/intv2/Segments", "firstStep", "(I)J"⟩ : MethodName) prog_74_method_26_code 2 (some .long) :: ws) ({ frames := 0, cells := 0, slots := 0, locals := 0 } : Room)) (fun a U => a = #[(.ref ob), (.int p1)] ∧ Z.Warmed39 U.vm ∧ U.heap = h0) (fun _ _ _ _ _ => True) (fun _ U o U' => ∃ v L, o = .returned v ∧ Q_rm23 Z ob p1 va vb vl vh vf vg vs kv kb kl kh kf kg ks fl nn nb VV cn VB VL VH VF VG VS w h0 n0 v U'.heap L ∧ FrameEnd U o U' L ({ frames := 0, cells := 0, slots := 0, locals := 0 } : Room).cells ({ frames := 0, cells := 0, slots := 0, locals := 0 } : Room).slots) := by
  refine MetFree.of_bodySF (plainFor_of_name pn_23) hisR ?_
  intro p e s m args below meth c s₁ Bd hml0 hP hK
  obtain ⟨rfl, hZ, hh⟩ := hP
  have hx := Bd.exec
  have hby := Bd.bytes
  have hml : c.maxLocals = 2 := hml0
  have hown : s.vm.findClass "com/example/bitrun/bitrun/orc/intv2/Segments" = some m.cls := findClass_of_methodNamed Bd.named
  have hnm := (name_of_methodNamed Bd.named Bd.method).1
  have X0 : Stand p l e ({ frames := 0, cells := 0, slots := 0, locals := 0 } : Room) s m #[(.ref ob), (.int p1)] below meth c s₁ [] 0 0 := Stand.of_body Bd
  have e0 : s₁.heap = h0 := by rw [← hh, Bd.state]; rfl
  have N0 := Fr.nil n0
  have pre0 : ∀ t, Steps p.tables e below (s₁.setTop (mkF m 0 #[rv ob, iv p1] [])) t → Steps p.tables e below (s₁.setTop (entryFrame m #[(.ref ob), (.int p1)] 2)) t := fun t k => castTop (ef_23 m ob p1) k
  obtain ⟨S0, hS0⟩ : ∃ z, z = (s₁.setTop (entryFrame m #[(.ref ob), (.int p1)] 2)) := ⟨_, rfl⟩
  rw [← hS0] at pre0 ⊢
  have K0 : own_R p e below (s₁.setTop (mkF m 0 #[rv ob, iv p1] [])) S0 := pre0
  obtain ⟨o1, o2, o3, o4, o5, o6, o7, o8, o9, o10, o11⟩ := id hO
  have K1 : own_R p e below (s₁.setTop (mkF m 1 #[rv ob, iv p1] [(.ref ob)])) S0 := by
    intro t hk
    refine K0 t ?_
    show Steps p.tables e below (s₁.setTop (mkF m 0 #[rv ob, iv p1] [])) _
    refine XS.aloadN X0.here hx rfl (hb hby d23_0) rfl rfl ?_
    exact hk
  obtain ⟨T2, X2, e2, st2⟩ := getF X0 hx hZ hown (host := "") (Or.inl (hw _ (List.mem_of_getElem? (i := 27) rfl))) Via.refl e0 (own_pF_firstStep hG) (g := (mkF m 1 #[rv ob, iv p1] [(.ref ob)])) rfl rfl (hb hby d23_1)
  have K2 : own_R p e below (T2.setTop (mkF m 4 #[rv ob, iv p1] [(.ref vf)])) S0 := fun t hk => K1 t (st2 _ hk)
  have K3 : own_R p e below (T2.setTop (mkF m 5 #[rv ob, iv p1] [(.int p1), (.ref vf)])) S0 := by
    intro t hk
    refine K2 t ?_
    show Steps p.tables e below (T2.setTop (mkF m 4 #[rv ob, iv p1] [(.ref vf)])) _
    refine XS.iloadN X2.here hx rfl (hb hby d23_4) rfl ?_
    exact hk
  obtain ⟨w1, hv_w1, st4⟩ := own_ldJ X2 hx hZ e2 (own_pV_vf hG) (j := p1) (own_b _ _ hp1) (g := (mkF m 5 #[rv ob, iv p1] [(.int p1), (.ref vf)])) rfl rfl (hb hby d23_5)
  rw [show w1 = w from Value.long.inj ((hwv).symm.trans hv_w1 |>.symm)] at st4
  have K4 : own_R p e below (T2.setTop (mkF m 6 #[rv ob, iv p1] [(.long w)])) S0 := fun t hk => K3 t (st4 _ hk)
  obtain ⟨fs, hr, hrun, hended, hW, hsame⟩ := X2.leave (v := some (.long w)) (fun h => by rw [Bd.returns] at h; cases h) Bd.notSynchronized
  exact ⟨_, _, K4 _ (X2.lreturnOut hx Bd.returns (hb hby d23_6) hr), hrun, hended, _, _, rfl, ⟨rfl, N0, e2⟩, ⟨_, rfl⟩, hW, hsame.mono (by decide) (by decide)⟩
theorem d24_0 : decode prog_74_method_27_code 0 = .ok (.aload_n 0, 1) := by decide +kernel
theorem d24_1 : decode prog_74_method_27_code 1 = .ok (.getfield 41, 3) := by decide +kernel
theorem d24_4 : decode prog_74_method_27_code 4 = .ok (.iload_n 1, 1) := by decide +kernel
theorem d24_5 : decode prog_74_method_27_code 5 = .ok (.laload, 1) := by decide +kernel
theorem d24_6 : decode prog_74_method_27_code 6 = .ok (.lreturn, 1) := by decide +kernel
theorem ef_24 (m : MethodId) (x0 : Addr) (x1 : Int32) : entryFrame m #[(.ref x0), (.int x1)] 2 = mkF m 0 #[rv x0, iv x1] [] := by first | (simp [entryFrame, mkF, argsToLocals, Value.category, maxLocals]; done) | rfl
theorem pn_24 : plainName "com/example/bitrun/bitrun/orc/intv2/Segments" = true := by first | (simp [plainName, overriddenIn]; done) | decide +kernel
def Q_rm24 (Z : State) (ob : Addr) (p1 : Int32) (va vb vl vh vf vg vs : Addr) (kv kb kl kh kf kg ks : ClassId) (fl : Int64) (nn nb : Int32) (VV : List Value) (cn : Int32) (VB VL VH VF VG VS : List Value) (w : Int64) (h0 : Heap) (n0 : Nat) (v : Option Value) (h : Heap) (L : List Loc) : Prop := v = some (.long w) ∧ Fr n0 L ∧ h = h0
set_option maxRecDepth 65536 in
set_option maxHeartbeats 40000000 in
theorem rm24 (l : Launch) (Z : State) (a0 : Array Value) (hw : ∀ d ∈ tables_1, d.before a0 Z = true) (ws : List Jvm.Cond) (ob : Addr) (p1 : Int32) (va vb vl vh vf vg vs : Addr) (kv kb kl kh kf kg ks : ClassId) (fl : Int64) (nn nb : Int32) (VV : List Value) (cn : Int32) (VB VL VH VF VG VS : List Value) (w : Int64) (h0 : Heap) (n0 : Nat) (Z0 : n0 ≤ h0.size) (hO : own_O n0 ob va vb vl vh vf vg vs nn nb) (hG : own_G Z h0 ob va vb vl vh vf vg vs kv kb kl kh kf kg ks fl nn nb VV (.ref va) cn VB VL VH VF VG VS) (hp1 : 0 ≤ p1.toInt ∧ p1.toInt < nn.toInt) (hwv : VG.getD p1.toNatClampNeg (.long (0 : Int64)) = .long w) :
    MetFree l (⟨"com/example/bitrun/bitrun/orc/intv2/Segments", "magnitudes", "(I)J"⟩ : MethodName) (head1 (Jvm.Cond.code (⟨"com/example/bitrun/bitrun/orc/intv2/Segments", "magnitudes", "(I)J"⟩ : MethodName) prog_74_method_27_code 2 (some .long) :: ws) ({ frames := 0, cells := 0, slots := 0, locals := 0 } : Room)) (fun a U => a = #[(.ref ob), (.int p1)] ∧ Z.Warmed39 U.vm ∧ U.heap = h0) (fun _ _ _ _ _ => True) (fun _ U o U' => ∃ v L, o = .returned v ∧ Q_rm24 Z ob p1 va vb vl vh vf vg vs kv kb kl kh kf kg ks fl nn nb VV cn VB VL VH VF VG VS w h0 n0 v U'.heap L ∧ FrameEnd U o U' L ({ frames := 0, cells := 0, slots := 0, locals := 0 } : Room).cells ({ frames := 0, cells := 0, slots := 0, locals := 0 } : Room).slots) := by
  refine MetFree.of_bodySF (plainFor_of_name pn_24) hisR ?_
  intro p e s m args below meth c s₁ Bd hml0 hP hK
  obtain ⟨rfl, hZ, hh⟩ := hP
  have hx := Bd.exec
  have hby := Bd.bytes
  have hml : c.maxLocals = 2 := hml0
  have hown : s.vm.findClass "com/example/bitrun/bitrun/orc/intv2/Segments" = some m.cls := findClass_of_methodNamed Bd.named
  have hnm := (name_of_methodNamed Bd.named Bd.method).1
  have X0 : Stand p l e ({ frames := 0, cells := 0, slots := 0, locals := 0 } : Room) s m #[(.ref ob), (.int p1)] below meth c s₁ [] 0 0 := Stand.of_body Bd
  have e0 : s₁.heap = h0 := by rw [← hh, Bd.state]; rfl
  have N0 := Fr.nil n0
  have pre0 : ∀ t, Steps p.tables e below (s₁.setTop (mkF m 0 #[rv ob, iv p1] [])) t → Steps p.tables e below (s₁.setTop (entryFrame m #[(.ref ob), (.int p1)] 2)) t := fun t k => castTop (ef_24 m ob p1) k
  obtain ⟨S0, hS0⟩ : ∃ z, z = (s₁.setTop (entryFrame m #[(.ref ob), (.int p1)] 2)) := ⟨_, rfl⟩
  rw [← hS0] at pre0 ⊢
  have K0 : own_R p e below (s₁.setTop (mkF m 0 #[rv ob, iv p1] [])) S0 := pre0
  obtain ⟨o1, o2, o3, o4, o5, o6, o7, o8, o9, o10, o11⟩ := id hO
  have K1 : own_R p e below (s₁.setTop (mkF m 1 #[rv ob, iv p1] [(.ref ob)])) S0 := by
    intro t hk
    refine K0 t ?_
    show Steps p.tables e below (s₁.setTop (mkF m 0 #[rv ob, iv p1] [])) _
    refine XS.aloadN X0.here hx rfl (hb hby d24_0) rfl rfl ?_
    exact hk
  obtain ⟨T2, X2, e2, st2⟩ := getF X0 hx hZ hown (host := "") (Or.inl (hw _ (List.mem_of_getElem? (i := 29) rfl))) Via.refl e0 (own_pF_magnitudes hG) (g := (mkF m 1 #[rv ob, iv p1] [(.ref ob)])) rfl rfl (hb hby d24_1)
  have K2 : own_R p e below (T2.setTop (mkF m 4 #[rv ob, iv p1] [(.ref vg)])) S0 := fun t hk => K1 t (st2 _ hk)
  have K3 : own_R p e below (T2.setTop (mkF m 5 #[rv ob, iv p1] [(.int p1), (.ref vg)])) S0 := by
    intro t hk
    refine K2 t ?_
    show Steps p.tables e below (T2.setTop (mkF m 4 #[rv ob, iv p1] [(.ref vg)])) _
    refine XS.iloadN X2.here hx rfl (hb hby d24_4) rfl ?_
    exact hk
  obtain ⟨w1, hv_w1, st4⟩ := own_ldJ X2 hx hZ e2 (own_pV_vg hG) (j := p1) (own_b _ _ hp1) (g := (mkF m 5 #[rv ob, iv p1] [(.int p1), (.ref vg)])) rfl rfl (hb hby d24_5)
  rw [show w1 = w from Value.long.inj ((hwv).symm.trans hv_w1 |>.symm)] at st4
  have K4 : own_R p e below (T2.setTop (mkF m 6 #[rv ob, iv p1] [(.long w)])) S0 := fun t hk => K3 t (st4 _ hk)
  obtain ⟨fs, hr, hrun, hended, hW, hsame⟩ := X2.leave (v := some (.long w)) (fun h => by rw [Bd.returns] at h; cases h) Bd.notSynchronized
  exact ⟨_, _, K4 _ (X2.lreturnOut hx Bd.returns (hb hby d24_6) hr), hrun, hended, _, _, rfl, ⟨rfl, N0, e2⟩, ⟨_, rfl⟩, hW, hsame.mono (by decide) (by decide)⟩
theorem d25_0 : decode prog_74_method_28_code 0 = .ok (.aload_n 0, 1) := by decide +kernel
theorem d25_1 : decode prog_74_method_28_code 1 = .ok (.getfield 44, 3) := by decide +kernel
theorem d25_4 : decode prog_74_method_28_code 4 = .ok (.iload_n 1, 1) := by decide +kernel
theorem d25_5 : decode prog_74_method_28_code 5 = .ok (.baload, 1) := by decide +kernel
theorem d25_6 : decode prog_74_method_28_code 6 = .ok (.ireturn, 1) := by decide +kernel
theorem ef_25 (m : MethodId) (x0 : Addr) (x1 : Int32) : entryFrame m #[(.ref x0), (.int x1)] 2 = mkF m 0 #[rv x0, iv x1] [] := by first | (simp [entryFrame, mkF, argsToLocals, Value.category, maxLocals]; done) | rfl
theorem pn_25 : plainName "com/example/bitrun/bitrun/orc/intv2/Segments" = true := by first | (simp [plainName, overriddenIn]; done) | decide +kernel
def Q_rm25 (Z : State) (ob : Addr) (p1 : Int32) (va vb vl vh vf vg vs : Addr) (kv kb kl kh kf kg ks : ClassId) (fl : Int64) (nn nb : Int32) (VV : List Value) (cn : Int32) (VB VL VH VF VG VS : List Value) (w : Int32) (h0 : Heap) (n0 : Nat) (v : Option Value) (h : Heap) (L : List Loc) : Prop := v = some (.int w) ∧ Fr n0 L ∧ h = h0
set_option maxRecDepth 65536 in
set_option maxHeartbeats 40000000 in
theorem rm25 (l : Launch) (Z : State) (a0 : Array Value) (hw : ∀ d ∈ tables_1, d.before a0 Z = true) (ws : List Jvm.Cond) (ob : Addr) (p1 : Int32) (va vb vl vh vf vg vs : Addr) (kv kb kl kh kf kg ks : ClassId) (fl : Int64) (nn nb : Int32) (VV : List Value) (cn : Int32) (VB VL VH VF VG VS : List Value) (w : Int32) (h0 : Heap) (n0 : Nat) (Z0 : n0 ≤ h0.size) (hO : own_O n0 ob va vb vl vh vf vg vs nn nb) (hG : own_G Z h0 ob va vb vl vh vf vg vs kv kb kl kh kf kg ks fl nn nb VV (.ref va) cn VB VL VH VF VG VS) (hp1 : 0 ≤ p1.toInt ∧ p1.toInt < nn.toInt) (hwv : VS.getD p1.toNatClampNeg (.int (0 : Int32)) = .int w) :
    MetFree l (⟨"com/example/bitrun/bitrun/orc/intv2/Segments", "steps", "(I)I"⟩ : MethodName) (head1 (Jvm.Cond.code (⟨"com/example/bitrun/bitrun/orc/intv2/Segments", "steps", "(I)I"⟩ : MethodName) prog_74_method_28_code 2 (some .int) :: ws) ({ frames := 0, cells := 0, slots := 0, locals := 0 } : Room)) (fun a U => a = #[(.ref ob), (.int p1)] ∧ Z.Warmed39 U.vm ∧ U.heap = h0) (fun _ _ _ _ _ => True) (fun _ U o U' => ∃ v L, o = .returned v ∧ Q_rm25 Z ob p1 va vb vl vh vf vg vs kv kb kl kh kf kg ks fl nn nb VV cn VB VL VH VF VG VS w h0 n0 v U'.heap L ∧ FrameEnd U o U' L ({ frames := 0, cells := 0, slots := 0, locals := 0 } : Room).cells ({ frames := 0, cells := 0, slots := 0, locals := 0 } : Room).slots) := by
  refine MetFree.of_bodySF (plainFor_of_name pn_25) hisR ?_
  intro p e s m args below meth c s₁ Bd hml0 hP hK
  obtain ⟨rfl, hZ, hh⟩ := hP
  have hx := Bd.exec
  have hby := Bd.bytes
  have hml : c.maxLocals = 2 := hml0
  have hown : s.vm.findClass "com/example/bitrun/bitrun/orc/intv2/Segments" = some m.cls := findClass_of_methodNamed Bd.named
  have hnm := (name_of_methodNamed Bd.named Bd.method).1
  have X0 : Stand p l e ({ frames := 0, cells := 0, slots := 0, locals := 0 } : Room) s m #[(.ref ob), (.int p1)] below meth c s₁ [] 0 0 := Stand.of_body Bd
  have e0 : s₁.heap = h0 := by rw [← hh, Bd.state]; rfl
  have N0 := Fr.nil n0
  have pre0 : ∀ t, Steps p.tables e below (s₁.setTop (mkF m 0 #[rv ob, iv p1] [])) t → Steps p.tables e below (s₁.setTop (entryFrame m #[(.ref ob), (.int p1)] 2)) t := fun t k => castTop (ef_25 m ob p1) k
  obtain ⟨S0, hS0⟩ : ∃ z, z = (s₁.setTop (entryFrame m #[(.ref ob), (.int p1)] 2)) := ⟨_, rfl⟩
  rw [← hS0] at pre0 ⊢
  have K0 : own_R p e below (s₁.setTop (mkF m 0 #[rv ob, iv p1] [])) S0 := pre0
  obtain ⟨o1, o2, o3, o4, o5, o6, o7, o8, o9, o10, o11⟩ := id hO
  have K1 : own_R p e below (s₁.setTop (mkF m 1 #[rv ob, iv p1] [(.ref ob)])) S0 := by
    intro t hk
    refine K0 t ?_
    show Steps p.tables e below (s₁.setTop (mkF m 0 #[rv ob, iv p1] [])) _
    refine XS.aloadN X0.here hx rfl (hb hby d25_0) rfl rfl ?_
    exact hk
  obtain ⟨T2, X2, e2, st2⟩ := getF X0 hx hZ hown (host := "") (Or.inl (hw _ (List.mem_of_getElem? (i := 32) rfl))) Via.refl e0 (own_pF_steps hG) (g := (mkF m 1 #[rv ob, iv p1] [(.ref ob)])) rfl rfl (hb hby d25_1)
  have K2 : own_R p e below (T2.setTop (mkF m 4 #[rv ob, iv p1] [(.ref vs)])) S0 := fun t hk => K1 t (st2 _ hk)
  have K3 : own_R p e below (T2.setTop (mkF m 5 #[rv ob, iv p1] [(.int p1), (.ref vs)])) S0 := by
    intro t hk
    refine K2 t ?_
    show Steps p.tables e below (T2.setTop (mkF m 4 #[rv ob, iv p1] [(.ref vs)])) _
    refine XS.iloadN X2.here hx rfl (hb hby d25_4) rfl ?_
    exact hk
  obtain ⟨w1, hv_w1, st4⟩ := own_ldB X2 hx hZ e2 (own_pV_vs hG) (j := p1) (own_b _ _ hp1) (g := (mkF m 5 #[rv ob, iv p1] [(.int p1), (.ref vs)])) rfl rfl (hb hby d25_5)
  rw [show w1 = w from Value.int.inj ((hwv).symm.trans hv_w1 |>.symm)] at st4
  have K4 : own_R p e below (T2.setTop (mkF m 6 #[rv ob, iv p1] [(.int w)])) S0 := fun t hk => K3 t (st4 _ hk)
  obtain ⟨fs, hr, hrun, hended, hW, hsame⟩ := X2.leave (v := some (.int w)) (fun h => by rw [Bd.returns] at h; cases h) Bd.notSynchronized
  exact ⟨_, _, K4 _ (retI X2 hx Bd.returns (hb hby d25_6) hr), hrun, hended, _, _, rfl, ⟨rfl, N0, e2⟩, ⟨_, rfl⟩, hW, hsame.mono (by decide) (by decide)⟩
theorem d28_0 : decode prog_74_method_22_code 0 = .ok (.aload_n 0, 1) := by decide +kernel
theorem d28_1 : decode prog_74_method_22_code 1 = .ok (.getfield 27, 3) := by decide +kernel
theorem d28_4 : decode prog_74_method_22_code 4 = .ok (.iload_n 1, 1) := by decide +kernel
theorem d28_5 : decode prog_74_method_22_code 5 = .ok (.iaload, 1) := by decide +kernel
theorem d28_6 : decode prog_74_method_22_code 6 = .ok (.ireturn, 1) := by decide +kernel
theorem ef_28 (m : MethodId) (x0 : Addr) (x1 : Int32) : entryFrame m #[(.ref x0), (.int x1)] 2 = mkF m 0 #[rv x0, iv x1] [] := by first | (simp [entryFrame, mkF, argsToLocals, Value.category, maxLocals]; done) | rfl
theorem pn_28 : plainName "com/example/bitrun/bitrun/orc/intv2/Segments" = true := by first | (simp [plainName, overriddenIn]; done) | decide +kernel
def Q_rm28 (Z : State) (ob : Addr) (p1 : Int32) (va vb vl vh vf vg vs : Addr) (kv kb kl kh kf kg ks : ClassId) (fl : Int64) (nn nb : Int32) (VV : List Value) (cn : Int32) (VB VL VH VF VG VS : List Value) (w : Int32) (h0 : Heap) (n0 : Nat) (v : Option Value) (h : Heap) (L : List Loc) : Prop := v = some (.int w) ∧ Fr n0 L ∧ h = h0
set_option maxRecDepth 65536 in
set_option maxHeartbeats 40000000 in
theorem rm28 (l : Launch) (Z : State) (a0 : Array Value) (hw : ∀ d ∈ tables_1, d.before a0 Z = true) (ws : List Jvm.Cond) (ob : Addr) (p1 : Int32) (va vb vl vh vf vg vs : Addr) (kv kb kl kh kf kg ks : ClassId) (fl : Int64) (nn nb : Int32) (VV : List Value) (cn : Int32) (VB VL VH VF VG VS : List Value) (w : Int32) (h0 : Heap) (n0 : Nat) (Z0 : n0 ≤ h0.size) (hO : own_O n0 ob va vb vl vh vf vg vs nn nb) (hG : own_G Z h0 ob va vb vl vh vf vg vs kv kb kl kh kf kg ks fl nn nb VV (.ref va) cn VB VL VH VF VG VS) (hp1 : 0 ≤ p1.toInt ∧ p1.toInt < nb.toInt) (hwv : VB.getD p1.toNatClampNeg (.int (0 : Int32)) = .int w) :
    MetFree l (⟨"com/example/bitrun/bitrun/orc/intv2/Segments", "bound", "(I)I"⟩ : MethodName) (head1 (Jvm.Cond.code (⟨"com/example/bitrun/bitrun/orc/intv2/Segments", "bound", "(I)I"⟩ : MethodName) prog_74_method_22_code 2 (some .int) :: ws) ({ frames := 0, cells := 0, slots := 0, locals := 0 } : Room)) (fun a U => a = #[(.ref ob), (.int p1)] ∧ Z.Warmed39 U.vm ∧ U.heap = h0) (fun _ _ _ _ _ => True) (fun _ U o U' => ∃ v L, o = .returned v ∧ Q_rm28 Z ob p1 va vb vl vh vf vg vs kv kb kl kh kf kg ks fl nn nb VV cn VB VL VH VF VG VS w h0 n0 v U'.heap L ∧ FrameEnd U o U' L ({ frames := 0, cells := 0, slots := 0, locals := 0 } : Room).cells ({ frames := 0, cells := 0, slots := 0, locals := 0 } : Room).slots) := by
  refine MetFree.of_bodySF (plainFor_of_name pn_28) hisR ?_
  intro p e s m args below meth c s₁ Bd hml0 hP hK
  obtain ⟨rfl, hZ, hh⟩ := hP
  have hx := Bd.exec
  have hby := Bd.bytes
  have hml : c.maxLocals = 2 := hml0
  have hown : s.vm.findClass "com/example/bitrun/bitrun/orc/intv2/Segments" = some m.cls := findClass_of_methodNamed Bd.named
  have hnm := (name_of_methodNamed Bd.named Bd.method).1
  have X0 : Stand p l e ({ frames := 0, cells := 0, slots := 0, locals := 0 } : Room) s m #[(.ref ob), (.int p1)] below meth c s₁ [] 0 0 := Stand.of_body Bd
  have e0 : s₁.heap = h0 := by rw [← hh, Bd.state]; rfl
  have N0 := Fr.nil n0
  have pre0 : ∀ t, Steps p.tables e below (s₁.setTop (mkF m 0 #[rv ob, iv p1] [])) t → Steps p.tables e below (s₁.setTop (entryFrame m #[(.ref ob), (.int p1)] 2)) t := fun t k => castTop (ef_28 m ob p1) k
  obtain ⟨S0, hS0⟩ : ∃ z, z = (s₁.setTop (entryFrame m #[(.ref ob), (.int p1)] 2)) := ⟨_, rfl⟩
  rw [← hS0] at pre0 ⊢
  have K0 : own_R p e below (s₁.setTop (mkF m 0 #[rv ob, iv p1] [])) S0 := pre0
  obtain ⟨o1, o2, o3, o4, o5, o6, o7, o8, o9, o10, o11⟩ := id hO
  have K1 : own_R p e below (s₁.setTop (mkF m 1 #[rv ob, iv p1] [(.ref ob)])) S0 := by
    intro t hk
    refine K0 t ?_
    show Steps p.tables e below (s₁.setTop (mkF m 0 #[rv ob, iv p1] [])) _
    refine XS.aloadN X0.here hx rfl (hb hby d28_0) rfl rfl ?_
    exact hk
  obtain ⟨T2, X2, e2, st2⟩ := getF X0 hx hZ hown (host := "") (Or.inl (hw _ (List.mem_of_getElem? (i := 21) rfl))) Via.refl e0 (own_pF_bounds hG) (g := (mkF m 1 #[rv ob, iv p1] [(.ref ob)])) rfl rfl (hb hby d28_1)
  have K2 : own_R p e below (T2.setTop (mkF m 4 #[rv ob, iv p1] [(.ref vb)])) S0 := fun t hk => K1 t (st2 _ hk)
  have K3 : own_R p e below (T2.setTop (mkF m 5 #[rv ob, iv p1] [(.int p1), (.ref vb)])) S0 := by
    intro t hk
    refine K2 t ?_
    show Steps p.tables e below (T2.setTop (mkF m 4 #[rv ob, iv p1] [(.ref vb)])) _
    refine XS.iloadN X2.here hx rfl (hb hby d28_4) rfl ?_
    exact hk
  obtain ⟨w1, hv_w1, st4⟩ := own_ldI X2 hx hZ e2 (own_pV_vb hG) (j := p1) (own_b _ _ hp1) (g := (mkF m 5 #[rv ob, iv p1] [(.int p1), (.ref vb)])) rfl rfl (hb hby d28_5)
  rw [show w1 = w from Value.int.inj ((hwv).symm.trans hv_w1 |>.symm)] at st4
  have K4 : own_R p e below (T2.setTop (mkF m 6 #[rv ob, iv p1] [(.int w)])) S0 := fun t hk => K3 t (st4 _ hk)
  obtain ⟨fs, hr, hrun, hended, hW, hsame⟩ := X2.leave (v := some (.int w)) (fun h => by rw [Bd.returns] at h; cases h) Bd.notSynchronized
  exact ⟨_, _, K4 _ (retI X2 hx Bd.returns (hb hby d28_6) hr), hrun, hended, _, _, rfl, ⟨rfl, N0, e2⟩, ⟨_, rfl⟩, hW, hsame.mono (by decide) (by decide)⟩
theorem d27_0 : decode prog_74_method_8_code 0 = .ok (.aload_n 0, 1) := by decide +kernel
theorem d27_1 : decode prog_74_method_8_code 1 = .ok (.getfield 64, 3) := by decide +kernel
theorem d27_4 : decode prog_74_method_8_code 4 = .ok (.ireturn, 1) := by decide +kernel
theorem ef_27 (m : MethodId) (x0 : Addr) : entryFrame m #[(.ref x0)] 1 = mkF m 0 #[rv x0] [] := by first | (simp [entryFrame, mkF, argsToLocals, Value.category, maxLocals]; done) | rfl
theorem pn_27 : plainName "com/example/bitrun/bitrun/orc/intv2/Segments" = true := by first | (simp [plainName, overriddenIn]; done) | decide +kernel
def Q_rm27 (Z : State) (ob : Addr) (va vb vl vh vf vg vs : Addr) (kv kb kl kh kf kg ks : ClassId) (fl : Int64) (nn nb : Int32) (VV : List Value) (cn : Int32) (VB VL VH VF VG VS : List Value) (h0 : Heap) (n0 : Nat) (v : Option Value) (h : Heap) (L : List Loc) : Prop := v = some (.int cn) ∧ Fr n0 L ∧ h = h0
set_option maxRecDepth 65536 in
set_option maxHeartbeats 40000000 in
theorem rm27 (l : Launch) (Z : State) (a0 : Array Value) (hw : ∀ d ∈ tables_1, d.before a0 Z = true) (ws : List Jvm.Cond) (ob : Addr) (va vb vl vh vf vg vs : Addr) (kv kb kl kh kf kg ks : ClassId) (fl : Int64) (nn nb : Int32) (VV : List Value) (cn : Int32) (VB VL VH VF VG VS : List Value) (h0 : Heap) (n0 : Nat) (Z0 : n0 ≤ h0.size) (hO : own_O n0 ob va vb vl vh vf vg vs nn nb) (hG : own_G Z h0 ob va vb vl vh vf vg vs kv kb kl kh kf kg ks fl nn nb VV (.ref va) cn VB VL VH VF VG VS)  :
    MetFree l (⟨"com/example/bitrun/bitrun/orc/intv2/Segments", "count", "()I"⟩ : MethodName) (head1 (Jvm.Cond.code (⟨"com/example/bitrun/bitrun/orc/intv2/Segments", "count", "()I"⟩ : MethodName) prog_74_method_8_code 1 (some .int) :: ws) ({ frames := 0, cells := 0, slots := 0, locals := 0 } : Room)) (fun a U => a = #[(.ref ob)] ∧ Z.Warmed39 U.vm ∧ U.heap = h0) (fun _ _ _ _ _ => True) (fun _ U o U' => ∃ v L, o = .returned v ∧ Q_rm27 Z ob va vb vl vh vf vg vs kv kb kl kh kf kg ks fl nn nb VV cn VB VL VH VF VG VS h0 n0 v U'.heap L ∧ FrameEnd U o U' L ({ frames := 0, cells := 0, slots := 0, locals := 0 } : Room).cells ({ frames := 0, cells := 0, slots := 0, locals := 0 } : Room).slots) := by
  refine MetFree.of_bodySF (plainFor_of_name pn_27) hisR ?_
  intro p e s m args below meth c s₁ Bd hml0 hP hK
  obtain ⟨rfl, hZ, hh⟩ := hP
  have hx := Bd.exec
  have hby := Bd.bytes
  have hml : c.maxLocals = 1 := hml0
  have hown : s.vm.findClass "com/example/bitrun/bitrun/orc/intv2/Segments" = some m.cls := findClass_of_methodNamed Bd.named
  have hnm := (name_of_methodNamed Bd.named Bd.method).1
  have X0 : Stand p l e ({ frames := 0, cells := 0, slots := 0, locals := 0 } : Room) s m #[(.ref ob)] below meth c s₁ [] 0 0 := Stand.of_body Bd
  have e0 : s₁.heap = h0 := by rw [← hh, Bd.state]; rfl
  have N0 := Fr.nil n0
  have pre0 : ∀ t, Steps p.tables e below (s₁.setTop (mkF m 0 #[rv ob] [])) t → Steps p.tables e below (s₁.setTop (entryFrame m #[(.ref ob)] 1)) t := fun t k => castTop (ef_27 m ob) k
  obtain ⟨S0, hS0⟩ : ∃ z, z = (s₁.setTop (entryFrame m #[(.ref ob)] 1)) := ⟨_, rfl⟩
  rw [← hS0] at pre0 ⊢
  have K0 : own_R p e below (s₁.setTop (mkF m 0 #[rv ob] [])) S0 := pre0
  obtain ⟨o1, o2, o3, o4, o5, o6, o7, o8, o9, o10, o11⟩ := id hO
  have K1 : own_R p e below (s₁.setTop (mkF m 1 #[rv ob] [(.ref ob)])) S0 := by
    intro t hk
    refine K0 t ?_
    show Steps p.tables e below (s₁.setTop (mkF m 0 #[rv ob] [])) _
    refine XS.aloadN X0.here hx rfl (hb hby d27_0) rfl rfl ?_
    exact hk
  obtain ⟨T2, X2, e2, st2⟩ := getF X0 hx hZ hown (host := "") (Or.inl (hw _ (List.mem_of_getElem? (i := 73) rfl))) Via.refl e0 (own_pF_count hG) (g := (mkF m 1 #[rv ob] [(.ref ob)])) rfl rfl (hb hby d27_1)
  have K2 : own_R p e below (T2.setTop (mkF m 4 #[rv ob] [(.int cn)])) S0 := fun t hk => K1 t (st2 _ hk)
  obtain ⟨fs, hr, hrun, hended, hW, hsame⟩ := X2.leave (v := some (.int cn)) (fun h => by rw [Bd.returns] at h; cases h) Bd.notSynchronized
  exact ⟨_, _, K2 _ (retI X2 hx Bd.returns (hb hby d27_4) hr), hrun, hended, _, _, rfl, ⟨rfl, N0, e2⟩, ⟨_, rfl⟩, hW, hsame.mono (by decide) (by decide)⟩
theorem own_nb (l : List Value) (i : Nat) (w : Int32) (h : l.getD i (.int (0 : Int32)) = .int w) (hf : fits .byte (l.getD i (.int (0 : Int32))) = true) : (Value.int (nar .byte w)) = l.getD i (.int (0 : Int32)) := by
  rw [h] at hf ⊢
  have q : -128 ≤ w ∧ w ≤ 127 := by simpa [fits] using hf
  rw [Int32.le_iff_toInt_le, Int32.le_iff_toInt_le] at q
  have e1 : (-128 : Int32).toInt = -128 := by decide
  have e2 : (127 : Int32).toInt = 127 := by decide
  refine congrArg Value.int ?_
  show w.toInt8.toInt32 = w
  apply Int32.toInt_inj.mp
  rw [Int8.toInt_toInt32, Int32.toInt_toInt8]
  exact Int.bmod_eq_of_le (by omega) (by omega)
theorem own_fb {Z : State} {h : Heap} {a : Addr} {k : ClassId} {z : Int32} {vs : List Value} {dv : Value} (V : Arv Z h a k .byte z vs dv) (i : Nat) (hi : i < z.toNatClampNeg) : fits .byte (vs.getD i dv) = true := by
  obtain ⟨c, A, q, S, M, H, G⟩ := V
  exact G i (by rw [S]; exact hi)
theorem d26_0 : decode prog_74_method_9_code 0 = .ok (.aload_n 0, 1) := by decide +kernel
theorem d26_1 : decode prog_74_method_9_code 1 = .ok (.getfield 64, 3) := by decide +kernel
theorem d26_4 : decode prog_74_method_9_code 4 = .ok (.iload_n 1, 1) := by decide +kernel
theorem d26_5 : decode prog_74_method_9_code 5 = .ok (.isub, 1) := by decide +kernel
theorem d26_6 : decode prog_74_method_9_code 6 = .ok (.istore_n 2, 1) := by decide +kernel
theorem d26_7 : decode prog_74_method_9_code 7 = .ok (.iconst 0, 1) := by decide +kernel
theorem d26_8 : decode prog_74_method_9_code 8 = .ok (.istore_n 3, 1) := by decide +kernel
theorem d26_9 : decode prog_74_method_9_code 9 = .ok (.iload_n 3, 1) := by decide +kernel
theorem d26_10 : decode prog_74_method_9_code 10 = .ok (.iload_n 2, 1) := by decide +kernel
theorem d26_11 : decode prog_74_method_9_code 11 = .ok (.if_icmp .ge 93, 3) := by decide +kernel
theorem d26_14 : decode prog_74_method_9_code 14 = .ok (.aload_n 0, 1) := by decide +kernel
theorem d26_15 : decode prog_74_method_9_code 15 = .ok (.getfield 27, 3) := by decide +kernel
theorem d26_18 : decode prog_74_method_9_code 18 = .ok (.iload_n 3, 1) := by decide +kernel
theorem d26_19 : decode prog_74_method_9_code 19 = .ok (.aload_n 0, 1) := by decide +kernel
theorem d26_20 : decode prog_74_method_9_code 20 = .ok (.getfield 27, 3) := by decide +kernel
theorem d26_23 : decode prog_74_method_9_code 23 = .ok (.iload_n 1, 1) := by decide +kernel
theorem d26_24 : decode prog_74_method_9_code 24 = .ok (.iload_n 3, 1) := by decide +kernel
theorem d26_25 : decode prog_74_method_9_code 25 = .ok (.iadd, 1) := by decide +kernel
theorem d26_26 : decode prog_74_method_9_code 26 = .ok (.iaload, 1) := by decide +kernel
theorem d26_27 : decode prog_74_method_9_code 27 = .ok (.iastore, 1) := by decide +kernel
theorem d26_28 : decode prog_74_method_9_code 28 = .ok (.aload_n 0, 1) := by decide +kernel
theorem d26_29 : decode prog_74_method_9_code 29 = .ok (.getfield 31, 3) := by decide +kernel
theorem d26_32 : decode prog_74_method_9_code 32 = .ok (.iload_n 3, 1) := by decide +kernel
theorem d26_33 : decode prog_74_method_9_code 33 = .ok (.aload_n 0, 1) := by decide +kernel
theorem d26_34 : decode prog_74_method_9_code 34 = .ok (.getfield 31, 3) := by decide +kernel
theorem d26_37 : decode prog_74_method_9_code 37 = .ok (.iload_n 1, 1) := by decide +kernel
theorem d26_38 : decode prog_74_method_9_code 38 = .ok (.iload_n 3, 1) := by decide +kernel
theorem d26_39 : decode prog_74_method_9_code 39 = .ok (.iadd, 1) := by decide +kernel
theorem d26_40 : decode prog_74_method_9_code 40 = .ok (.laload, 1) := by decide +kernel
theorem d26_41 : decode prog_74_method_9_code 41 = .ok (.lastore, 1) := by decide +kernel
theorem d26_42 : decode prog_74_method_9_code 42 = .ok (.aload_n 0, 1) := by decide +kernel
theorem d26_43 : decode prog_74_method_9_code 43 = .ok (.getfield 35, 3) := by decide +kernel
theorem d26_46 : decode prog_74_method_9_code 46 = .ok (.iload_n 3, 1) := by decide +kernel
theorem d26_47 : decode prog_74_method_9_code 47 = .ok (.aload_n 0, 1) := by decide +kernel
theorem d26_48 : decode prog_74_method_9_code 48 = .ok (.getfield 35, 3) := by decide +kernel
theorem d26_51 : decode prog_74_method_9_code 51 = .ok (.iload_n 1, 1) := by decide +kernel
theorem d26_52 : decode prog_74_method_9_code 52 = .ok (.iload_n 3, 1) := by decide +kernel
theorem d26_53 : decode prog_74_method_9_code 53 = .ok (.iadd, 1) := by decide +kernel
theorem d26_54 : decode prog_74_method_9_code 54 = .ok (.laload, 1) := by decide +kernel
theorem d26_55 : decode prog_74_method_9_code 55 = .ok (.lastore, 1) := by decide +kernel
theorem d26_56 : decode prog_74_method_9_code 56 = .ok (.aload_n 0, 1) := by decide +kernel
theorem d26_57 : decode prog_74_method_9_code 57 = .ok (.getfield 38, 3) := by decide +kernel
theorem d26_60 : decode prog_74_method_9_code 60 = .ok (.iload_n 3, 1) := by decide +kernel
theorem d26_61 : decode prog_74_method_9_code 61 = .ok (.aload_n 0, 1) := by decide +kernel
theorem d26_62 : decode prog_74_method_9_code 62 = .ok (.getfield 38, 3) := by decide +kernel
theorem d26_65 : decode prog_74_method_9_code 65 = .ok (.iload_n 1, 1) := by decide +kernel
theorem d26_66 : decode prog_74_method_9_code 66 = .ok (.iload_n 3, 1) := by decide +kernel
theorem d26_67 : decode prog_74_method_9_code 67 = .ok (.iadd, 1) := by decide +kernel
theorem d26_68 : decode prog_74_method_9_code 68 = .ok (.laload, 1) := by decide +kernel
theorem d26_69 : decode prog_74_method_9_code 69 = .ok (.lastore, 1) := by decide +kernel
theorem d26_70 : decode prog_74_method_9_code 70 = .ok (.aload_n 0, 1) := by decide +kernel
theorem d26_71 : decode prog_74_method_9_code 71 = .ok (.getfield 41, 3) := by decide +kernel
theorem d26_74 : decode prog_74_method_9_code 74 = .ok (.iload_n 3, 1) := by decide +kernel
theorem d26_75 : decode prog_74_method_9_code 75 = .ok (.aload_n 0, 1) := by decide +kernel
theorem d26_76 : decode prog_74_method_9_code 76 = .ok (.getfield 41, 3) := by decide +kernel
theorem d26_79 : decode prog_74_method_9_code 79 = .ok (.iload_n 1, 1) := by decide +kernel
theorem d26_80 : decode prog_74_method_9_code 80 = .ok (.iload_n 3, 1) := by decide +kernel
theorem d26_81 : decode prog_74_method_9_code 81 = .ok (.iadd, 1) := by decide +kernel
theorem d26_82 : decode prog_74_method_9_code 82 = .ok (.laload, 1) := by decide +kernel
theorem d26_83 : decode prog_74_method_9_code 83 = .ok (.lastore, 1) := by decide +kernel
theorem d26_84 : decode prog_74_method_9_code 84 = .ok (.aload_n 0, 1) := by decide +kernel
theorem d26_85 : decode prog_74_method_9_code 85 = .ok (.getfield 44, 3) := by decide +kernel
theorem d26_88 : decode prog_74_method_9_code 88 = .ok (.iload_n 3, 1) := by decide +kernel
theorem d26_89 : decode prog_74_method_9_code 89 = .ok (.aload_n 0, 1) := by decide +kernel
theorem d26_90 : decode prog_74_method_9_code 90 = .ok (.getfield 44, 3) := by decide +kernel
theorem d26_93 : decode prog_74_method_9_code 93 = .ok (.iload_n 1, 1) := by decide +kernel
theorem d26_94 : decode prog_74_method_9_code 94 = .ok (.iload_n 3, 1) := by decide +kernel
theorem d26_95 : decode prog_74_method_9_code 95 = .ok (.iadd, 1) := by decide +kernel
theorem d26_96 : decode prog_74_method_9_code 96 = .ok (.baload, 1) := by decide +kernel
theorem d26_97 : decode prog_74_method_9_code 97 = .ok (.bastore, 1) := by decide +kernel
theorem d26_98 : decode prog_74_method_9_code 98 = .ok (.iinc 3 1, 3) := by decide +kernel
theorem d26_101 : decode prog_74_method_9_code 101 = .ok (.goto (-92), 3) := by decide +kernel
theorem d26_104 : decode prog_74_method_9_code 104 = .ok (.aload_n 0, 1) := by decide +kernel
theorem d26_105 : decode prog_74_method_9_code 105 = .ok (.getfield 27, 3) := by decide +kernel
theorem d26_108 : decode prog_74_method_9_code 108 = .ok (.iload_n 2, 1) := by decide +kernel
theorem d26_109 : decode prog_74_method_9_code 109 = .ok (.aload_n 0, 1) := by decide +kernel
theorem d26_110 : decode prog_74_method_9_code 110 = .ok (.getfield 27, 3) := by decide +kernel
theorem d26_113 : decode prog_74_method_9_code 113 = .ok (.aload_n 0, 1) := by decide +kernel
theorem d26_114 : decode prog_74_method_9_code 114 = .ok (.getfield 64, 3) := by decide +kernel
theorem d26_117 : decode prog_74_method_9_code 117 = .ok (.iaload, 1) := by decide +kernel
theorem d26_118 : decode prog_74_method_9_code 118 = .ok (.iastore, 1) := by decide +kernel
theorem d26_119 : decode prog_74_method_9_code 119 = .ok (.aload_n 0, 1) := by decide +kernel
theorem d26_120 : decode prog_74_method_9_code 120 = .ok (.iload_n 2, 1) := by decide +kernel
theorem d26_121 : decode prog_74_method_9_code 121 = .ok (.putfield 64, 3) := by decide +kernel
theorem d26_124 : decode prog_74_method_9_code 124 = .ok (.return_, 1) := by decide +kernel
set_option maxRecDepth 65536 in
set_option maxHeartbeats 40000000 in
theorem own_t26 {p : Program} {l : Launch} {e : Env} {R : Room} {s : State} {m : MethodId} {args : Array Value} {below : List Frame} {meth : Method} {c : Code} {T : State} {locs : List Loc} {cells slots : Nat} {Z : State} {a0 : Array Value} {h0 : Heap} {n0 : Nat} (X : Stand p l e R s m args below meth c T locs cells slots) (hx : p.tables.exec = Jvm.exec) (hby : c.code = prog_74_method_9_code) (hown : s.vm.findClass "com/example/bitrun/bitrun/orc/intv2/Segments" = some m.cls) (hZ : Z.Warmed39 s.vm) (hw : ∀ d ∈ tables_1, d.before a0 Z = true) (ob : Addr) (p1 kp kx : Int32) (va vb vl vh vf vg vs : Addr) (kv kb kl kh kf kg ks : ClassId) (fl : Int64) (nn nb : Int32) (VV : List Value) (cn : Int32) (VB VL VH VF VG VS : List Value) (e0 : T.heap = h0) (Z0 : n0 ≤ h0.size) (N0 : Fr n0 locs) (hO : own_O n0 ob va vb vl vh vf vg vs nn nb) (hG : own_G Z h0 ob va vb vl vh vf vg vs kv kb kl kh kf kg ks fl nn nb VV (.ref va) cn VB VL VH VF VG VS) (bR : 0 ≤ (p1 + kx).toInt ∧ (p1 + kx).toInt < nn.toInt) (bT : 0 ≤ kx.toInt ∧ kx.toInt < nn.toInt) :
    ∃ (T' : State) (locs' : List Loc) (y_vb : Int32) (y_vl y_vh y_vf y_vg : Int64) (y_vs : Int32), Stand p l e R s m args below meth c T' locs' cells slots ∧ Fr n0 locs' ∧ Keep h0 T'.heap [ob, vb, vl, vh, vf, vg, vs] ∧ own_G Z T'.heap ob va vb vl vh vf vg vs kv kb kl kh kf kg ks fl nn nb VV (.ref va) cn (VB.set kx.toNatClampNeg (.int y_vb)) (VL.set kx.toNatClampNeg (.long y_vl)) (VH.set kx.toNatClampNeg (.long y_vh)) (VF.set kx.toNatClampNeg (.long y_vf)) (VG.set kx.toNatClampNeg (.long y_vg)) (VS.set kx.toNatClampNeg (.int y_vs)) ∧ VB.getD (p1 + kx).toNatClampNeg (.int (0 : Int32)) = .int y_vb ∧ VL.getD (p1 + kx).toNatClampNeg (.long (0 : Int64)) = .long y_vl ∧ VH.getD (p1 + kx).toNatClampNeg (.long (0 : Int64)) = .long y_vh ∧ VF.getD (p1 + kx).toNatClampNeg (.long (0 : Int64)) = .long y_vf ∧ VG.getD (p1 + kx).toNatClampNeg (.long (0 : Int64)) = .long y_vg ∧ VS.getD (p1 + kx).toNatClampNeg (.int (0 : Int32)) = .int y_vs ∧ own_R p e below (T'.setTop (mkF m 11 #[rv ob, iv p1, iv kp, iv (kx + (1 : Int32))] [(.int kp), (.int (kx + (1 : Int32)))])) (T.setTop (mkF m 14 #[rv ob, iv p1, iv kp, iv kx] [])) := by
  have K0 : own_R p e below (T.setTop (mkF m 14 #[rv ob, iv p1, iv kp, iv kx] [])) (T.setTop (mkF m 14 #[rv ob, iv p1, iv kp, iv kx] [])) := fun t hk => hk
  obtain ⟨o1, o2, o3, o4, o5, o6, o7, o8, o9, o10, o11⟩ := id hO
  have bS : 0 ≤ (p1 + kx).toInt ∧ (p1 + kx).toInt < nb.toInt := by omega
  have bU : 0 ≤ kx.toInt ∧ kx.toInt < nb.toInt := by omega
  have K1 : own_R p e below (T.setTop (mkF m 15 #[rv ob, iv p1, iv kp, iv kx] [(.ref ob)])) (T.setTop (mkF m 14 #[rv ob, iv p1, iv kp, iv kx] [])) := by
    intro t hk
    refine K0 t ?_
    show Steps p.tables e below (T.setTop (mkF m 14 #[rv ob, iv p1, iv kp, iv kx] [])) _
    refine XS.aloadN X.here hx rfl (hb hby d26_14) rfl rfl ?_
    exact hk
  obtain ⟨T2, X2, e2, st2⟩ := getF X hx hZ hown (host := "") (Or.inl (hw _ (List.mem_of_getElem? (i := 21) rfl))) Via.refl e0 (own_pF_bounds hG) (g := (mkF m 15 #[rv ob, iv p1, iv kp, iv kx] [(.ref ob)])) rfl rfl (hb hby d26_15)
  have K2 : own_R p e below (T2.setTop (mkF m 18 #[rv ob, iv p1, iv kp, iv kx] [(.ref vb)])) (T.setTop (mkF m 14 #[rv ob, iv p1, iv kp, iv kx] [])) := fun t hk => K1 t (st2 _ hk)
  have K3 : own_R p e below (T2.setTop (mkF m 20 #[rv ob, iv p1, iv kp, iv kx] [(.ref ob), (.int kx), (.ref vb)])) (T.setTop (mkF m 14 #[rv ob, iv p1, iv kp, iv kx] [])) := by
    intro t hk
    refine K2 t ?_
    show Steps p.tables e below (T2.setTop (mkF m 18 #[rv ob, iv p1, iv kp, iv kx] [(.ref vb)])) _
    refine XS.iloadN X2.here hx rfl (hb hby d26_18) rfl ?_
    refine XS.aloadN X2.here hx rfl (hb hby d26_19) rfl rfl ?_
    exact hk
  obtain ⟨T4, X4, e4, st4⟩ := getF X2 hx hZ hown (host := "") (Or.inl (hw _ (List.mem_of_getElem? (i := 21) rfl))) Via.refl e2 (own_pF_bounds hG) (g := (mkF m 20 #[rv ob, iv p1, iv kp, iv kx] [(.ref ob), (.int kx), (.ref vb)])) rfl rfl (hb hby d26_20)
  have K4 : own_R p e below (T4.setTop (mkF m 23 #[rv ob, iv p1, iv kp, iv kx] [(.ref vb), (.int kx), (.ref vb)])) (T.setTop (mkF m 14 #[rv ob, iv p1, iv kp, iv kx] [])) := fun t hk => K3 t (st4 _ hk)
  have K5 : own_R p e below (T4.setTop (mkF m 26 #[rv ob, iv p1, iv kp, iv kx] [(.int (p1 + kx)), (.ref vb), (.int kx), (.ref vb)])) (T.setTop (mkF m 14 #[rv ob, iv p1, iv kp, iv kx] [])) := by
    intro t hk
    refine K4 t ?_
    show Steps p.tables e below (T4.setTop (mkF m 23 #[rv ob, iv p1, iv kp, iv kx] [(.ref vb), (.int kx), (.ref vb)])) _
    refine XS.iloadN X4.here hx rfl (hb hby d26_23) rfl ?_
    refine XS.iloadN X4.here hx rfl (hb hby d26_24) rfl ?_
    refine XS.iadd X4.here hx rfl (hb hby d26_25) rfl ?_
    exact hk
  obtain ⟨yvb, hv_yvb, st6⟩ := own_ldI X4 hx hZ e4 (own_pV_vb hG) (j := (p1 + kx)) (own_b _ _ bS) (g := (mkF m 26 #[rv ob, iv p1, iv kp, iv kx] [(.int (p1 + kx)), (.ref vb), (.int kx), (.ref vb)])) rfl rfl (hb hby d26_26)
  have K6 : own_R p e below (T4.setTop (mkF m 27 #[rv ob, iv p1, iv kp, iv kx] [(.int yvb), (.int kx), (.ref vb)])) (T.setTop (mkF m 14 #[rv ob, iv p1, iv kp, iv kx] [])) := fun t hk => K5 t (st6 _ hk)
  obtain ⟨T7, h7, X7, e7, W7, V7, st7⟩ := own_stI X4 hx hZ e4 (own_pV_vb hG) (j := kx) _ rfl (own_b _ _ bU) (by rw [(own_pL_vb hG)]; exact own_cl _ _ bU) (g := (mkF m 27 #[rv ob, iv p1, iv kp, iv kx] [(.int yvb), (.int kx), (.ref vb)])) rfl rfl (hb hby d26_27)
  have K7 : own_R p e below (T7.setTop (mkF m 28 #[rv ob, iv p1, iv kp, iv kx] [])) (T.setTop (mkF m 14 #[rv ob, iv p1, iv kp, iv kx] [])) := fun t hk => K6 t (st7 _ hk)
  have Kp8 := (Keep.refl h0 [ob, vb, vl, vh, vf, vg, vs]).wr W7 (Or.inl (List.mem_of_getElem? (i := 1) rfl))
  have N7 := Fr.snoc X7 N0 (by omega : n0 ≤ vb)
  have G7 := own_w_vb hG hO W7 V7 (List.length_set.trans (own_pL_vb hG))
  have K9 : own_R p e below (T7.setTop (mkF m 29 #[rv ob, iv p1, iv kp, iv kx] [(.ref ob)])) (T.setTop (mkF m 14 #[rv ob, iv p1, iv kp, iv kx] [])) := by
    intro t hk
    refine K7 t ?_
    show Steps p.tables e below (T7.setTop (mkF m 28 #[rv ob, iv p1, iv kp, iv kx] [])) _
    refine XS.aloadN X7.here hx rfl (hb hby d26_28) rfl rfl ?_
    exact hk
  obtain ⟨T10, X10, e10, st10⟩ := getF X7 hx hZ hown (host := "") (Or.inl (hw _ (List.mem_of_getElem? (i := 23) rfl))) Via.refl e7 (own_pF_lowest G7) (g := (mkF m 29 #[rv ob, iv p1, iv kp, iv kx] [(.ref ob)])) rfl rfl (hb hby d26_29)
  have K10 : own_R p e below (T10.setTop (mkF m 32 #[rv ob, iv p1, iv kp, iv kx] [(.ref vl)])) (T.setTop (mkF m 14 #[rv ob, iv p1, iv kp, iv kx] [])) := fun t hk => K9 t (st10 _ hk)
  have K11 : own_R p e below (T10.setTop (mkF m 34 #[rv ob, iv p1, iv kp, iv kx] [(.ref ob), (.int kx), (.ref vl)])) (T.setTop (mkF m 14 #[rv ob, iv p1, iv kp, iv kx] [])) := by
    intro t hk
    refine K10 t ?_
    show Steps p.tables e below (T10.setTop (mkF m 32 #[rv ob, iv p1, iv kp, iv kx] [(.ref vl)])) _
    refine XS.iloadN X10.here hx rfl (hb hby d26_32) rfl ?_
    refine XS.aloadN X10.here hx rfl (hb hby d26_33) rfl rfl ?_
    exact hk
  obtain ⟨T12, X12, e12, st12⟩ := getF X10 hx hZ hown (host := "") (Or.inl (hw _ (List.mem_of_getElem? (i := 23) rfl))) Via.refl e10 (own_pF_lowest G7) (g := (mkF m 34 #[rv ob, iv p1, iv kp, iv kx] [(.ref ob), (.int kx), (.ref vl)])) rfl rfl (hb hby d26_34)
  have K12 : own_R p e below (T12.setTop (mkF m 37 #[rv ob, iv p1, iv kp, iv kx] [(.ref vl), (.int kx), (.ref vl)])) (T.setTop (mkF m 14 #[rv ob, iv p1, iv kp, iv kx] [])) := fun t hk => K11 t (st12 _ hk)
  have K13 : own_R p e below (T12.setTop (mkF m 40 #[rv ob, iv p1, iv kp, iv kx] [(.int (p1 + kx)), (.ref vl), (.int kx), (.ref vl)])) (T.setTop (mkF m 14 #[rv ob, iv p1, iv kp, iv kx] [])) := by
    intro t hk
    refine K12 t ?_
    show Steps p.tables e below (T12.setTop (mkF m 37 #[rv ob, iv p1, iv kp, iv kx] [(.ref vl), (.int kx), (.ref vl)])) _
    refine XS.iloadN X12.here hx rfl (hb hby d26_37) rfl ?_
    refine XS.iloadN X12.here hx rfl (hb hby d26_38) rfl ?_
    refine XS.iadd X12.here hx rfl (hb hby d26_39) rfl ?_
    exact hk
  obtain ⟨yvl, hv_yvl, st14⟩ := own_ldJ X12 hx hZ e12 (own_pV_vl G7) (j := (p1 + kx)) (own_b _ _ bR) (g := (mkF m 40 #[rv ob, iv p1, iv kp, iv kx] [(.int (p1 + kx)), (.ref vl), (.int kx), (.ref vl)])) rfl rfl (hb hby d26_40)
  have K14 : own_R p e below (T12.setTop (mkF m 41 #[rv ob, iv p1, iv kp, iv kx] [(.long yvl), (.int kx), (.ref vl)])) (T.setTop (mkF m 14 #[rv ob, iv p1, iv kp, iv kx] [])) := fun t hk => K13 t (st14 _ hk)
  obtain ⟨T15, h15, X15, e15, W15, V15, st15⟩ := own_stJ X12 hx hZ e12 (own_pV_vl G7) (j := kx) _ rfl (own_b _ _ bT) (by rw [(own_pL_vl G7)]; exact own_cl _ _ bT) (g := (mkF m 41 #[rv ob, iv p1, iv kp, iv kx] [(.long yvl), (.int kx), (.ref vl)])) rfl rfl (hb hby d26_41)
  have K15 : own_R p e below (T15.setTop (mkF m 42 #[rv ob, iv p1, iv kp, iv kx] [])) (T.setTop (mkF m 14 #[rv ob, iv p1, iv kp, iv kx] [])) := fun t hk => K14 t (st15 _ hk)
  have Kp16 := Kp8.wr W15 (Or.inl (List.mem_of_getElem? (i := 2) rfl))
  have N15 := Fr.snoc X15 N7 (by omega : n0 ≤ vl)
  have G15 := own_w_vl G7 hO W15 V15 (List.length_set.trans (own_pL_vl G7))
  have K17 : own_R p e below (T15.setTop (mkF m 43 #[rv ob, iv p1, iv kp, iv kx] [(.ref ob)])) (T.setTop (mkF m 14 #[rv ob, iv p1, iv kp, iv kx] [])) := by
    intro t hk
    refine K15 t ?_
    show Steps p.tables e below (T15.setTop (mkF m 42 #[rv ob, iv p1, iv kp, iv kx] [])) _
    refine XS.aloadN X15.here hx rfl (hb hby d26_42) rfl rfl ?_
    exact hk
  obtain ⟨T18, X18, e18, st18⟩ := getF X15 hx hZ hown (host := "") (Or.inl (hw _ (List.mem_of_getElem? (i := 25) rfl))) Via.refl e15 (own_pF_highest G15) (g := (mkF m 43 #[rv ob, iv p1, iv kp, iv kx] [(.ref ob)])) rfl rfl (hb hby d26_43)
  have K18 : own_R p e below (T18.setTop (mkF m 46 #[rv ob, iv p1, iv kp, iv kx] [(.ref vh)])) (T.setTop (mkF m 14 #[rv ob, iv p1, iv kp, iv kx] [])) := fun t hk => K17 t (st18 _ hk)
  have K19 : own_R p e below (T18.setTop (mkF m 48 #[rv ob, iv p1, iv kp, iv kx] [(.ref ob), (.int kx), (.ref vh)])) (T.setTop (mkF m 14 #[rv ob, iv p1, iv kp, iv kx] [])) := by
    intro t hk
    refine K18 t ?_
    show Steps p.tables e below (T18.setTop (mkF m 46 #[rv ob, iv p1, iv kp, iv kx] [(.ref vh)])) _
    refine XS.iloadN X18.here hx rfl (hb hby d26_46) rfl ?_
    refine XS.aloadN X18.here hx rfl (hb hby d26_47) rfl rfl ?_
    exact hk
  obtain ⟨T20, X20, e20, st20⟩ := getF X18 hx hZ hown (host := "") (Or.inl (hw _ (List.mem_of_getElem? (i := 25) rfl))) Via.refl e18 (own_pF_highest G15) (g := (mkF m 48 #[rv ob, iv p1, iv kp, iv kx] [(.ref ob), (.int kx), (.ref vh)])) rfl rfl (hb hby d26_48)
  have K20 : own_R p e below (T20.setTop (mkF m 51 #[rv ob, iv p1, iv kp, iv kx] [(.ref vh), (.int kx), (.ref vh)])) (T.setTop (mkF m 14 #[rv ob, iv p1, iv kp, iv kx] [])) := fun t hk => K19 t (st20 _ hk)
  have K21 : own_R p e below (T20.setTop (mkF m 54 #[rv ob, iv p1, iv kp, iv kx] [(.int (p1 + kx)), (.ref vh), (.int kx), (.ref vh)])) (T.setTop (mkF m 14 #[rv ob, iv p1, iv kp, iv kx] [])) := by
    intro t hk
    refine K20 t ?_
    show Steps p.tables e below (T20.setTop (mkF m 51 #[rv ob, iv p1, iv kp, iv kx] [(.ref vh), (.int kx), (.ref vh)])) _
    refine XS.iloadN X20.here hx rfl (hb hby d26_51) rfl ?_
    refine XS.iloadN X20.here hx rfl (hb hby d26_52) rfl ?_
    refine XS.iadd X20.here hx rfl (hb hby d26_53) rfl ?_
    exact hk
  obtain ⟨yvh, hv_yvh, st22⟩ := own_ldJ X20 hx hZ e20 (own_pV_vh G15) (j := (p1 + kx)) (own_b _ _ bR) (g := (mkF m 54 #[rv ob, iv p1, iv kp, iv kx] [(.int (p1 + kx)), (.ref vh), (.int kx), (.ref vh)])) rfl rfl (hb hby d26_54)
  have K22 : own_R p e below (T20.setTop (mkF m 55 #[rv ob, iv p1, iv kp, iv kx] [(.long yvh), (.int kx), (.ref vh)])) (T.setTop (mkF m 14 #[rv ob, iv p1, iv kp, iv kx] [])) := fun t hk => K21 t (st22 _ hk)
  obtain ⟨T23, h23, X23, e23, W23, V23, st23⟩ := own_stJ X20 hx hZ e20 (own_pV_vh G15) (j := kx) _ rfl (own_b _ _ bT) (by rw [(own_pL_vh G15)]; exact own_cl _ _ bT) (g := (mkF m 55 #[rv ob, iv p1, iv kp, iv kx] [(.long yvh), (.int kx), (.ref vh)])) rfl rfl (hb hby d26_55)
  have K23 : own_R p e below (T23.setTop (mkF m 56 #[rv ob, iv p1, iv kp, iv kx] [])) (T.setTop (mkF m 14 #[rv ob, iv p1, iv kp, iv kx] [])) := fun t hk => K22 t (st23 _ hk)
  have Kp24 := Kp16.wr W23 (Or.inl (List.mem_of_getElem? (i := 3) rfl))
  have N23 := Fr.snoc X23 N15 (by omega : n0 ≤ vh)
  have G23 := own_w_vh G15 hO W23 V23 (List.length_set.trans (own_pL_vh G15))
  have K25 : own_R p e below (T23.setTop (mkF m 57 #[rv ob, iv p1, iv kp, iv kx] [(.ref ob)])) (T.setTop (mkF m 14 #[rv ob, iv p1, iv kp, iv kx] [])) := by
    intro t hk
    refine K23 t ?_
    show Steps p.tables e below (T23.setTop (mkF m 56 #[rv ob, iv p1, iv kp, iv kx] [])) _
    refine XS.aloadN X23.here hx rfl (hb hby d26_56) rfl rfl ?_
    exact hk
  obtain ⟨T26, X26, e26, st26⟩ := getF X23 hx hZ hown (host := "") (Or.inl (hw _ (List.mem_of_getElem? (i := 27) rfl))) Via.refl e23 (own_pF_firstStep G23) (g := (mkF m 57 #[rv ob, iv p1, iv kp, iv kx] [(.ref ob)])) rfl rfl (hb hby d26_57)
  have K26 : own_R p e below (T26.setTop (mkF m 60 #[rv ob, iv p1, iv kp, iv kx] [(.ref vf)])) (T.setTop (mkF m 14 #[rv ob, iv p1, iv kp, iv kx] [])) := fun t hk => K25 t (st26 _ hk)
  have K27 : own_R p e below (T26.setTop (mkF m 62 #[rv ob, iv p1, iv kp, iv kx] [(.ref ob), (.int kx), (.ref vf)])) (T.setTop (mkF m 14 #[rv ob, iv p1, iv kp, iv kx] [])) := by
    intro t hk
    refine K26 t ?_
    show Steps p.tables e below (T26.setTop (mkF m 60 #[rv ob, iv p1, iv kp, iv kx] [(.ref vf)])) _
    refine XS.iloadN X26.here hx rfl (hb hby d26_60) rfl ?_
    refine XS.aloadN X26.here hx rfl (hb hby d26_61) rfl rfl ?_
    exact hk
  obtain ⟨T28, X28, e28, st28⟩ := getF X26 hx hZ hown (host := "") (Or.inl (hw _ (List.mem_of_getElem? (i := 27) rfl))) Via.refl e26 (own_pF_firstStep G23) (g := (mkF m 62 #[rv ob, iv p1, iv kp, iv kx] [(.ref ob), (.int kx), (.ref vf)])) rfl rfl (hb hby d26_62)
  have K28 : own_R p e below (T28.setTop (mkF m 65 #[rv ob, iv p1, iv kp, iv kx] [(.ref vf), (.int kx), (.ref vf)])) (T.setTop (mkF m 14 #[rv ob, iv p1, iv kp, iv kx] [])) := fun t hk => K27 t (st28 _ hk)
  have K29 : own_R p e below (T28.setTop (mkF m 68 #[rv ob, iv p1, iv kp, iv kx] [(.int (p1 + kx)), (.ref vf), (.int kx), (.ref vf)])) (T.setTop (mkF m 14 #[rv ob, iv p1, iv kp, iv kx] [])) := by
    intro t hk
    refine K28 t ?_
    show Steps p.tables e below (T28.setTop (mkF m 65 #[rv ob, iv p1, iv kp, iv kx] [(.ref vf), (.int kx), (.ref vf)])) _
    refine XS.iloadN X28.here hx rfl (hb hby d26_65) rfl ?_
    refine XS.iloadN X28.here hx rfl (hb hby d26_66) rfl ?_
    refine XS.iadd X28.here hx rfl (hb hby d26_67) rfl ?_
    exact hk
  obtain ⟨yvf, hv_yvf, st30⟩ := own_ldJ X28 hx hZ e28 (own_pV_vf G23) (j := (p1 + kx)) (own_b _ _ bR) (g := (mkF m 68 #[rv ob, iv p1, iv kp, iv kx] [(.int (p1 + kx)), (.ref vf), (.int kx), (.ref vf)])) rfl rfl (hb hby d26_68)
  have K30 : own_R p e below (T28.setTop (mkF m 69 #[rv ob, iv p1, iv kp, iv kx] [(.long yvf), (.int kx), (.ref vf)])) (T.setTop (mkF m 14 #[rv ob, iv p1, iv kp, iv kx] [])) := fun t hk => K29 t (st30 _ hk)
  obtain ⟨T31, h31, X31, e31, W31, V31, st31⟩ := own_stJ X28 hx hZ e28 (own_pV_vf G23) (j := kx) _ rfl (own_b _ _ bT) (by rw [(own_pL_vf G23)]; exact own_cl _ _ bT) (g := (mkF m 69 #[rv ob, iv p1, iv kp, iv kx] [(.long yvf), (.int kx), (.ref vf)])) rfl rfl (hb hby d26_69)
  have K31 : own_R p e below (T31.setTop (mkF m 70 #[rv ob, iv p1, iv kp, iv kx] [])) (T.setTop (mkF m 14 #[rv ob, iv p1, iv kp, iv kx] [])) := fun t hk => K30 t (st31 _ hk)
  have Kp32 := Kp24.wr W31 (Or.inl (List.mem_of_getElem? (i := 4) rfl))
  have N31 := Fr.snoc X31 N23 (by omega : n0 ≤ vf)
  have G31 := own_w_vf G23 hO W31 V31 (List.length_set.trans (own_pL_vf G23))
  have K33 : own_R p e below (T31.setTop (mkF m 71 #[rv ob, iv p1, iv kp, iv kx] [(.ref ob)])) (T.setTop (mkF m 14 #[rv ob, iv p1, iv kp, iv kx] [])) := by
    intro t hk
    refine K31 t ?_
    show Steps p.tables e below (T31.setTop (mkF m 70 #[rv ob, iv p1, iv kp, iv kx] [])) _
    refine XS.aloadN X31.here hx rfl (hb hby d26_70) rfl rfl ?_
    exact hk
  obtain ⟨T34, X34, e34, st34⟩ := getF X31 hx hZ hown (host := "") (Or.inl (hw _ (List.mem_of_getElem? (i := 29) rfl))) Via.refl e31 (own_pF_magnitudes G31) (g := (mkF m 71 #[rv ob, iv p1, iv kp, iv kx] [(.ref ob)])) rfl rfl (hb hby d26_71)
  have K34 : own_R p e below (T34.setTop (mkF m 74 #[rv ob, iv p1, iv kp, iv kx] [(.ref vg)])) (T.setTop (mkF m 14 #[rv ob, iv p1, iv kp, iv kx] [])) := fun t hk => K33 t (st34 _ hk)
  have K35 : own_R p e below (T34.setTop (mkF m 76 #[rv ob, iv p1, iv kp, iv kx] [(.ref ob), (.int kx), (.ref vg)])) (T.setTop (mkF m 14 #[rv ob, iv p1, iv kp, iv kx] [])) := by
    intro t hk
    refine K34 t ?_
    show Steps p.tables e below (T34.setTop (mkF m 74 #[rv ob, iv p1, iv kp, iv kx] [(.ref vg)])) _
    refine XS.iloadN X34.here hx rfl (hb hby d26_74) rfl ?_
    refine XS.aloadN X34.here hx rfl (hb hby d26_75) rfl rfl ?_
    exact hk
  obtain ⟨T36, X36, e36, st36⟩ := getF X34 hx hZ hown (host := "") (Or.inl (hw _ (List.mem_of_getElem? (i := 29) rfl))) Via.refl e34 (own_pF_magnitudes G31) (g := (mkF m 76 #[rv ob, iv p1, iv kp, iv kx] [(.ref ob), (.int kx), (.ref vg)])) rfl rfl (hb hby d26_76)
  have K36 : own_R p e below (T36.setTop (mkF m 79 #[rv ob, iv p1, iv kp, iv kx] [(.ref vg), (.int kx), (.ref vg)])) (T.setTop (mkF m 14 #[rv ob, iv p1, iv kp, iv kx] [])) := fun t hk => K35 t (st36 _ hk)
  have K37 : own_R p e below (T36.setTop (mkF m 82 #[rv ob, iv p1, iv kp, iv kx] [(.int (p1 + kx)), (.ref vg), (.int kx), (.ref vg)])) (T.setTop (mkF m 14 #[rv ob, iv p1, iv kp, iv kx] [])) := by
    intro t hk
    refine K36 t ?_
    show Steps p.tables e below (T36.setTop (mkF m 79 #[rv ob, iv p1, iv kp, iv kx] [(.ref vg), (.int kx), (.ref vg)])) _
    refine XS.iloadN X36.here hx rfl (hb hby d26_79) rfl ?_
    refine XS.iloadN X36.here hx rfl (hb hby d26_80) rfl ?_
    refine XS.iadd X36.here hx rfl (hb hby d26_81) rfl ?_
    exact hk
  obtain ⟨yvg, hv_yvg, st38⟩ := own_ldJ X36 hx hZ e36 (own_pV_vg G31) (j := (p1 + kx)) (own_b _ _ bR) (g := (mkF m 82 #[rv ob, iv p1, iv kp, iv kx] [(.int (p1 + kx)), (.ref vg), (.int kx), (.ref vg)])) rfl rfl (hb hby d26_82)
  have K38 : own_R p e below (T36.setTop (mkF m 83 #[rv ob, iv p1, iv kp, iv kx] [(.long yvg), (.int kx), (.ref vg)])) (T.setTop (mkF m 14 #[rv ob, iv p1, iv kp, iv kx] [])) := fun t hk => K37 t (st38 _ hk)
  obtain ⟨T39, h39, X39, e39, W39, V39, st39⟩ := own_stJ X36 hx hZ e36 (own_pV_vg G31) (j := kx) _ rfl (own_b _ _ bT) (by rw [(own_pL_vg G31)]; exact own_cl _ _ bT) (g := (mkF m 83 #[rv ob, iv p1, iv kp, iv kx] [(.long yvg), (.int kx), (.ref vg)])) rfl rfl (hb hby d26_83)
  have K39 : own_R p e below (T39.setTop (mkF m 84 #[rv ob, iv p1, iv kp, iv kx] [])) (T.setTop (mkF m 14 #[rv ob, iv p1, iv kp, iv kx] [])) := fun t hk => K38 t (st39 _ hk)
  have Kp40 := Kp32.wr W39 (Or.inl (List.mem_of_getElem? (i := 5) rfl))
  have N39 := Fr.snoc X39 N31 (by omega : n0 ≤ vg)
  have G39 := own_w_vg G31 hO W39 V39 (List.length_set.trans (own_pL_vg G31))
  have K41 : own_R p e below (T39.setTop (mkF m 85 #[rv ob, iv p1, iv kp, iv kx] [(.ref ob)])) (T.setTop (mkF m 14 #[rv ob, iv p1, iv kp, iv kx] [])) := by
    intro t hk
    refine K39 t ?_
    show Steps p.tables e below (T39.setTop (mkF m 84 #[rv ob, iv p1, iv kp, iv kx] [])) _
    refine XS.aloadN X39.here hx rfl (hb hby d26_84) rfl rfl ?_
    exact hk
  obtain ⟨T42, X42, e42, st42⟩ := getF X39 hx hZ hown (host := "") (Or.inl (hw _ (List.mem_of_getElem? (i := 32) rfl))) Via.refl e39 (own_pF_steps G39) (g := (mkF m 85 #[rv ob, iv p1, iv kp, iv kx] [(.ref ob)])) rfl rfl (hb hby d26_85)
  have K42 : own_R p e below (T42.setTop (mkF m 88 #[rv ob, iv p1, iv kp, iv kx] [(.ref vs)])) (T.setTop (mkF m 14 #[rv ob, iv p1, iv kp, iv kx] [])) := fun t hk => K41 t (st42 _ hk)
  have K43 : own_R p e below (T42.setTop (mkF m 90 #[rv ob, iv p1, iv kp, iv kx] [(.ref ob), (.int kx), (.ref vs)])) (T.setTop (mkF m 14 #[rv ob, iv p1, iv kp, iv kx] [])) := by
    intro t hk
    refine K42 t ?_
    show Steps p.tables e below (T42.setTop (mkF m 88 #[rv ob, iv p1, iv kp, iv kx] [(.ref vs)])) _
    refine XS.iloadN X42.here hx rfl (hb hby d26_88) rfl ?_
    refine XS.aloadN X42.here hx rfl (hb hby d26_89) rfl rfl ?_
    exact hk
  obtain ⟨T44, X44, e44, st44⟩ := getF X42 hx hZ hown (host := "") (Or.inl (hw _ (List.mem_of_getElem? (i := 32) rfl))) Via.refl e42 (own_pF_steps G39) (g := (mkF m 90 #[rv ob, iv p1, iv kp, iv kx] [(.ref ob), (.int kx), (.ref vs)])) rfl rfl (hb hby d26_90)
  have K44 : own_R p e below (T44.setTop (mkF m 93 #[rv ob, iv p1, iv kp, iv kx] [(.ref vs), (.int kx), (.ref vs)])) (T.setTop (mkF m 14 #[rv ob, iv p1, iv kp, iv kx] [])) := fun t hk => K43 t (st44 _ hk)
  have K45 : own_R p e below (T44.setTop (mkF m 96 #[rv ob, iv p1, iv kp, iv kx] [(.int (p1 + kx)), (.ref vs), (.int kx), (.ref vs)])) (T.setTop (mkF m 14 #[rv ob, iv p1, iv kp, iv kx] [])) := by
    intro t hk
    refine K44 t ?_
    show Steps p.tables e below (T44.setTop (mkF m 93 #[rv ob, iv p1, iv kp, iv kx] [(.ref vs), (.int kx), (.ref vs)])) _
    refine XS.iloadN X44.here hx rfl (hb hby d26_93) rfl ?_
    refine XS.iloadN X44.here hx rfl (hb hby d26_94) rfl ?_
    refine XS.iadd X44.here hx rfl (hb hby d26_95) rfl ?_
    exact hk
  have fb := own_fb (own_pV_vs G39) _ (own_cl _ _ bR)
  obtain ⟨yvs, hv_yvs, st46⟩ := own_ldB X44 hx hZ e44 (own_pV_vs G39) (j := (p1 + kx)) (own_b _ _ bR) (g := (mkF m 96 #[rv ob, iv p1, iv kp, iv kx] [(.int (p1 + kx)), (.ref vs), (.int kx), (.ref vs)])) rfl rfl (hb hby d26_96)
  have K46 : own_R p e below (T44.setTop (mkF m 97 #[rv ob, iv p1, iv kp, iv kx] [(.int yvs), (.int kx), (.ref vs)])) (T.setTop (mkF m 14 #[rv ob, iv p1, iv kp, iv kx] [])) := fun t hk => K45 t (st46 _ hk)
  obtain ⟨T47, h47, X47, e47, W47, V47, st47⟩ := own_stB X44 hx hZ e44 (own_pV_vs G39) (j := kx) _ rfl (own_b _ _ bT) (by rw [(own_pL_vs G39)]; exact own_cl _ _ bT) (g := (mkF m 97 #[rv ob, iv p1, iv kp, iv kx] [(.int yvs), (.int kx), (.ref vs)])) rfl rfl (hb hby d26_97)
  have K47 : own_R p e below (T47.setTop (mkF m 98 #[rv ob, iv p1, iv kp, iv kx] [])) (T.setTop (mkF m 14 #[rv ob, iv p1, iv kp, iv kx] [])) := fun t hk => K46 t (st47 _ hk)
  have Kp48 := Kp40.wr W47 (Or.inl (List.mem_of_getElem? (i := 6) rfl))
  have N47 := Fr.snoc X47 N39 (by omega : n0 ≤ vs)
  have G47 := own_w_vs G39 hO W47 V47 (List.length_set.trans (own_pL_vs G39))
  have K49 : own_R p e below (T47.setTop (mkF m 11 #[rv ob, iv p1, iv kp, iv (kx + (1 : Int32))] [(.int kp), (.int (kx + (1 : Int32)))])) (T.setTop (mkF m 14 #[rv ob, iv p1, iv kp, iv kx] [])) := by
    intro t hk
    refine K47 t ?_
    show Steps p.tables e below (T47.setTop (mkF m 98 #[rv ob, iv p1, iv kp, iv kx] [])) _
    refine XS.iinc X47.here hx rfl (hb hby d26_98) rfl (l' := #[rv ob, iv p1, iv kp, iv (kx + (1 : Int32))]) rfl ?_
    refine XS.goto X47.here hx rfl (pc0 := 101) (pc' := 9) rfl (hb hby d26_101) (by decide) (by decide) ?_
    refine XS.iloadN X47.here hx rfl (hb hby d26_9) rfl ?_
    refine XS.iloadN X47.here hx rfl (hb hby d26_10) rfl ?_
    exact hk
  have nbq : nar .byte yvs = yvs := Value.int.inj ((own_nb _ _ _ hv_yvs fb).trans hv_yvs)
  rw [nbq] at G47
  have GG : own_G Z T47.heap ob va vb vl vh vf vg vs kv kb kl kh kf kg ks fl nn nb VV (.ref va) cn (VB.set kx.toNatClampNeg (.int yvb)) (VL.set kx.toNatClampNeg (.long yvl)) (VH.set kx.toNatClampNeg (.long yvh)) (VF.set kx.toNatClampNeg (.long yvf)) (VG.set kx.toNatClampNeg (.long yvg)) (VS.set kx.toNatClampNeg (.int yvs)) := by rw [e47]; exact G47
  have KP : Keep h0 T47.heap [ob, vb, vl, vh, vf, vg, vs] := by rw [e47]; exact Kp48
  exact ⟨_, _, _, _, _, _, _, _, X47, N47, KP, GG, hv_yvb, hv_yvl, hv_yvh, hv_yvf, hv_yvg, hv_yvs, K49⟩
theorem ef_26 (m : MethodId) (x0 : Addr) (x1 : Int32) : entryFrame m #[(.ref x0), (.int x1)] 4 = mkF m 0 #[rv x0, iv x1, .unset, .unset] [] := by first | (simp [entryFrame, mkF, argsToLocals, Value.category, maxLocals]; done) | rfl
theorem pn_26 : plainName "com/example/bitrun/bitrun/orc/intv2/Segments" = true := by first | (simp [plainName, overriddenIn]; done) | decide +kernel
def Q_rm26 (Z : State) (ob : Addr) (p1 : Int32) (va vb vl vh vf vg vs : Addr) (kv kb kl kh kf kg ks : ClassId) (fl : Int64) (nn nb : Int32) (VV : List Value) (cn : Int32) (VB VL VH VF VG VS : List Value) (h0 : Heap) (n0 : Nat) (v : Option Value) (h : Heap) (L : List Loc) : Prop := v = none ∧ Fr n0 L ∧ Keep h0 h [ob, vb, vl, vh, vf, vg, vs] ∧ ∃ WB WL WH WF WG WT, own_G Z h ob va vb vl vh vf vg vs kv kb kl kh kf kg ks fl nn nb VV (.ref va) (cn - p1) WB WL WH WF WG WT ∧ WB.getD (0 : Int32).toNatClampNeg (.int (0 : Int32)) = VB.getD p1.toNatClampNeg (.int (0 : Int32)) ∧ WB.getD (cn - p1).toNatClampNeg (.int (0 : Int32)) = VB.getD cn.toNatClampNeg (.int (0 : Int32)) ∧ (0 < (cn - p1).toInt → WL.getD ((cn - p1) - (1 : Int32)).toNatClampNeg (.long (0 : Int64)) = VL.getD (cn - (1 : Int32)).toNatClampNeg (.long (0 : Int64)) ∧ WH.getD ((cn - p1) - (1 : Int32)).toNatClampNeg (.long (0 : Int64)) = VH.getD (cn - (1 : Int32)).toNatClampNeg (.long (0 : Int64)) ∧ WF.getD ((cn - p1) - (1 : Int32)).toNatClampNeg (.long (0 : Int64)) = VF.getD (cn - (1 : Int32)).toNatClampNeg (.long (0 : Int64)) ∧ WG.getD ((cn - p1) - (1 : Int32)).toNatClampNeg (.long (0 : Int64)) = VG.getD (cn - (1 : Int32)).toNatClampNeg (.long (0 : Int64)) ∧ WT.getD ((cn - p1) - (1 : Int32)).toNatClampNeg (.int (0 : Int32)) = VS.getD (cn - (1 : Int32)).toNatClampNeg (.int (0 : Int32)))
set_option maxRecDepth 65536 in
set_option maxHeartbeats 40000000 in
theorem rm26 (l : Launch) (Z : State) (a0 : Array Value) (hw : ∀ d ∈ tables_1, d.before a0 Z = true) (ws : List Jvm.Cond) (ob : Addr) (p1 : Int32) (va vb vl vh vf vg vs : Addr) (kv kb kl kh kf kg ks : ClassId) (fl : Int64) (nn nb : Int32) (VV : List Value) (cn : Int32) (VB VL VH VF VG VS : List Value) (h0 : Heap) (n0 : Nat) (Z0 : n0 ≤ h0.size) (hO : own_O n0 ob va vb vl vh vf vg vs nn nb) (hG : own_G Z h0 ob va vb vl vh vf vg vs kv kb kl kh kf kg ks fl nn nb VV (.ref va) cn VB VL VH VF VG VS) (hcn : 0 ≤ cn.toInt ∧ cn.toInt ≤ nn.toInt) (hp1 : 0 ≤ p1.toInt ∧ p1.toInt ≤ cn.toInt) :
    MetFree l (⟨"com/example/bitrun/bitrun/orc/intv2/Segments", "restartAt", "(I)V"⟩ : MethodName) (head1 (Jvm.Cond.code (⟨"com/example/bitrun/bitrun/orc/intv2/Segments", "restartAt", "(I)V"⟩ : MethodName) prog_74_method_9_code 4 none :: ws) ({ frames := 0, cells := 0, slots := 0, locals := 0 } : Room)) (fun a U => a = #[(.ref ob), (.int p1)] ∧ Z.Warmed39 U.vm ∧ U.heap = h0) (fun _ _ _ _ _ => True) (fun _ U o U' => ∃ v L, o = .returned v ∧ Q_rm26 Z ob p1 va vb vl vh vf vg vs kv kb kl kh kf kg ks fl nn nb VV cn VB VL VH VF VG VS h0 n0 v U'.heap L ∧ FrameEnd U o U' L ({ frames := 0, cells := 0, slots := 0, locals := 0 } : Room).cells ({ frames := 0, cells := 0, slots := 0, locals := 0 } : Room).slots) := by
  refine MetFree.of_bodySF (plainFor_of_name pn_26) hisR ?_
  intro p e s m args below meth c s₁ Bd hml0 hP hK
  obtain ⟨rfl, hZ, hh⟩ := hP
  have hx := Bd.exec
  have hby := Bd.bytes
  have hml : c.maxLocals = 4 := hml0
  have hown : s.vm.findClass "com/example/bitrun/bitrun/orc/intv2/Segments" = some m.cls := findClass_of_methodNamed Bd.named
  have hnm := (name_of_methodNamed Bd.named Bd.method).1
  have X0 : Stand p l e ({ frames := 0, cells := 0, slots := 0, locals := 0 } : Room) s m #[(.ref ob), (.int p1)] below meth c s₁ [] 0 0 := Stand.of_body Bd
  have e0 : s₁.heap = h0 := by rw [← hh, Bd.state]; rfl
  have N0 := Fr.nil n0
  have pre0 : ∀ t, Steps p.tables e below (s₁.setTop (mkF m 0 #[rv ob, iv p1, .unset, .unset] [])) t → Steps p.tables e below (s₁.setTop (entryFrame m #[(.ref ob), (.int p1)] 4)) t := fun t k => castTop (ef_26 m ob p1) k
  obtain ⟨S0, hS0⟩ : ∃ z, z = (s₁.setTop (entryFrame m #[(.ref ob), (.int p1)] 4)) := ⟨_, rfl⟩
  rw [← hS0] at pre0 ⊢
  have K0 : own_R p e below (s₁.setTop (mkF m 0 #[rv ob, iv p1, .unset, .unset] [])) S0 := pre0
  obtain ⟨o1, o2, o3, o4, o5, o6, o7, o8, o9, o10, o11⟩ := id hO
  have ek : (cn - p1).toInt = cn.toInt - p1.toInt := (Int32.toInt_sub cn p1).trans (Int.bmod_eq_of_le (by omega) (by omega))
  have d0 : (0 : Int32).toInt = 0 := by decide
  have c0 : (0 : Int32).toNatClampNeg = 0 := by decide
  have f0 : (p1 + (0 : Int32)).toInt = p1.toInt + 0 := by rw [(Int32.toInt_add p1 0).trans (Int.bmod_eq_of_le (by omega) (by omega)), d0]
  have q0 : (p1 + (0 : Int32)).toNatClampNeg = p1.toNatClampNeg + 0 := by show (p1 + (0 : Int32)).toInt.toNat = p1.toInt.toNat + 0; rw [f0]; omega
  have d1 : (1 : Int32).toInt = 1 := by decide
  have c1 : (1 : Int32).toNatClampNeg = 1 := by decide
  have f1 : (p1 + (1 : Int32)).toInt = p1.toInt + 1 := by rw [(Int32.toInt_add p1 1).trans (Int.bmod_eq_of_le (by omega) (by omega)), d1]
  have q1 : (p1 + (1 : Int32)).toNatClampNeg = p1.toNatClampNeg + 1 := by show (p1 + (1 : Int32)).toInt.toNat = p1.toInt.toNat + 1; rw [f1]; omega
  have d2 : (2 : Int32).toInt = 2 := by decide
  have c2 : (2 : Int32).toNatClampNeg = 2 := by decide
  have f2 : (p1 + (2 : Int32)).toInt = p1.toInt + 2 := by rw [(Int32.toInt_add p1 2).trans (Int.bmod_eq_of_le (by omega) (by omega)), d2]
  have q2 : (p1 + (2 : Int32)).toNatClampNeg = p1.toNatClampNeg + 2 := by show (p1 + (2 : Int32)).toInt.toNat = p1.toInt.toNat + 2; rw [f2]; omega
  have d3 : (3 : Int32).toInt = 3 := by decide
  have c3 : (3 : Int32).toNatClampNeg = 3 := by decide
  have f3 : (p1 + (3 : Int32)).toInt = p1.toInt + 3 := by rw [(Int32.toInt_add p1 3).trans (Int.bmod_eq_of_le (by omega) (by omega)), d3]
  have q3 : (p1 + (3 : Int32)).toNatClampNeg = p1.toNatClampNeg + 3 := by show (p1 + (3 : Int32)).toInt.toNat = p1.toInt.toNat + 3; rw [f3]; omega
  have K1 : own_R p e below (s₁.setTop (mkF m 1 #[rv ob, iv p1, .unset, .unset] [(.ref ob)])) S0 := by
    intro t hk
    refine K0 t ?_
    show Steps p.tables e below (s₁.setTop (mkF m 0 #[rv ob, iv p1, .unset, .unset] [])) _
    refine XS.aloadN X0.here hx rfl (hb hby d26_0) rfl rfl ?_
    exact hk
  obtain ⟨T2, X2, e2, st2⟩ := getF X0 hx hZ hown (host := "") (Or.inl (hw _ (List.mem_of_getElem? (i := 73) rfl))) Via.refl e0 (own_pF_count hG) (g := (mkF m 1 #[rv ob, iv p1, .unset, .unset] [(.ref ob)])) rfl rfl (hb hby d26_1)
  have K2 : own_R p e below (T2.setTop (mkF m 4 #[rv ob, iv p1, .unset, .unset] [(.int cn)])) S0 := fun t hk => K1 t (st2 _ hk)
  have K3 : own_R p e below (T2.setTop (mkF m 11 #[rv ob, iv p1, iv (cn - p1), iv (0 : Int32)] [(.int (cn - p1)), (.int (0 : Int32))])) S0 := by
    intro t hk
    refine K2 t ?_
    show Steps p.tables e below (T2.setTop (mkF m 4 #[rv ob, iv p1, .unset, .unset] [(.int cn)])) _
    refine XS.iloadN X2.here hx rfl (hb hby d26_4) rfl ?_
    refine XS.isub X2.here hx rfl (hb hby d26_5) rfl ?_
    refine XS.istoreN X2.here hx rfl (hb hby d26_6) rfl (l' := #[rv ob, iv p1, iv (cn - p1), .unset]) rfl ?_
    refine XS.iconst X2.here hx rfl (hb hby d26_7) ?_
    refine XS.istoreN X2.here hx rfl (hb hby d26_8) rfl (l' := #[rv ob, iv p1, iv (cn - p1), iv (0 : Int32)]) rfl ?_
    refine XS.iloadN X2.here hx rfl (hb hby d26_9) rfl ?_
    refine XS.iloadN X2.here hx rfl (hb hby d26_10) rfl ?_
    exact hk
  by_cases hc11 : (0 : Int32) < (cn - p1)
  · have K4 : own_R p e below (T2.setTop (mkF m 14 #[rv ob, iv p1, iv (cn - p1), iv (0 : Int32)] [])) S0 := by
      intro t hk
      refine K3 t ?_
      show Steps p.tables e below (T2.setTop (mkF m 11 #[rv ob, iv p1, iv (cn - p1), iv (0 : Int32)] [(.int (cn - p1)), (.int (0 : Int32))])) _
      refine XS.icmpNo X2.here hx rfl (hb hby d26_11) rfl (tlt hc11).2.1 ?_
      exact hk
    have hc11_0 := hc11
    have y0 := Int32.lt_iff_toInt_lt.mp hc11
    clear hc11
    obtain ⟨T5, L5, vb0, vl0, vh0, vf0, vg0, vs0, X5, N5, Kq5, G5, hv_vb0, hv_vl0, hv_vh0, hv_vf0, hv_vg0, hv_vs0, st5⟩ := own_t26 X2 hx hby hown hZ hw ob p1 (cn - p1) (0 : Int32) va vb vl vh vf vg vs kv kb kl kh kf kg ks fl nn nb VV cn VB VL VH VF VG VS e2 Z0 N0 hO hG (by omega) (by omega)
    have Kp6 := (Keep.refl h0 [ob, vb, vl, vh, vf, vg, vs]).trans Kq5 (fun x hx => Or.inl hx)
    have K5 : own_R p e below (T5.setTop (mkF m 11 #[rv ob, iv p1, iv (cn - p1), iv (1 : Int32)] [(.int (cn - p1)), (.int (1 : Int32))])) S0 := fun t hk => K4 t (st5 t hk)
    by_cases hc11 : (1 : Int32) < (cn - p1)
    · have K7 : own_R p e below (T5.setTop (mkF m 14 #[rv ob, iv p1, iv (cn - p1), iv (1 : Int32)] [])) S0 := by
        intro t hk
        refine K5 t ?_
        show Steps p.tables e below (T5.setTop (mkF m 11 #[rv ob, iv p1, iv (cn - p1), iv (1 : Int32)] [(.int (cn - p1)), (.int (1 : Int32))])) _
        refine XS.icmpNo X5.here hx rfl (hb hby d26_11) rfl (tlt hc11).2.1 ?_
        exact hk
      have hc11_1 := hc11
      have y1 := Int32.lt_iff_toInt_lt.mp hc11
      clear hc11
      obtain ⟨T8, L8, vb1, vl1, vh1, vf1, vg1, vs1, X8, N8, Kq8, G8, hv_vb1, hv_vl1, hv_vh1, hv_vf1, hv_vg1, hv_vs1, st8⟩ := own_t26 X5 hx hby hown hZ hw ob p1 (cn - p1) (1 : Int32) va vb vl vh vf vg vs kv kb kl kh kf kg ks fl nn nb VV cn (VB.set (0 : Int32).toNatClampNeg (.int vb0)) (VL.set (0 : Int32).toNatClampNeg (.long vl0)) (VH.set (0 : Int32).toNatClampNeg (.long vh0)) (VF.set (0 : Int32).toNatClampNeg (.long vf0)) (VG.set (0 : Int32).toNatClampNeg (.long vg0)) (VS.set (0 : Int32).toNatClampNeg (.int vs0)) rfl (Nat.le_trans Z0 Kp6.1) N5 hO G5 (by omega) (by omega)
      have Kp9 := Kp6.trans Kq8 (fun x hx => Or.inl hx)
      have K8 : own_R p e below (T8.setTop (mkF m 11 #[rv ob, iv p1, iv (cn - p1), iv (2 : Int32)] [(.int (cn - p1)), (.int (2 : Int32))])) S0 := fun t hk => K7 t (st8 t hk)
      by_cases hc11 : (2 : Int32) < (cn - p1)
      · have K10 : own_R p e below (T8.setTop (mkF m 14 #[rv ob, iv p1, iv (cn - p1), iv (2 : Int32)] [])) S0 := by
          intro t hk
          refine K8 t ?_
          show Steps p.tables e below (T8.setTop (mkF m 11 #[rv ob, iv p1, iv (cn - p1), iv (2 : Int32)] [(.int (cn - p1)), (.int (2 : Int32))])) _
          refine XS.icmpNo X8.here hx rfl (hb hby d26_11) rfl (tlt hc11).2.1 ?_
          exact hk
        have hc11_2 := hc11
        have y2 := Int32.lt_iff_toInt_lt.mp hc11
        clear hc11
        obtain ⟨T11, L11, vb2, vl2, vh2, vf2, vg2, vs2, X11, N11, Kq11, G11, hv_vb2, hv_vl2, hv_vh2, hv_vf2, hv_vg2, hv_vs2, st11⟩ := own_t26 X8 hx hby hown hZ hw ob p1 (cn - p1) (2 : Int32) va vb vl vh vf vg vs kv kb kl kh kf kg ks fl nn nb VV cn ((VB.set (0 : Int32).toNatClampNeg (.int vb0)).set (1 : Int32).toNatClampNeg (.int vb1)) ((VL.set (0 : Int32).toNatClampNeg (.long vl0)).set (1 : Int32).toNatClampNeg (.long vl1)) ((VH.set (0 : Int32).toNatClampNeg (.long vh0)).set (1 : Int32).toNatClampNeg (.long vh1)) ((VF.set (0 : Int32).toNatClampNeg (.long vf0)).set (1 : Int32).toNatClampNeg (.long vf1)) ((VG.set (0 : Int32).toNatClampNeg (.long vg0)).set (1 : Int32).toNatClampNeg (.long vg1)) ((VS.set (0 : Int32).toNatClampNeg (.int vs0)).set (1 : Int32).toNatClampNeg (.int vs1)) rfl (Nat.le_trans Z0 Kp9.1) N8 hO G8 (by omega) (by omega)
        have Kp12 := Kp9.trans Kq11 (fun x hx => Or.inl hx)
        have K11 : own_R p e below (T11.setTop (mkF m 11 #[rv ob, iv p1, iv (cn - p1), iv (3 : Int32)] [(.int (cn - p1)), (.int (3 : Int32))])) S0 := fun t hk => K10 t (st11 t hk)
        have hc11 : ¬ ((3 : Int32) < (cn - p1)) := fun q => by have := Int32.lt_iff_toInt_lt.mp q; omega
        have K13 : own_R p e below (T11.setTop (mkF m 104 #[rv ob, iv p1, iv (cn - p1), iv (3 : Int32)] [])) S0 := by
          intro t hk
          refine K11 t ?_
          show Steps p.tables e below (T11.setTop (mkF m 11 #[rv ob, iv p1, iv (cn - p1), iv (3 : Int32)] [(.int (cn - p1)), (.int (3 : Int32))])) _
          refine XS.icmpYes X11.here hx rfl (pc0 := 11) (pc' := 104) rfl (hb hby d26_11) rfl (flt hc11).2.1 (by decide) (by decide) ?_
          exact hk
        have kt : (cn - p1).toInt = 3 := by
          have z0 := Int32.lt_iff_toInt_lt.mp hc11_0; have z1 := Int32.lt_iff_toInt_lt.mp hc11_1; have z2 := Int32.lt_iff_toInt_lt.mp hc11_2; omega
        have g1 : (cn - p1).toNatClampNeg = 3 := by show (cn - p1).toInt.toNat = 3; omega
        have g2 : cn.toNatClampNeg = p1.toNatClampNeg + 3 := by show cn.toInt.toNat = p1.toInt.toNat + 3; omega
        have bK : 0 ≤ (cn - p1).toInt ∧ (cn - p1).toInt < nb.toInt := by omega
        have bC : 0 ≤ cn.toInt ∧ cn.toInt < nb.toInt := by omega
        have K14 : own_R p e below (T11.setTop (mkF m 105 #[rv ob, iv p1, iv (cn - p1), iv (3 : Int32)] [(.ref ob)])) S0 := by
          intro t hk
          refine K13 t ?_
          show Steps p.tables e below (T11.setTop (mkF m 104 #[rv ob, iv p1, iv (cn - p1), iv (3 : Int32)] [])) _
          refine XS.aloadN X11.here hx rfl (hb hby d26_104) rfl rfl ?_
          exact hk
        obtain ⟨T15, X15, e15, st15⟩ := getF X11 hx hZ hown (host := "") (Or.inl (hw _ (List.mem_of_getElem? (i := 21) rfl))) Via.refl rfl (own_pF_bounds G11) (g := (mkF m 105 #[rv ob, iv p1, iv (cn - p1), iv (3 : Int32)] [(.ref ob)])) rfl rfl (hb hby d26_105)
        have K15 : own_R p e below (T15.setTop (mkF m 108 #[rv ob, iv p1, iv (cn - p1), iv (3 : Int32)] [(.ref vb)])) S0 := fun t hk => K14 t (st15 _ hk)
        have K16 : own_R p e below (T15.setTop (mkF m 110 #[rv ob, iv p1, iv (cn - p1), iv (3 : Int32)] [(.ref ob), (.int (cn - p1)), (.ref vb)])) S0 := by
          intro t hk
          refine K15 t ?_
          show Steps p.tables e below (T15.setTop (mkF m 108 #[rv ob, iv p1, iv (cn - p1), iv (3 : Int32)] [(.ref vb)])) _
          refine XS.iloadN X15.here hx rfl (hb hby d26_108) rfl ?_
          refine XS.aloadN X15.here hx rfl (hb hby d26_109) rfl rfl ?_
          exact hk
        obtain ⟨T17, X17, e17, st17⟩ := getF X15 hx hZ hown (host := "") (Or.inl (hw _ (List.mem_of_getElem? (i := 21) rfl))) Via.refl e15 (own_pF_bounds G11) (g := (mkF m 110 #[rv ob, iv p1, iv (cn - p1), iv (3 : Int32)] [(.ref ob), (.int (cn - p1)), (.ref vb)])) rfl rfl (hb hby d26_110)
        have K17 : own_R p e below (T17.setTop (mkF m 113 #[rv ob, iv p1, iv (cn - p1), iv (3 : Int32)] [(.ref vb), (.int (cn - p1)), (.ref vb)])) S0 := fun t hk => K16 t (st17 _ hk)
        have K18 : own_R p e below (T17.setTop (mkF m 114 #[rv ob, iv p1, iv (cn - p1), iv (3 : Int32)] [(.ref ob), (.ref vb), (.int (cn - p1)), (.ref vb)])) S0 := by
          intro t hk
          refine K17 t ?_
          show Steps p.tables e below (T17.setTop (mkF m 113 #[rv ob, iv p1, iv (cn - p1), iv (3 : Int32)] [(.ref vb), (.int (cn - p1)), (.ref vb)])) _
          refine XS.aloadN X17.here hx rfl (hb hby d26_113) rfl rfl ?_
          exact hk
        obtain ⟨T19, X19, e19, st19⟩ := getF X17 hx hZ hown (host := "") (Or.inl (hw _ (List.mem_of_getElem? (i := 73) rfl))) Via.refl e17 (own_pF_count G11) (g := (mkF m 114 #[rv ob, iv p1, iv (cn - p1), iv (3 : Int32)] [(.ref ob), (.ref vb), (.int (cn - p1)), (.ref vb)])) rfl rfl (hb hby d26_114)
        have K19 : own_R p e below (T19.setTop (mkF m 117 #[rv ob, iv p1, iv (cn - p1), iv (3 : Int32)] [(.int cn), (.ref vb), (.int (cn - p1)), (.ref vb)])) S0 := fun t hk => K18 t (st19 _ hk)
        obtain ⟨bz, hv_bz, st20⟩ := own_ldI X19 hx hZ e19 (own_pV_vb G11) (j := cn) (own_b _ _ bC) (g := (mkF m 117 #[rv ob, iv p1, iv (cn - p1), iv (3 : Int32)] [(.int cn), (.ref vb), (.int (cn - p1)), (.ref vb)])) rfl rfl (hb hby d26_117)
        have K20 : own_R p e below (T19.setTop (mkF m 118 #[rv ob, iv p1, iv (cn - p1), iv (3 : Int32)] [(.int bz), (.int (cn - p1)), (.ref vb)])) S0 := fun t hk => K19 t (st20 _ hk)
        obtain ⟨T21, h21, X21, e21, W21, V21, st21⟩ := own_stI X19 hx hZ e19 (own_pV_vb G11) (j := (cn - p1)) _ rfl (own_b _ _ bK) (by rw [(own_pL_vb G11)]; exact own_cl _ _ bK) (g := (mkF m 118 #[rv ob, iv p1, iv (cn - p1), iv (3 : Int32)] [(.int bz), (.int (cn - p1)), (.ref vb)])) rfl rfl (hb hby d26_118)
        have K21 : own_R p e below (T21.setTop (mkF m 119 #[rv ob, iv p1, iv (cn - p1), iv (3 : Int32)] [])) S0 := fun t hk => K20 t (st21 _ hk)
        have Kp22 := Kp12.wr W21 (Or.inl (List.mem_of_getElem? (i := 1) rfl))
        have N21 := Fr.snoc X21 N11 (by omega : n0 ≤ vb)
        have G21 := own_w_vb G11 hO W21 V21 (List.length_set.trans (own_pL_vb G11))
        have K23 : own_R p e below (T21.setTop (mkF m 121 #[rv ob, iv p1, iv (cn - p1), iv (3 : Int32)] [(.int (cn - p1)), (.ref ob)])) S0 := by
          intro t hk
          refine K21 t ?_
          show Steps p.tables e below (T21.setTop (mkF m 119 #[rv ob, iv p1, iv (cn - p1), iv (3 : Int32)] [])) _
          refine XS.aloadN X21.here hx rfl (hb hby d26_119) rfl rfl ?_
          refine XS.iloadN X21.here hx rfl (hb hby d26_120) rfl ?_
          exact hk
        obtain ⟨T24, h24, X24, e24, W24, st24⟩ := putF X21 hx hZ hown (host := "") (Or.inl (hw _ (List.mem_of_getElem? (i := 73) rfl))) Via.refl e21 (own_pF_count G21) (own_pE G21) (Or.inl (hw _ (List.mem_of_getElem? (i := 74) rfl))) (hw _ (List.mem_of_getElem? (i := 3) rfl)) (ty := .int) (by decide) rfl rfl (g := (mkF m 121 #[rv ob, iv p1, iv (cn - p1), iv (3 : Int32)] [(.int (cn - p1)), (.ref ob)])) rfl rfl (hb hby d26_121)
        have K24 : own_R p e below (T24.setTop (mkF m 124 #[rv ob, iv p1, iv (cn - p1), iv (3 : Int32)] [])) S0 := fun t hk => K23 t (st24 _ hk)
        have Kp25 := Kp22.wr W24 (Or.inl (List.mem_of_getElem? (i := 0) rfl))
        have N24 := Fr.snoc X24 N21 (by omega : n0 ≤ ob)
        have G24 := own_w_count hw G21 hO W24
        have R0 : ((((VB.set (0 : Int32).toNatClampNeg (.int vb0)).set (1 : Int32).toNatClampNeg (.int vb1)).set (2 : Int32).toNatClampNeg (.int vb2)).set (cn - p1).toNatClampNeg (.int bz)).getD (0 : Int32).toNatClampNeg (.int (0 : Int32)) = VB.getD p1.toNatClampNeg (.int (0 : Int32)) := by
          rw [own_gs _ _ _ _ _ (by omega), own_gs _ _ _ _ _ (by omega), own_gs _ _ _ _ _ (by omega), own_ge _ _ _ _ (by (try simp only [List.length_set]); rw [own_pL_vb hG]; show _ < nb.toInt.toNat; omega), ← hv_vb0, q0] <;> rfl
        have R1 : ((((VB.set (0 : Int32).toNatClampNeg (.int vb0)).set (1 : Int32).toNatClampNeg (.int vb1)).set (2 : Int32).toNatClampNeg (.int vb2)).set (cn - p1).toNatClampNeg (.int bz)).getD (cn - p1).toNatClampNeg (.int (0 : Int32)) = VB.getD cn.toNatClampNeg (.int (0 : Int32)) := by
          rw [own_ge _ _ _ _ (by (try simp only [List.length_set]); rw [own_pL_vb hG]; show _ < nb.toInt.toNat; omega), ← hv_bz, own_gs _ _ _ _ _ (by omega), own_gs _ _ _ _ _ (by omega), own_gs _ _ _ _ _ (by omega)]
        have kt1 : ((cn - p1) - (1 : Int32)).toInt = 2 := by rw [own_sub1 _ (by omega)]; omega
        have g3 : ((cn - p1) - (1 : Int32)).toNatClampNeg = 2 := by show ((cn - p1) - (1 : Int32)).toInt.toNat = 2; omega
        have kc1 := own_sub1 cn (by omega)
        have g4 : (cn - (1 : Int32)).toNatClampNeg = p1.toNatClampNeg + 2 := by show (cn - (1 : Int32)).toInt.toNat = p1.toInt.toNat + 2; omega
        have R_vl : (((VL.set (0 : Int32).toNatClampNeg (.long vl0)).set (1 : Int32).toNatClampNeg (.long vl1)).set (2 : Int32).toNatClampNeg (.long vl2)).getD ((cn - p1) - (1 : Int32)).toNatClampNeg (.long (0 : Int64)) = VL.getD (cn - (1 : Int32)).toNatClampNeg (.long (0 : Int64)) := by
          rw [g3, g4, ← c2, own_ge _ _ _ _ (by (try simp only [List.length_set]); rw [own_pL_vl hG]; show _ < nn.toInt.toNat; omega), ← hv_vl2, own_gs _ _ _ _ _ (by omega), own_gs _ _ _ _ _ (by omega), q2, c2]
        have R_vh : (((VH.set (0 : Int32).toNatClampNeg (.long vh0)).set (1 : Int32).toNatClampNeg (.long vh1)).set (2 : Int32).toNatClampNeg (.long vh2)).getD ((cn - p1) - (1 : Int32)).toNatClampNeg (.long (0 : Int64)) = VH.getD (cn - (1 : Int32)).toNatClampNeg (.long (0 : Int64)) := by
          rw [g3, g4, ← c2, own_ge _ _ _ _ (by (try simp only [List.length_set]); rw [own_pL_vh hG]; show _ < nn.toInt.toNat; omega), ← hv_vh2, own_gs _ _ _ _ _ (by omega), own_gs _ _ _ _ _ (by omega), q2, c2]
        have R_vf : (((VF.set (0 : Int32).toNatClampNeg (.long vf0)).set (1 : Int32).toNatClampNeg (.long vf1)).set (2 : Int32).toNatClampNeg (.long vf2)).getD ((cn - p1) - (1 : Int32)).toNatClampNeg (.long (0 : Int64)) = VF.getD (cn - (1 : Int32)).toNatClampNeg (.long (0 : Int64)) := by
          rw [g3, g4, ← c2, own_ge _ _ _ _ (by (try simp only [List.length_set]); rw [own_pL_vf hG]; show _ < nn.toInt.toNat; omega), ← hv_vf2, own_gs _ _ _ _ _ (by omega), own_gs _ _ _ _ _ (by omega), q2, c2]
        have R_vg : (((VG.set (0 : Int32).toNatClampNeg (.long vg0)).set (1 : Int32).toNatClampNeg (.long vg1)).set (2 : Int32).toNatClampNeg (.long vg2)).getD ((cn - p1) - (1 : Int32)).toNatClampNeg (.long (0 : Int64)) = VG.getD (cn - (1 : Int32)).toNatClampNeg (.long (0 : Int64)) := by
          rw [g3, g4, ← c2, own_ge _ _ _ _ (by (try simp only [List.length_set]); rw [own_pL_vg hG]; show _ < nn.toInt.toNat; omega), ← hv_vg2, own_gs _ _ _ _ _ (by omega), own_gs _ _ _ _ _ (by omega), q2, c2]
        have R_vs : (((VS.set (0 : Int32).toNatClampNeg (.int vs0)).set (1 : Int32).toNatClampNeg (.int vs1)).set (2 : Int32).toNatClampNeg (.int vs2)).getD ((cn - p1) - (1 : Int32)).toNatClampNeg (.int (0 : Int32)) = VS.getD (cn - (1 : Int32)).toNatClampNeg (.int (0 : Int32)) := by
          rw [g3, g4, ← c2, own_ge _ _ _ _ (by (try simp only [List.length_set]); rw [own_pL_vs hG]; show _ < nn.toInt.toNat; omega), ← hv_vs2, own_gs _ _ _ _ _ (by omega), own_gs _ _ _ _ _ (by omega), q2, c2]
        have KP : Keep h0 T24.heap [ob, vb, vl, vh, vf, vg, vs] := by rw [e24]; exact Kp25
        have GG : ∃ WB WL WH WF WG WT, own_G Z T24.heap ob va vb vl vh vf vg vs kv kb kl kh kf kg ks fl nn nb VV (.ref va) (cn - p1) WB WL WH WF WG WT ∧ WB.getD (0 : Int32).toNatClampNeg (.int (0 : Int32)) = VB.getD p1.toNatClampNeg (.int (0 : Int32)) ∧ WB.getD (cn - p1).toNatClampNeg (.int (0 : Int32)) = VB.getD cn.toNatClampNeg (.int (0 : Int32)) ∧ (0 < (cn - p1).toInt → WL.getD ((cn - p1) - (1 : Int32)).toNatClampNeg (.long (0 : Int64)) = VL.getD (cn - (1 : Int32)).toNatClampNeg (.long (0 : Int64)) ∧ WH.getD ((cn - p1) - (1 : Int32)).toNatClampNeg (.long (0 : Int64)) = VH.getD (cn - (1 : Int32)).toNatClampNeg (.long (0 : Int64)) ∧ WF.getD ((cn - p1) - (1 : Int32)).toNatClampNeg (.long (0 : Int64)) = VF.getD (cn - (1 : Int32)).toNatClampNeg (.long (0 : Int64)) ∧ WG.getD ((cn - p1) - (1 : Int32)).toNatClampNeg (.long (0 : Int64)) = VG.getD (cn - (1 : Int32)).toNatClampNeg (.long (0 : Int64)) ∧ WT.getD ((cn - p1) - (1 : Int32)).toNatClampNeg (.int (0 : Int32)) = VS.getD (cn - (1 : Int32)).toNatClampNeg (.int (0 : Int32))) := by
          rw [e24]
          exact ⟨_, _, _, _, _, _, G24, R0, R1, (fun _ => ⟨R_vl, R_vh, R_vf, R_vg, R_vs⟩)⟩
        obtain ⟨fs, hr, hrun, hended, hW, hsame⟩ := X24.leave (v := none) (fun _ => rfl) Bd.notSynchronized
        exact ⟨_, _, K24 _ (X24.returnOut hx Bd.returns (hb hby d26_124) hr), hrun, hended, _, _, rfl, ⟨rfl, N24, KP, GG⟩, ⟨_, rfl⟩, hW, hsame.mono (by decide) (by decide)⟩
      · have K26 : own_R p e below (T8.setTop (mkF m 104 #[rv ob, iv p1, iv (cn - p1), iv (2 : Int32)] [])) S0 := by
          intro t hk
          refine K8 t ?_
          show Steps p.tables e below (T8.setTop (mkF m 11 #[rv ob, iv p1, iv (cn - p1), iv (2 : Int32)] [(.int (cn - p1)), (.int (2 : Int32))])) _
          refine XS.icmpYes X8.here hx rfl (pc0 := 11) (pc' := 104) rfl (hb hby d26_11) rfl (flt hc11).2.1 (by decide) (by decide) ?_
          exact hk
        have hc11_2 := hc11
        have kt : (cn - p1).toInt = 2 := by
          have z0 := Int32.lt_iff_toInt_lt.mp hc11_0; have z1 := Int32.lt_iff_toInt_lt.mp hc11_1; have z : ¬ ((2 : Int32).toInt < (cn - p1).toInt) := fun q => hc11_2 (Int32.lt_iff_toInt_lt.mpr q); omega
        have g1 : (cn - p1).toNatClampNeg = 2 := by show (cn - p1).toInt.toNat = 2; omega
        have g2 : cn.toNatClampNeg = p1.toNatClampNeg + 2 := by show cn.toInt.toNat = p1.toInt.toNat + 2; omega
        have bK : 0 ≤ (cn - p1).toInt ∧ (cn - p1).toInt < nb.toInt := by omega
        have bC : 0 ≤ cn.toInt ∧ cn.toInt < nb.toInt := by omega
        have K27 : own_R p e below (T8.setTop (mkF m 105 #[rv ob, iv p1, iv (cn - p1), iv (2 : Int32)] [(.ref ob)])) S0 := by
          intro t hk
          refine K26 t ?_
          show Steps p.tables e below (T8.setTop (mkF m 104 #[rv ob, iv p1, iv (cn - p1), iv (2 : Int32)] [])) _
          refine XS.aloadN X8.here hx rfl (hb hby d26_104) rfl rfl ?_
          exact hk
        obtain ⟨T28, X28, e28, st28⟩ := getF X8 hx hZ hown (host := "") (Or.inl (hw _ (List.mem_of_getElem? (i := 21) rfl))) Via.refl rfl (own_pF_bounds G8) (g := (mkF m 105 #[rv ob, iv p1, iv (cn - p1), iv (2 : Int32)] [(.ref ob)])) rfl rfl (hb hby d26_105)
        have K28 : own_R p e below (T28.setTop (mkF m 108 #[rv ob, iv p1, iv (cn - p1), iv (2 : Int32)] [(.ref vb)])) S0 := fun t hk => K27 t (st28 _ hk)
        have K29 : own_R p e below (T28.setTop (mkF m 110 #[rv ob, iv p1, iv (cn - p1), iv (2 : Int32)] [(.ref ob), (.int (cn - p1)), (.ref vb)])) S0 := by
          intro t hk
          refine K28 t ?_
          show Steps p.tables e below (T28.setTop (mkF m 108 #[rv ob, iv p1, iv (cn - p1), iv (2 : Int32)] [(.ref vb)])) _
          refine XS.iloadN X28.here hx rfl (hb hby d26_108) rfl ?_
          refine XS.aloadN X28.here hx rfl (hb hby d26_109) rfl rfl ?_
          exact hk
        obtain ⟨T30, X30, e30, st30⟩ := getF X28 hx hZ hown (host := "") (Or.inl (hw _ (List.mem_of_getElem? (i := 21) rfl))) Via.refl e28 (own_pF_bounds G8) (g := (mkF m 110 #[rv ob, iv p1, iv (cn - p1), iv (2 : Int32)] [(.ref ob), (.int (cn - p1)), (.ref vb)])) rfl rfl (hb hby d26_110)
        have K30 : own_R p e below (T30.setTop (mkF m 113 #[rv ob, iv p1, iv (cn - p1), iv (2 : Int32)] [(.ref vb), (.int (cn - p1)), (.ref vb)])) S0 := fun t hk => K29 t (st30 _ hk)
        have K31 : own_R p e below (T30.setTop (mkF m 114 #[rv ob, iv p1, iv (cn - p1), iv (2 : Int32)] [(.ref ob), (.ref vb), (.int (cn - p1)), (.ref vb)])) S0 := by
          intro t hk
          refine K30 t ?_
          show Steps p.tables e below (T30.setTop (mkF m 113 #[rv ob, iv p1, iv (cn - p1), iv (2 : Int32)] [(.ref vb), (.int (cn - p1)), (.ref vb)])) _
          refine XS.aloadN X30.here hx rfl (hb hby d26_113) rfl rfl ?_
          exact hk
        obtain ⟨T32, X32, e32, st32⟩ := getF X30 hx hZ hown (host := "") (Or.inl (hw _ (List.mem_of_getElem? (i := 73) rfl))) Via.refl e30 (own_pF_count G8) (g := (mkF m 114 #[rv ob, iv p1, iv (cn - p1), iv (2 : Int32)] [(.ref ob), (.ref vb), (.int (cn - p1)), (.ref vb)])) rfl rfl (hb hby d26_114)
        have K32 : own_R p e below (T32.setTop (mkF m 117 #[rv ob, iv p1, iv (cn - p1), iv (2 : Int32)] [(.int cn), (.ref vb), (.int (cn - p1)), (.ref vb)])) S0 := fun t hk => K31 t (st32 _ hk)
        obtain ⟨bz, hv_bz, st33⟩ := own_ldI X32 hx hZ e32 (own_pV_vb G8) (j := cn) (own_b _ _ bC) (g := (mkF m 117 #[rv ob, iv p1, iv (cn - p1), iv (2 : Int32)] [(.int cn), (.ref vb), (.int (cn - p1)), (.ref vb)])) rfl rfl (hb hby d26_117)
        have K33 : own_R p e below (T32.setTop (mkF m 118 #[rv ob, iv p1, iv (cn - p1), iv (2 : Int32)] [(.int bz), (.int (cn - p1)), (.ref vb)])) S0 := fun t hk => K32 t (st33 _ hk)
        obtain ⟨T34, h34, X34, e34, W34, V34, st34⟩ := own_stI X32 hx hZ e32 (own_pV_vb G8) (j := (cn - p1)) _ rfl (own_b _ _ bK) (by rw [(own_pL_vb G8)]; exact own_cl _ _ bK) (g := (mkF m 118 #[rv ob, iv p1, iv (cn - p1), iv (2 : Int32)] [(.int bz), (.int (cn - p1)), (.ref vb)])) rfl rfl (hb hby d26_118)
        have K34 : own_R p e below (T34.setTop (mkF m 119 #[rv ob, iv p1, iv (cn - p1), iv (2 : Int32)] [])) S0 := fun t hk => K33 t (st34 _ hk)
        have Kp35 := Kp9.wr W34 (Or.inl (List.mem_of_getElem? (i := 1) rfl))
        have N34 := Fr.snoc X34 N8 (by omega : n0 ≤ vb)
        have G34 := own_w_vb G8 hO W34 V34 (List.length_set.trans (own_pL_vb G8))
        have K36 : own_R p e below (T34.setTop (mkF m 121 #[rv ob, iv p1, iv (cn - p1), iv (2 : Int32)] [(.int (cn - p1)), (.ref ob)])) S0 := by
          intro t hk
          refine K34 t ?_
          show Steps p.tables e below (T34.setTop (mkF m 119 #[rv ob, iv p1, iv (cn - p1), iv (2 : Int32)] [])) _
          refine XS.aloadN X34.here hx rfl (hb hby d26_119) rfl rfl ?_
          refine XS.iloadN X34.here hx rfl (hb hby d26_120) rfl ?_
          exact hk
        obtain ⟨T37, h37, X37, e37, W37, st37⟩ := putF X34 hx hZ hown (host := "") (Or.inl (hw _ (List.mem_of_getElem? (i := 73) rfl))) Via.refl e34 (own_pF_count G34) (own_pE G34) (Or.inl (hw _ (List.mem_of_getElem? (i := 74) rfl))) (hw _ (List.mem_of_getElem? (i := 3) rfl)) (ty := .int) (by decide) rfl rfl (g := (mkF m 121 #[rv ob, iv p1, iv (cn - p1), iv (2 : Int32)] [(.int (cn - p1)), (.ref ob)])) rfl rfl (hb hby d26_121)
        have K37 : own_R p e below (T37.setTop (mkF m 124 #[rv ob, iv p1, iv (cn - p1), iv (2 : Int32)] [])) S0 := fun t hk => K36 t (st37 _ hk)
        have Kp38 := Kp35.wr W37 (Or.inl (List.mem_of_getElem? (i := 0) rfl))
        have N37 := Fr.snoc X37 N34 (by omega : n0 ≤ ob)
        have G37 := own_w_count hw G34 hO W37
        have R0 : (((VB.set (0 : Int32).toNatClampNeg (.int vb0)).set (1 : Int32).toNatClampNeg (.int vb1)).set (cn - p1).toNatClampNeg (.int bz)).getD (0 : Int32).toNatClampNeg (.int (0 : Int32)) = VB.getD p1.toNatClampNeg (.int (0 : Int32)) := by
          rw [own_gs _ _ _ _ _ (by omega), own_gs _ _ _ _ _ (by omega), own_ge _ _ _ _ (by (try simp only [List.length_set]); rw [own_pL_vb hG]; show _ < nb.toInt.toNat; omega), ← hv_vb0, q0] <;> rfl
        have R1 : (((VB.set (0 : Int32).toNatClampNeg (.int vb0)).set (1 : Int32).toNatClampNeg (.int vb1)).set (cn - p1).toNatClampNeg (.int bz)).getD (cn - p1).toNatClampNeg (.int (0 : Int32)) = VB.getD cn.toNatClampNeg (.int (0 : Int32)) := by
          rw [own_ge _ _ _ _ (by (try simp only [List.length_set]); rw [own_pL_vb hG]; show _ < nb.toInt.toNat; omega), ← hv_bz, own_gs _ _ _ _ _ (by omega), own_gs _ _ _ _ _ (by omega)]
        have kt1 : ((cn - p1) - (1 : Int32)).toInt = 1 := by rw [own_sub1 _ (by omega)]; omega
        have g3 : ((cn - p1) - (1 : Int32)).toNatClampNeg = 1 := by show ((cn - p1) - (1 : Int32)).toInt.toNat = 1; omega
        have kc1 := own_sub1 cn (by omega)
        have g4 : (cn - (1 : Int32)).toNatClampNeg = p1.toNatClampNeg + 1 := by show (cn - (1 : Int32)).toInt.toNat = p1.toInt.toNat + 1; omega
        have R_vl : ((VL.set (0 : Int32).toNatClampNeg (.long vl0)).set (1 : Int32).toNatClampNeg (.long vl1)).getD ((cn - p1) - (1 : Int32)).toNatClampNeg (.long (0 : Int64)) = VL.getD (cn - (1 : Int32)).toNatClampNeg (.long (0 : Int64)) := by
          rw [g3, g4, ← c1, own_ge _ _ _ _ (by (try simp only [List.length_set]); rw [own_pL_vl hG]; show _ < nn.toInt.toNat; omega), ← hv_vl1, own_gs _ _ _ _ _ (by omega), q1, c1]
        have R_vh : ((VH.set (0 : Int32).toNatClampNeg (.long vh0)).set (1 : Int32).toNatClampNeg (.long vh1)).getD ((cn - p1) - (1 : Int32)).toNatClampNeg (.long (0 : Int64)) = VH.getD (cn - (1 : Int32)).toNatClampNeg (.long (0 : Int64)) := by
          rw [g3, g4, ← c1, own_ge _ _ _ _ (by (try simp only [List.length_set]); rw [own_pL_vh hG]; show _ < nn.toInt.toNat; omega), ← hv_vh1, own_gs _ _ _ _ _ (by omega), q1, c1]
        have R_vf : ((VF.set (0 : Int32).toNatClampNeg (.long vf0)).set (1 : Int32).toNatClampNeg (.long vf1)).getD ((cn - p1) - (1 : Int32)).toNatClampNeg (.long (0 : Int64)) = VF.getD (cn - (1 : Int32)).toNatClampNeg (.long (0 : Int64)) := by
          rw [g3, g4, ← c1, own_ge _ _ _ _ (by (try simp only [List.length_set]); rw [own_pL_vf hG]; show _ < nn.toInt.toNat; omega), ← hv_vf1, own_gs _ _ _ _ _ (by omega), q1, c1]
        have R_vg : ((VG.set (0 : Int32).toNatClampNeg (.long vg0)).set (1 : Int32).toNatClampNeg (.long vg1)).getD ((cn - p1) - (1 : Int32)).toNatClampNeg (.long (0 : Int64)) = VG.getD (cn - (1 : Int32)).toNatClampNeg (.long (0 : Int64)) := by
          rw [g3, g4, ← c1, own_ge _ _ _ _ (by (try simp only [List.length_set]); rw [own_pL_vg hG]; show _ < nn.toInt.toNat; omega), ← hv_vg1, own_gs _ _ _ _ _ (by omega), q1, c1]
        have R_vs : ((VS.set (0 : Int32).toNatClampNeg (.int vs0)).set (1 : Int32).toNatClampNeg (.int vs1)).getD ((cn - p1) - (1 : Int32)).toNatClampNeg (.int (0 : Int32)) = VS.getD (cn - (1 : Int32)).toNatClampNeg (.int (0 : Int32)) := by
          rw [g3, g4, ← c1, own_ge _ _ _ _ (by (try simp only [List.length_set]); rw [own_pL_vs hG]; show _ < nn.toInt.toNat; omega), ← hv_vs1, own_gs _ _ _ _ _ (by omega), q1, c1]
        have KP : Keep h0 T37.heap [ob, vb, vl, vh, vf, vg, vs] := by rw [e37]; exact Kp38
        have GG : ∃ WB WL WH WF WG WT, own_G Z T37.heap ob va vb vl vh vf vg vs kv kb kl kh kf kg ks fl nn nb VV (.ref va) (cn - p1) WB WL WH WF WG WT ∧ WB.getD (0 : Int32).toNatClampNeg (.int (0 : Int32)) = VB.getD p1.toNatClampNeg (.int (0 : Int32)) ∧ WB.getD (cn - p1).toNatClampNeg (.int (0 : Int32)) = VB.getD cn.toNatClampNeg (.int (0 : Int32)) ∧ (0 < (cn - p1).toInt → WL.getD ((cn - p1) - (1 : Int32)).toNatClampNeg (.long (0 : Int64)) = VL.getD (cn - (1 : Int32)).toNatClampNeg (.long (0 : Int64)) ∧ WH.getD ((cn - p1) - (1 : Int32)).toNatClampNeg (.long (0 : Int64)) = VH.getD (cn - (1 : Int32)).toNatClampNeg (.long (0 : Int64)) ∧ WF.getD ((cn - p1) - (1 : Int32)).toNatClampNeg (.long (0 : Int64)) = VF.getD (cn - (1 : Int32)).toNatClampNeg (.long (0 : Int64)) ∧ WG.getD ((cn - p1) - (1 : Int32)).toNatClampNeg (.long (0 : Int64)) = VG.getD (cn - (1 : Int32)).toNatClampNeg (.long (0 : Int64)) ∧ WT.getD ((cn - p1) - (1 : Int32)).toNatClampNeg (.int (0 : Int32)) = VS.getD (cn - (1 : Int32)).toNatClampNeg (.int (0 : Int32))) := by
          rw [e37]
          exact ⟨_, _, _, _, _, _, G37, R0, R1, (fun _ => ⟨R_vl, R_vh, R_vf, R_vg, R_vs⟩)⟩
        obtain ⟨fs, hr, hrun, hended, hW, hsame⟩ := X37.leave (v := none) (fun _ => rfl) Bd.notSynchronized
        exact ⟨_, _, K37 _ (X37.returnOut hx Bd.returns (hb hby d26_124) hr), hrun, hended, _, _, rfl, ⟨rfl, N37, KP, GG⟩, ⟨_, rfl⟩, hW, hsame.mono (by decide) (by decide)⟩
    · have K39 : own_R p e below (T5.setTop (mkF m 104 #[rv ob, iv p1, iv (cn - p1), iv (1 : Int32)] [])) S0 := by
        intro t hk
        refine K5 t ?_
        show Steps p.tables e below (T5.setTop (mkF m 11 #[rv ob, iv p1, iv (cn - p1), iv (1 : Int32)] [(.int (cn - p1)), (.int (1 : Int32))])) _
        refine XS.icmpYes X5.here hx rfl (pc0 := 11) (pc' := 104) rfl (hb hby d26_11) rfl (flt hc11).2.1 (by decide) (by decide) ?_
        exact hk
      have hc11_1 := hc11
      have kt : (cn - p1).toInt = 1 := by
        have z0 := Int32.lt_iff_toInt_lt.mp hc11_0; have z : ¬ ((1 : Int32).toInt < (cn - p1).toInt) := fun q => hc11_1 (Int32.lt_iff_toInt_lt.mpr q); omega
      have g1 : (cn - p1).toNatClampNeg = 1 := by show (cn - p1).toInt.toNat = 1; omega
      have g2 : cn.toNatClampNeg = p1.toNatClampNeg + 1 := by show cn.toInt.toNat = p1.toInt.toNat + 1; omega
      have bK : 0 ≤ (cn - p1).toInt ∧ (cn - p1).toInt < nb.toInt := by omega
      have bC : 0 ≤ cn.toInt ∧ cn.toInt < nb.toInt := by omega
      have K40 : own_R p e below (T5.setTop (mkF m 105 #[rv ob, iv p1, iv (cn - p1), iv (1 : Int32)] [(.ref ob)])) S0 := by
        intro t hk
        refine K39 t ?_
        show Steps p.tables e below (T5.setTop (mkF m 104 #[rv ob, iv p1, iv (cn - p1), iv (1 : Int32)] [])) _
        refine XS.aloadN X5.here hx rfl (hb hby d26_104) rfl rfl ?_
        exact hk
      obtain ⟨T41, X41, e41, st41⟩ := getF X5 hx hZ hown (host := "") (Or.inl (hw _ (List.mem_of_getElem? (i := 21) rfl))) Via.refl rfl (own_pF_bounds G5) (g := (mkF m 105 #[rv ob, iv p1, iv (cn - p1), iv (1 : Int32)] [(.ref ob)])) rfl rfl (hb hby d26_105)
      have K41 : own_R p e below (T41.setTop (mkF m 108 #[rv ob, iv p1, iv (cn - p1), iv (1 : Int32)] [(.ref vb)])) S0 := fun t hk => K40 t (st41 _ hk)
      have K42 : own_R p e below (T41.setTop (mkF m 110 #[rv ob, iv p1, iv (cn - p1), iv (1 : Int32)] [(.ref ob), (.int (cn - p1)), (.ref vb)])) S0 := by
        intro t hk
        refine K41 t ?_
        show Steps p.tables e below (T41.setTop (mkF m 108 #[rv ob, iv p1, iv (cn - p1), iv (1 : Int32)] [(.ref vb)])) _
        refine XS.iloadN X41.here hx rfl (hb hby d26_108) rfl ?_
        refine XS.aloadN X41.here hx rfl (hb hby d26_109) rfl rfl ?_
        exact hk
      obtain ⟨T43, X43, e43, st43⟩ := getF X41 hx hZ hown (host := "") (Or.inl (hw _ (List.mem_of_getElem? (i := 21) rfl))) Via.refl e41 (own_pF_bounds G5) (g := (mkF m 110 #[rv ob, iv p1, iv (cn - p1), iv (1 : Int32)] [(.ref ob), (.int (cn - p1)), (.ref vb)])) rfl rfl (hb hby d26_110)
      have K43 : own_R p e below (T43.setTop (mkF m 113 #[rv ob, iv p1, iv (cn - p1), iv (1 : Int32)] [(.ref vb), (.int (cn - p1)), (.ref vb)])) S0 := fun t hk => K42 t (st43 _ hk)
      have K44 : own_R p e below (T43.setTop (mkF m 114 #[rv ob, iv p1, iv (cn - p1), iv (1 : Int32)] [(.ref ob), (.ref vb), (.int (cn - p1)), (.ref vb)])) S0 := by
        intro t hk
        refine K43 t ?_
        show Steps p.tables e below (T43.setTop (mkF m 113 #[rv ob, iv p1, iv (cn - p1), iv (1 : Int32)] [(.ref vb), (.int (cn - p1)), (.ref vb)])) _
        refine XS.aloadN X43.here hx rfl (hb hby d26_113) rfl rfl ?_
        exact hk
      obtain ⟨T45, X45, e45, st45⟩ := getF X43 hx hZ hown (host := "") (Or.inl (hw _ (List.mem_of_getElem? (i := 73) rfl))) Via.refl e43 (own_pF_count G5) (g := (mkF m 114 #[rv ob, iv p1, iv (cn - p1), iv (1 : Int32)] [(.ref ob), (.ref vb), (.int (cn - p1)), (.ref vb)])) rfl rfl (hb hby d26_114)
      have K45 : own_R p e below (T45.setTop (mkF m 117 #[rv ob, iv p1, iv (cn - p1), iv (1 : Int32)] [(.int cn), (.ref vb), (.int (cn - p1)), (.ref vb)])) S0 := fun t hk => K44 t (st45 _ hk)
      obtain ⟨bz, hv_bz, st46⟩ := own_ldI X45 hx hZ e45 (own_pV_vb G5) (j := cn) (own_b _ _ bC) (g := (mkF m 117 #[rv ob, iv p1, iv (cn - p1), iv (1 : Int32)] [(.int cn), (.ref vb), (.int (cn - p1)), (.ref vb)])) rfl rfl (hb hby d26_117)
      have K46 : own_R p e below (T45.setTop (mkF m 118 #[rv ob, iv p1, iv (cn - p1), iv (1 : Int32)] [(.int bz), (.int (cn - p1)), (.ref vb)])) S0 := fun t hk => K45 t (st46 _ hk)
      obtain ⟨T47, h47, X47, e47, W47, V47, st47⟩ := own_stI X45 hx hZ e45 (own_pV_vb G5) (j := (cn - p1)) _ rfl (own_b _ _ bK) (by rw [(own_pL_vb G5)]; exact own_cl _ _ bK) (g := (mkF m 118 #[rv ob, iv p1, iv (cn - p1), iv (1 : Int32)] [(.int bz), (.int (cn - p1)), (.ref vb)])) rfl rfl (hb hby d26_118)
      have K47 : own_R p e below (T47.setTop (mkF m 119 #[rv ob, iv p1, iv (cn - p1), iv (1 : Int32)] [])) S0 := fun t hk => K46 t (st47 _ hk)
      have Kp48 := Kp6.wr W47 (Or.inl (List.mem_of_getElem? (i := 1) rfl))
      have N47 := Fr.snoc X47 N5 (by omega : n0 ≤ vb)
      have G47 := own_w_vb G5 hO W47 V47 (List.length_set.trans (own_pL_vb G5))
      have K49 : own_R p e below (T47.setTop (mkF m 121 #[rv ob, iv p1, iv (cn - p1), iv (1 : Int32)] [(.int (cn - p1)), (.ref ob)])) S0 := by
        intro t hk
        refine K47 t ?_
        show Steps p.tables e below (T47.setTop (mkF m 119 #[rv ob, iv p1, iv (cn - p1), iv (1 : Int32)] [])) _
        refine XS.aloadN X47.here hx rfl (hb hby d26_119) rfl rfl ?_
        refine XS.iloadN X47.here hx rfl (hb hby d26_120) rfl ?_
        exact hk
      obtain ⟨T50, h50, X50, e50, W50, st50⟩ := putF X47 hx hZ hown (host := "") (Or.inl (hw _ (List.mem_of_getElem? (i := 73) rfl))) Via.refl e47 (own_pF_count G47) (own_pE G47) (Or.inl (hw _ (List.mem_of_getElem? (i := 74) rfl))) (hw _ (List.mem_of_getElem? (i := 3) rfl)) (ty := .int) (by decide) rfl rfl (g := (mkF m 121 #[rv ob, iv p1, iv (cn - p1), iv (1 : Int32)] [(.int (cn - p1)), (.ref ob)])) rfl rfl (hb hby d26_121)
      have K50 : own_R p e below (T50.setTop (mkF m 124 #[rv ob, iv p1, iv (cn - p1), iv (1 : Int32)] [])) S0 := fun t hk => K49 t (st50 _ hk)
      have Kp51 := Kp48.wr W50 (Or.inl (List.mem_of_getElem? (i := 0) rfl))
      have N50 := Fr.snoc X50 N47 (by omega : n0 ≤ ob)
      have G50 := own_w_count hw G47 hO W50
      have R0 : ((VB.set (0 : Int32).toNatClampNeg (.int vb0)).set (cn - p1).toNatClampNeg (.int bz)).getD (0 : Int32).toNatClampNeg (.int (0 : Int32)) = VB.getD p1.toNatClampNeg (.int (0 : Int32)) := by
        rw [own_gs _ _ _ _ _ (by omega), own_ge _ _ _ _ (by (try simp only [List.length_set]); rw [own_pL_vb hG]; show _ < nb.toInt.toNat; omega), ← hv_vb0, q0] <;> rfl
      have R1 : ((VB.set (0 : Int32).toNatClampNeg (.int vb0)).set (cn - p1).toNatClampNeg (.int bz)).getD (cn - p1).toNatClampNeg (.int (0 : Int32)) = VB.getD cn.toNatClampNeg (.int (0 : Int32)) := by
        rw [own_ge _ _ _ _ (by (try simp only [List.length_set]); rw [own_pL_vb hG]; show _ < nb.toInt.toNat; omega), ← hv_bz, own_gs _ _ _ _ _ (by omega)]
      have kt1 : ((cn - p1) - (1 : Int32)).toInt = 0 := by rw [own_sub1 _ (by omega)]; omega
      have g3 : ((cn - p1) - (1 : Int32)).toNatClampNeg = 0 := by show ((cn - p1) - (1 : Int32)).toInt.toNat = 0; omega
      have kc1 := own_sub1 cn (by omega)
      have g4 : (cn - (1 : Int32)).toNatClampNeg = p1.toNatClampNeg + 0 := by show (cn - (1 : Int32)).toInt.toNat = p1.toInt.toNat + 0; omega
      have R_vl : (VL.set (0 : Int32).toNatClampNeg (.long vl0)).getD ((cn - p1) - (1 : Int32)).toNatClampNeg (.long (0 : Int64)) = VL.getD (cn - (1 : Int32)).toNatClampNeg (.long (0 : Int64)) := by
        rw [g3, g4, ← c0, own_ge _ _ _ _ (by (try simp only [List.length_set]); rw [own_pL_vl hG]; show _ < nn.toInt.toNat; omega), ← hv_vl0, q0, c0]
      have R_vh : (VH.set (0 : Int32).toNatClampNeg (.long vh0)).getD ((cn - p1) - (1 : Int32)).toNatClampNeg (.long (0 : Int64)) = VH.getD (cn - (1 : Int32)).toNatClampNeg (.long (0 : Int64)) := by
        rw [g3, g4, ← c0, own_ge _ _ _ _ (by (try simp only [List.length_set]); rw [own_pL_vh hG]; show _ < nn.toInt.toNat; omega), ← hv_vh0, q0, c0]
      have R_vf : (VF.set (0 : Int32).toNatClampNeg (.long vf0)).getD ((cn - p1) - (1 : Int32)).toNatClampNeg (.long (0 : Int64)) = VF.getD (cn - (1 : Int32)).toNatClampNeg (.long (0 : Int64)) := by
        rw [g3, g4, ← c0, own_ge _ _ _ _ (by (try simp only [List.length_set]); rw [own_pL_vf hG]; show _ < nn.toInt.toNat; omega), ← hv_vf0, q0, c0]
      have R_vg : (VG.set (0 : Int32).toNatClampNeg (.long vg0)).getD ((cn - p1) - (1 : Int32)).toNatClampNeg (.long (0 : Int64)) = VG.getD (cn - (1 : Int32)).toNatClampNeg (.long (0 : Int64)) := by
        rw [g3, g4, ← c0, own_ge _ _ _ _ (by (try simp only [List.length_set]); rw [own_pL_vg hG]; show _ < nn.toInt.toNat; omega), ← hv_vg0, q0, c0]
      have R_vs : (VS.set (0 : Int32).toNatClampNeg (.int vs0)).getD ((cn - p1) - (1 : Int32)).toNatClampNeg (.int (0 : Int32)) = VS.getD (cn - (1 : Int32)).toNatClampNeg (.int (0 : Int32)) := by
        rw [g3, g4, ← c0, own_ge _ _ _ _ (by (try simp only [List.length_set]); rw [own_pL_vs hG]; show _ < nn.toInt.toNat; omega), ← hv_vs0, q0, c0]
      have KP : Keep h0 T50.heap [ob, vb, vl, vh, vf, vg, vs] := by rw [e50]; exact Kp51
      have GG : ∃ WB WL WH WF WG WT, own_G Z T50.heap ob va vb vl vh vf vg vs kv kb kl kh kf kg ks fl nn nb VV (.ref va) (cn - p1) WB WL WH WF WG WT ∧ WB.getD (0 : Int32).toNatClampNeg (.int (0 : Int32)) = VB.getD p1.toNatClampNeg (.int (0 : Int32)) ∧ WB.getD (cn - p1).toNatClampNeg (.int (0 : Int32)) = VB.getD cn.toNatClampNeg (.int (0 : Int32)) ∧ (0 < (cn - p1).toInt → WL.getD ((cn - p1) - (1 : Int32)).toNatClampNeg (.long (0 : Int64)) = VL.getD (cn - (1 : Int32)).toNatClampNeg (.long (0 : Int64)) ∧ WH.getD ((cn - p1) - (1 : Int32)).toNatClampNeg (.long (0 : Int64)) = VH.getD (cn - (1 : Int32)).toNatClampNeg (.long (0 : Int64)) ∧ WF.getD ((cn - p1) - (1 : Int32)).toNatClampNeg (.long (0 : Int64)) = VF.getD (cn - (1 : Int32)).toNatClampNeg (.long (0 : Int64)) ∧ WG.getD ((cn - p1) - (1 : Int32)).toNatClampNeg (.long (0 : Int64)) = VG.getD (cn - (1 : Int32)).toNatClampNeg (.long (0 : Int64)) ∧ WT.getD ((cn - p1) - (1 : Int32)).toNatClampNeg (.int (0 : Int32)) = VS.getD (cn - (1 : Int32)).toNatClampNeg (.int (0 : Int32))) := by
        rw [e50]
        exact ⟨_, _, _, _, _, _, G50, R0, R1, (fun _ => ⟨R_vl, R_vh, R_vf, R_vg, R_vs⟩)⟩
      obtain ⟨fs, hr, hrun, hended, hW, hsame⟩ := X50.leave (v := none) (fun _ => rfl) Bd.notSynchronized
      exact ⟨_, _, K50 _ (X50.returnOut hx Bd.returns (hb hby d26_124) hr), hrun, hended, _, _, rfl, ⟨rfl, N50, KP, GG⟩, ⟨_, rfl⟩, hW, hsame.mono (by decide) (by decide)⟩
  · have K52 : own_R p e below (T2.setTop (mkF m 104 #[rv ob, iv p1, iv (cn - p1), iv (0 : Int32)] [])) S0 := by
      intro t hk
      refine K3 t ?_
      show Steps p.tables e below (T2.setTop (mkF m 11 #[rv ob, iv p1, iv (cn - p1), iv (0 : Int32)] [(.int (cn - p1)), (.int (0 : Int32))])) _
      refine XS.icmpYes X2.here hx rfl (pc0 := 11) (pc' := 104) rfl (hb hby d26_11) rfl (flt hc11).2.1 (by decide) (by decide) ?_
      exact hk
    have hc11_0 := hc11
    have kt : (cn - p1).toInt = 0 := by
      have z : ¬ ((0 : Int32).toInt < (cn - p1).toInt) := fun q => hc11_0 (Int32.lt_iff_toInt_lt.mpr q); omega
    have g1 : (cn - p1).toNatClampNeg = 0 := by show (cn - p1).toInt.toNat = 0; omega
    have g2 : cn.toNatClampNeg = p1.toNatClampNeg + 0 := by show cn.toInt.toNat = p1.toInt.toNat + 0; omega
    have bK : 0 ≤ (cn - p1).toInt ∧ (cn - p1).toInt < nb.toInt := by omega
    have bC : 0 ≤ cn.toInt ∧ cn.toInt < nb.toInt := by omega
    have K53 : own_R p e below (T2.setTop (mkF m 105 #[rv ob, iv p1, iv (cn - p1), iv (0 : Int32)] [(.ref ob)])) S0 := by
      intro t hk
      refine K52 t ?_
      show Steps p.tables e below (T2.setTop (mkF m 104 #[rv ob, iv p1, iv (cn - p1), iv (0 : Int32)] [])) _
      refine XS.aloadN X2.here hx rfl (hb hby d26_104) rfl rfl ?_
      exact hk
    obtain ⟨T54, X54, e54, st54⟩ := getF X2 hx hZ hown (host := "") (Or.inl (hw _ (List.mem_of_getElem? (i := 21) rfl))) Via.refl e2 (own_pF_bounds hG) (g := (mkF m 105 #[rv ob, iv p1, iv (cn - p1), iv (0 : Int32)] [(.ref ob)])) rfl rfl (hb hby d26_105)
    have K54 : own_R p e below (T54.setTop (mkF m 108 #[rv ob, iv p1, iv (cn - p1), iv (0 : Int32)] [(.ref vb)])) S0 := fun t hk => K53 t (st54 _ hk)
    have K55 : own_R p e below (T54.setTop (mkF m 110 #[rv ob, iv p1, iv (cn - p1), iv (0 : Int32)] [(.ref ob), (.int (cn - p1)), (.ref vb)])) S0 := by
      intro t hk
      refine K54 t ?_
      show Steps p.tables e below (T54.setTop (mkF m 108 #[rv ob, iv p1, iv (cn - p1), iv (0 : Int32)] [(.ref vb)])) _
      refine XS.iloadN X54.here hx rfl (hb hby d26_108) rfl ?_
      refine XS.aloadN X54.here hx rfl (hb hby d26_109) rfl rfl ?_
      exact hk
    obtain ⟨T56, X56, e56, st56⟩ := getF X54 hx hZ hown (host := "") (Or.inl (hw _ (List.mem_of_getElem? (i := 21) rfl))) Via.refl e54 (own_pF_bounds hG) (g := (mkF m 110 #[rv ob, iv p1, iv (cn - p1), iv (0 : Int32)] [(.ref ob), (.int (cn - p1)), (.ref vb)])) rfl rfl (hb hby d26_110)
    have K56 : own_R p e below (T56.setTop (mkF m 113 #[rv ob, iv p1, iv (cn - p1), iv (0 : Int32)] [(.ref vb), (.int (cn - p1)), (.ref vb)])) S0 := fun t hk => K55 t (st56 _ hk)
    have K57 : own_R p e below (T56.setTop (mkF m 114 #[rv ob, iv p1, iv (cn - p1), iv (0 : Int32)] [(.ref ob), (.ref vb), (.int (cn - p1)), (.ref vb)])) S0 := by
      intro t hk
      refine K56 t ?_
      show Steps p.tables e below (T56.setTop (mkF m 113 #[rv ob, iv p1, iv (cn - p1), iv (0 : Int32)] [(.ref vb), (.int (cn - p1)), (.ref vb)])) _
      refine XS.aloadN X56.here hx rfl (hb hby d26_113) rfl rfl ?_
      exact hk
    obtain ⟨T58, X58, e58, st58⟩ := getF X56 hx hZ hown (host := "") (Or.inl (hw _ (List.mem_of_getElem? (i := 73) rfl))) Via.refl e56 (own_pF_count hG) (g := (mkF m 114 #[rv ob, iv p1, iv (cn - p1), iv (0 : Int32)] [(.ref ob), (.ref vb), (.int (cn - p1)), (.ref vb)])) rfl rfl (hb hby d26_114)
    have K58 : own_R p e below (T58.setTop (mkF m 117 #[rv ob, iv p1, iv (cn - p1), iv (0 : Int32)] [(.int cn), (.ref vb), (.int (cn - p1)), (.ref vb)])) S0 := fun t hk => K57 t (st58 _ hk)
    obtain ⟨bz, hv_bz, st59⟩ := own_ldI X58 hx hZ e58 (own_pV_vb hG) (j := cn) (own_b _ _ bC) (g := (mkF m 117 #[rv ob, iv p1, iv (cn - p1), iv (0 : Int32)] [(.int cn), (.ref vb), (.int (cn - p1)), (.ref vb)])) rfl rfl (hb hby d26_117)
    have K59 : own_R p e below (T58.setTop (mkF m 118 #[rv ob, iv p1, iv (cn - p1), iv (0 : Int32)] [(.int bz), (.int (cn - p1)), (.ref vb)])) S0 := fun t hk => K58 t (st59 _ hk)
    obtain ⟨T60, h60, X60, e60, W60, V60, st60⟩ := own_stI X58 hx hZ e58 (own_pV_vb hG) (j := (cn - p1)) _ rfl (own_b _ _ bK) (by rw [(own_pL_vb hG)]; exact own_cl _ _ bK) (g := (mkF m 118 #[rv ob, iv p1, iv (cn - p1), iv (0 : Int32)] [(.int bz), (.int (cn - p1)), (.ref vb)])) rfl rfl (hb hby d26_118)
    have K60 : own_R p e below (T60.setTop (mkF m 119 #[rv ob, iv p1, iv (cn - p1), iv (0 : Int32)] [])) S0 := fun t hk => K59 t (st60 _ hk)
    have Kp61 := (Keep.refl h0 [ob, vb, vl, vh, vf, vg, vs]).wr W60 (Or.inl (List.mem_of_getElem? (i := 1) rfl))
    have N60 := Fr.snoc X60 N0 (by omega : n0 ≤ vb)
    have G60 := own_w_vb hG hO W60 V60 (List.length_set.trans (own_pL_vb hG))
    have K62 : own_R p e below (T60.setTop (mkF m 121 #[rv ob, iv p1, iv (cn - p1), iv (0 : Int32)] [(.int (cn - p1)), (.ref ob)])) S0 := by
      intro t hk
      refine K60 t ?_
      show Steps p.tables e below (T60.setTop (mkF m 119 #[rv ob, iv p1, iv (cn - p1), iv (0 : Int32)] [])) _
      refine XS.aloadN X60.here hx rfl (hb hby d26_119) rfl rfl ?_
      refine XS.iloadN X60.here hx rfl (hb hby d26_120) rfl ?_
      exact hk
    obtain ⟨T63, h63, X63, e63, W63, st63⟩ := putF X60 hx hZ hown (host := "") (Or.inl (hw _ (List.mem_of_getElem? (i := 73) rfl))) Via.refl e60 (own_pF_count G60) (own_pE G60) (Or.inl (hw _ (List.mem_of_getElem? (i := 74) rfl))) (hw _ (List.mem_of_getElem? (i := 3) rfl)) (ty := .int) (by decide) rfl rfl (g := (mkF m 121 #[rv ob, iv p1, iv (cn - p1), iv (0 : Int32)] [(.int (cn - p1)), (.ref ob)])) rfl rfl (hb hby d26_121)
    have K63 : own_R p e below (T63.setTop (mkF m 124 #[rv ob, iv p1, iv (cn - p1), iv (0 : Int32)] [])) S0 := fun t hk => K62 t (st63 _ hk)
    have Kp64 := Kp61.wr W63 (Or.inl (List.mem_of_getElem? (i := 0) rfl))
    have N63 := Fr.snoc X63 N60 (by omega : n0 ≤ ob)
    have G63 := own_w_count hw G60 hO W63
    have R0 : (VB.set (cn - p1).toNatClampNeg (.int bz)).getD (0 : Int32).toNatClampNeg (.int (0 : Int32)) = VB.getD p1.toNatClampNeg (.int (0 : Int32)) := by rw [g1, c0, own_ge _ _ _ _ (by (try simp only [List.length_set]); rw [own_pL_vb hG]; show _ < nb.toInt.toNat; omega), ← hv_bz, g2] <;> rfl
    have R1 : (VB.set (cn - p1).toNatClampNeg (.int bz)).getD (cn - p1).toNatClampNeg (.int (0 : Int32)) = VB.getD cn.toNatClampNeg (.int (0 : Int32)) := by
      rw [own_ge _ _ _ _ (by (try simp only [List.length_set]); rw [own_pL_vb hG]; show _ < nb.toInt.toNat; omega), ← hv_bz]
    have KP : Keep h0 T63.heap [ob, vb, vl, vh, vf, vg, vs] := by rw [e63]; exact Kp64
    have GG : ∃ WB WL WH WF WG WT, own_G Z T63.heap ob va vb vl vh vf vg vs kv kb kl kh kf kg ks fl nn nb VV (.ref va) (cn - p1) WB WL WH WF WG WT ∧ WB.getD (0 : Int32).toNatClampNeg (.int (0 : Int32)) = VB.getD p1.toNatClampNeg (.int (0 : Int32)) ∧ WB.getD (cn - p1).toNatClampNeg (.int (0 : Int32)) = VB.getD cn.toNatClampNeg (.int (0 : Int32)) ∧ (0 < (cn - p1).toInt → WL.getD ((cn - p1) - (1 : Int32)).toNatClampNeg (.long (0 : Int64)) = VL.getD (cn - (1 : Int32)).toNatClampNeg (.long (0 : Int64)) ∧ WH.getD ((cn - p1) - (1 : Int32)).toNatClampNeg (.long (0 : Int64)) = VH.getD (cn - (1 : Int32)).toNatClampNeg (.long (0 : Int64)) ∧ WF.getD ((cn - p1) - (1 : Int32)).toNatClampNeg (.long (0 : Int64)) = VF.getD (cn - (1 : Int32)).toNatClampNeg (.long (0 : Int64)) ∧ WG.getD ((cn - p1) - (1 : Int32)).toNatClampNeg (.long (0 : Int64)) = VG.getD (cn - (1 : Int32)).toNatClampNeg (.long (0 : Int64)) ∧ WT.getD ((cn - p1) - (1 : Int32)).toNatClampNeg (.int (0 : Int32)) = VS.getD (cn - (1 : Int32)).toNatClampNeg (.int (0 : Int32))) := by
      rw [e63]
      exact ⟨_, _, _, _, _, _, G63, R0, R1, (fun q => by omega)⟩
    obtain ⟨fs, hr, hrun, hended, hW, hsame⟩ := X63.leave (v := none) (fun _ => rfl) Bd.notSynchronized
    exact ⟨_, _, K63 _ (X63.returnOut hx Bd.returns (hb hby d26_124) hr), hrun, hended, _, _, rfl, ⟨rfl, N63, KP, GG⟩, ⟨_, rfl⟩, hW, hsame.mono (by decide) (by decide)⟩
theorem own_exlt {Z : State} {h : Heap} {a : Addr} {C : String} (E : Exa Z h a C) : a < h.size := by
  obtain ⟨cell, k, h1, -⟩ := E; exact (Array.getElem?_eq_some_iff.mp h1).1
def own_D (Z : State) (h : Heap) (ob : Addr) : Prop := Exa Z h ob "com/example/bitrun/bitrun/orc/intv2/Segments" ∧ Fld Z h ob "com/example/bitrun/bitrun/orc/intv2/Segments" "signed" "Z" (.int (0 : Int32)) ∧ Fld Z h ob "com/example/bitrun/bitrun/orc/intv2/Segments" "flip" "J" (.long (0 : Int64)) ∧ Fld Z h ob "com/example/bitrun/bitrun/orc/intv2/Segments" "bounded" "Z" (.int (0 : Int32)) ∧ Fld Z h ob "com/example/bitrun/bitrun/orc/intv2/Segments" "values" "[J" .null ∧ Fld Z h ob "com/example/bitrun/bitrun/orc/intv2/Segments" "count" "I" (.int (0 : Int32)) ∧ Fld Z h ob "com/example/bitrun/bitrun/orc/intv2/Segments" "bounds" "[I" .null ∧ Fld Z h ob "com/example/bitrun/bitrun/orc/intv2/Segments" "lowest" "[J" .null ∧ Fld Z h ob "com/example/bitrun/bitrun/orc/intv2/Segments" "highest" "[J" .null ∧ Fld Z h ob "com/example/bitrun/bitrun/orc/intv2/Segments" "firstStep" "[J" .null ∧ Fld Z h ob "com/example/bitrun/bitrun/orc/intv2/Segments" "magnitudes" "[J" .null ∧ Fld Z h ob "com/example/bitrun/bitrun/orc/intv2/Segments" "steps" "[B" .null
theorem d2_0 : decode prog_74_method_3_code 0 = .ok (.aload_n 0, 1) := by decide +kernel
theorem d2_1 : decode prog_74_method_3_code 1 = .ok (.invokespecial 7, 3) := by decide +kernel
theorem d2_4 : decode prog_74_method_3_code 4 = .ok (.aload_n 0, 1) := by decide +kernel
theorem d2_5 : decode prog_74_method_3_code 5 = .ok (.iload_n 1, 1) := by decide +kernel
theorem d2_6 : decode prog_74_method_3_code 6 = .ok (.putfield 12, 3) := by decide +kernel
theorem d2_9 : decode prog_74_method_3_code 9 = .ok (.aload_n 0, 1) := by decide +kernel
theorem d2_10 : decode prog_74_method_3_code 10 = .ok (.iload_n 1, 1) := by decide +kernel
theorem d2_11 : decode prog_74_method_3_code 11 = .ok (.ifCond .eq 7, 3) := by decide +kernel
theorem d2_14 : decode prog_74_method_3_code 14 = .ok (.lconst 0, 1) := by decide +kernel
theorem d2_15 : decode prog_74_method_3_code 15 = .ok (.goto 6, 3) := by decide +kernel
theorem d2_18 : decode prog_74_method_3_code 18 = .ok (.ldc2_w 18, 3) := by decide +kernel
theorem d2_21 : decode prog_74_method_3_code 21 = .ok (.putfield 20, 3) := by decide +kernel
theorem d2_24 : decode prog_74_method_3_code 24 = .ok (.aload_n 0, 1) := by decide +kernel
theorem d2_25 : decode prog_74_method_3_code 25 = .ok (.iload_n 3, 1) := by decide +kernel
theorem d2_26 : decode prog_74_method_3_code 26 = .ok (.putfield 24, 3) := by decide +kernel
theorem d2_29 : decode prog_74_method_3_code 29 = .ok (.aload_n 0, 1) := by decide +kernel
theorem d2_30 : decode prog_74_method_3_code 30 = .ok (.iload_n 2, 1) := by decide +kernel
theorem d2_31 : decode prog_74_method_3_code 31 = .ok (.iconst 1, 1) := by decide +kernel
theorem d2_32 : decode prog_74_method_3_code 32 = .ok (.iadd, 1) := by decide +kernel
theorem d2_33 : decode prog_74_method_3_code 33 = .ok (.newarray .int, 2) := by decide +kernel
theorem d2_35 : decode prog_74_method_3_code 35 = .ok (.putfield 27, 3) := by decide +kernel
theorem d2_38 : decode prog_74_method_3_code 38 = .ok (.aload_n 0, 1) := by decide +kernel
theorem d2_39 : decode prog_74_method_3_code 39 = .ok (.iload_n 2, 1) := by decide +kernel
theorem d2_40 : decode prog_74_method_3_code 40 = .ok (.newarray .long, 2) := by decide +kernel
theorem d2_42 : decode prog_74_method_3_code 42 = .ok (.putfield 31, 3) := by decide +kernel
theorem d2_45 : decode prog_74_method_3_code 45 = .ok (.aload_n 0, 1) := by decide +kernel
theorem d2_46 : decode prog_74_method_3_code 46 = .ok (.iload_n 2, 1) := by decide +kernel
theorem d2_47 : decode prog_74_method_3_code 47 = .ok (.newarray .long, 2) := by decide +kernel
theorem d2_49 : decode prog_74_method_3_code 49 = .ok (.putfield 35, 3) := by decide +kernel
theorem d2_52 : decode prog_74_method_3_code 52 = .ok (.aload_n 0, 1) := by decide +kernel
theorem d2_53 : decode prog_74_method_3_code 53 = .ok (.iload_n 2, 1) := by decide +kernel
theorem d2_54 : decode prog_74_method_3_code 54 = .ok (.newarray .long, 2) := by decide +kernel
theorem d2_56 : decode prog_74_method_3_code 56 = .ok (.putfield 38, 3) := by decide +kernel
theorem d2_59 : decode prog_74_method_3_code 59 = .ok (.aload_n 0, 1) := by decide +kernel
theorem d2_60 : decode prog_74_method_3_code 60 = .ok (.iload_n 2, 1) := by decide +kernel
theorem d2_61 : decode prog_74_method_3_code 61 = .ok (.newarray .long, 2) := by decide +kernel
theorem d2_63 : decode prog_74_method_3_code 63 = .ok (.putfield 41, 3) := by decide +kernel
theorem d2_66 : decode prog_74_method_3_code 66 = .ok (.aload_n 0, 1) := by decide +kernel
theorem d2_67 : decode prog_74_method_3_code 67 = .ok (.iload_n 2, 1) := by decide +kernel
theorem d2_68 : decode prog_74_method_3_code 68 = .ok (.newarray .byte, 2) := by decide +kernel
theorem d2_70 : decode prog_74_method_3_code 70 = .ok (.putfield 44, 3) := by decide +kernel
theorem d2_73 : decode prog_74_method_3_code 73 = .ok (.return_, 1) := by decide +kernel
def own_n1 (ob : Addr) (p1 : Int32) : Int64 := (if p1 = (0 : Int32) then (-9223372036854775808 : Int64) else (0 : Int64))
set_option maxRecDepth 65536 in
set_option maxHeartbeats 4000000 in
theorem own_n1_s {p : Program} {l : Launch} {e : Env} {R : Room} {s : State} {m : MethodId} {args : Array Value} {below : List Frame} {meth : Method} {c : Code} {T : State} {locs : List Loc} {cells slots : Nat} {Z : State} {a0 : Array Value} (X : Stand p l e R s m args below meth c T locs cells slots) (hx : p.tables.exec = Jvm.exec) (hby : c.code = prog_74_method_3_code) (hown : s.vm.findClass "com/example/bitrun/bitrun/orc/intv2/Segments" = some m.cls) (hZ : Z.Warmed39 s.vm) (hw : ∀ d ∈ tables_1, d.before a0 Z = true) (ob : Addr) (p1 : Int32) (v : Int64) (hv : own_n1 ob p1 = v) {target : State} (hk : Steps p.tables e below (T.setTop (mkF m 21 #[rv ob, iv p1, iv (0 : Int32), iv (0 : Int32)] [(.long v), (.ref ob)])) target) :
    Steps p.tables e below (T.setTop (mkF m 9 #[rv ob, iv p1, iv (0 : Int32), iv (0 : Int32)] [])) target := by
  unfold own_n1 at hv
  show Steps p.tables e below (T.setTop (mkF m 9 #[rv ob, iv p1, iv (0 : Int32), iv (0 : Int32)] [])) _
  refine XS.aloadN X.here hx rfl (hb hby d2_9) rfl rfl ?_
  show Steps p.tables e below (T.setTop (mkF m 10 #[rv ob, iv p1, iv (0 : Int32), iv (0 : Int32)] [(.ref ob)])) _
  refine XS.iloadN X.here hx rfl (hb hby d2_10) rfl ?_
  show Steps p.tables e below (T.setTop (mkF m 11 #[rv ob, iv p1, iv (0 : Int32), iv (0 : Int32)] [(.int p1), (.ref ob)])) _
  by_cases hc11 : p1 = (0 : Int32)
  · rw [if_pos hc11] at hv
    refine XS.ifYes X.here hx rfl (pc0 := 11) (pc' := 18) rfl (hb hby d2_11) rfl ((if0 _ _).trans (teq hc11).1) (by decide) (by decide) ?_
    show Steps p.tables e below (T.setTop (mkF m 18 #[rv ob, iv p1, iv (0 : Int32), iv (0 : Int32)] [(.ref ob)])) _
    refine X.ldc2Long hx hown (mvT hZ (hw _ (List.mem_of_getElem? (i := 16) rfl))) (g := (mkF m 18 #[rv ob, iv p1, iv (0 : Int32), iv (0 : Int32)] [(.ref ob)])) rfl (hb hby d2_18) _ ?_
    show Steps p.tables e below (T.setTop (mkF m 21 #[rv ob, iv p1, iv (0 : Int32), iv (0 : Int32)] [(.long (-9223372036854775808 : Int64)), (.ref ob)])) _
    subst hv
    exact hk
  · rw [if_neg hc11] at hv
    refine XS.ifNo X.here hx rfl (hb hby d2_11) rfl ((if0 _ _).trans (feq hc11).1) ?_
    show Steps p.tables e below (T.setTop (mkF m 14 #[rv ob, iv p1, iv (0 : Int32), iv (0 : Int32)] [(.ref ob)])) _
    refine XS.lconst X.here hx rfl (hb hby d2_14) ?_
    show Steps p.tables e below (T.setTop (mkF m 15 #[rv ob, iv p1, iv (0 : Int32), iv (0 : Int32)] [(.long (0 : Int64)), (.ref ob)])) _
    refine XS.goto X.here hx rfl (pc0 := 15) (pc' := 21) rfl (hb hby d2_15) (by decide) (by decide) ?_
    show Steps p.tables e below (T.setTop (mkF m 21 #[rv ob, iv p1, iv (0 : Int32), iv (0 : Int32)] [(.long (0 : Int64)), (.ref ob)])) _
    subst hv
    exact hk
theorem ef_2 (m : MethodId) (x0 : Addr) (x1 : Int32) (x2 : Int32) (x3 : Int32) : entryFrame m #[(.ref x0), (.int x1), (.int x2), (.int x3)] 4 = mkF m 0 #[rv x0, iv x1, iv x2, iv x3] [] := by first | (simp [entryFrame, mkF, argsToLocals, Value.category, maxLocals]; done) | rfl
theorem pn_2 : plainName "com/example/bitrun/bitrun/orc/intv2/Segments" = true := by first | (simp [plainName, overriddenIn]; done) | decide +kernel
def Q_rm2 (Z : State) (ob : Addr) (p1 : Int32) (p2 : Int32) (p3 : Int32) (va : Addr) (kv : ClassId) (VV : List Value) (h0 : Heap) (n0 : Nat) (v : Option Value) (h : Heap) (L : List Loc) : Prop := v = none ∧ Fr n0 L ∧ Keep h0 h [ob] ∧ ∃ vb vl vh vf vg vs kvb kvl kvh kvf kvg kvs fl, own_O n0 ob va vb vl vh vf vg vs (0 : Int32) (1 : Int32) ∧ h0.size ≤ vb ∧ own_G Z h ob va vb vl vh vf vg vs kv kvb kvl kvh kvf kvg kvs fl (0 : Int32) (1 : Int32) VV .null (0 : Int32) [(.int (0 : Int32))] [] [] [] [] []
set_option maxRecDepth 65536 in
set_option maxHeartbeats 40000000 in
theorem rm2 (l : Launch) (Z : State) (a0 : Array Value) (hw : ∀ d ∈ tables_1, d.before a0 Z = true) (ws : List Jvm.Cond) (ob : Addr) (p1 : Int32) (p2 : Int32) (p3 : Int32) (va : Addr) (kv : ClassId) (VV : List Value) (h0 : Heap) (n0 : Nat) (Z0 : n0 ≤ h0.size) (hp2 : p2 = (0 : Int32)) (hp3 : p3 = (0 : Int32)) (hD : own_D Z h0 ob) (hva : Arv Z h0 va kv .long (6 : Int32) VV (.long (0 : Int64))) (hlv : VV.length = 6) (hn0 : n0 ≤ va) (hvo : @LT.lt Nat _ va ob) :
    MetFree l (⟨"com/example/bitrun/bitrun/orc/intv2/Segments", "<init>", "(ZIZ)V"⟩ : MethodName) (head1 (Jvm.Cond.code (⟨"com/example/bitrun/bitrun/orc/intv2/Segments", "<init>", "(ZIZ)V"⟩ : MethodName) prog_74_method_3_code 4 none :: ws) ({ frames := 1, cells := 6, slots := 1, locals := 12 } : Room)) (fun a U => a = #[(.ref ob), (.int p1), (.int p2), (.int p3)] ∧ Z.Warmed39 U.vm ∧ U.heap = h0) (fun _ _ _ _ _ => True) (fun _ U o U' => ∃ v L, o = .returned v ∧ Q_rm2 Z ob p1 p2 p3 va kv VV h0 n0 v U'.heap L ∧ FrameEnd U o U' L ({ frames := 1, cells := 6, slots := 1, locals := 12 } : Room).cells ({ frames := 1, cells := 6, slots := 1, locals := 12 } : Room).slots) := by
  refine MetFree.of_bodySF (plainFor_of_name pn_2) hisR ?_
  intro p e s m args below meth c s₁ Bd hml0 hP hK
  obtain ⟨rfl, hZ, hh⟩ := hP
  have hx := Bd.exec
  have hby := Bd.bytes
  have hml : c.maxLocals = 4 := hml0
  have hown : s.vm.findClass "com/example/bitrun/bitrun/orc/intv2/Segments" = some m.cls := findClass_of_methodNamed Bd.named
  have hnm := (name_of_methodNamed Bd.named Bd.method).1
  have X0 : Stand p l e ({ frames := 1, cells := 6, slots := 1, locals := 12 } : Room) s m #[(.ref ob), (.int p1), (.int p2), (.int p3)] below meth c s₁ [] 0 0 := Stand.of_body Bd
  have e0 : s₁.heap = h0 := by rw [← hh, Bd.state]; rfl
  have N0 := Fr.nil n0
  have pre0 : ∀ t, Steps p.tables e below (s₁.setTop (mkF m 0 #[rv ob, iv p1, iv p2, iv p3] [])) t → Steps p.tables e below (s₁.setTop (entryFrame m #[(.ref ob), (.int p1), (.int p2), (.int p3)] 4)) t := fun t k => castTop (ef_2 m ob p1 p2 p3) k
  subst hp2 hp3
  obtain ⟨S0, hS0⟩ : ∃ z, z = (s₁.setTop (entryFrame m #[(.ref ob), (.int p1), (.int (0 : Int32)), (.int (0 : Int32))] 4)) := ⟨_, rfl⟩
  rw [← hS0] at pre0 ⊢
  have K0 : own_R p e below (s₁.setTop (mkF m 0 #[rv ob, iv p1, iv (0 : Int32), iv (0 : Int32)] [])) S0 := pre0
  obtain ⟨E_0, F_signed_0, F_flip_0, F_bounded_0, F_values_0, F_count_0, F_bounds_0, F_lowest_0, F_highest_0, F_firstStep_0, F_magnitudes_0, F_steps_0⟩ := id hD
  have K1 : own_R p e below (s₁.setTop (mkF m 1 #[rv ob, iv p1, iv (0 : Int32), iv (0 : Int32)] [(.ref ob)])) S0 := by
    intro t hk
    refine K0 t ?_
    show Steps p.tables e below (s₁.setTop (mkF m 0 #[rv ob, iv p1, iv (0 : Int32), iv (0 : Int32)] [])) _
    refine XS.aloadN X0.here hx rfl (hb hby d2_0) rfl rfl ?_
    exact hk
  obtain ⟨T2, X2, e2, st2⟩ := initO X0 hx hZ hown (hw _ (List.mem_of_getElem? (i := 11) rfl)) (hw _ (List.mem_of_getElem? (i := 12) rfl)) (hw _ (List.mem_of_getElem? (i := 13) rfl)) e0 (g := (mkF m 1 #[rv ob, iv p1, iv (0 : Int32), iv (0 : Int32)] [(.ref ob)])) rfl (by rw [hml]; rfl) rfl (hb hby d2_1) (by decide) (W := 0) (by show 2 * 0 + _ ≤ _; exact Nat.le_of_eq rfl) (by decide)
  have K2 : own_R p e below (T2.setTop (mkF m 4 #[rv ob, iv p1, iv (0 : Int32), iv (0 : Int32)] [])) S0 := fun t hk => K1 t (st2 _ hk)
  have K3 : own_R p e below (T2.setTop (mkF m 6 #[rv ob, iv p1, iv (0 : Int32), iv (0 : Int32)] [(.int p1), (.ref ob)])) S0 := by
    intro t hk
    refine K2 t ?_
    show Steps p.tables e below (T2.setTop (mkF m 4 #[rv ob, iv p1, iv (0 : Int32), iv (0 : Int32)] [])) _
    refine XS.aloadN X2.here hx rfl (hb hby d2_4) rfl rfl ?_
    refine XS.iloadN X2.here hx rfl (hb hby d2_5) rfl ?_
    exact hk
  obtain ⟨T4, h4, X4, e4, W4, st4⟩ := putFN X2 hx hZ hown (hw _ (List.mem_of_getElem? (i := 14) rfl)) Via.refl e2 F_signed_0 E_0 (Or.inr ⟨(hw _ (List.mem_of_getElem? (i := 15) rfl)), rfl, hnm⟩) (hw _ (List.mem_of_getElem? (i := 3) rfl)) (ty := .boolean) (v' := (.int (nar .boolean p1))) (by decide) rfl (fits_nar_bool _) (g := (mkF m 6 #[rv ob, iv p1, iv (0 : Int32), iv (0 : Int32)] [(.int p1), (.ref ob)])) rfl rfl (hb hby d2_6)
  have K4 : own_R p e below (T4.setTop (mkF m 9 #[rv ob, iv p1, iv (0 : Int32), iv (0 : Int32)] [])) S0 := fun t hk => K3 t (st4 _ hk)
  have E_5 := E_0.wr W4
  have F_signed_6 := F_signed_0.same W4
  have F_flip_7 := F_flip_0.other W4 (Or.inr (slot_ne (Or.inr (hw _ (List.mem_of_getElem? (i := 18) rfl))) (Or.inr (hw _ (List.mem_of_getElem? (i := 15) rfl))) (by decide) (t := .long) (t' := .boolean) (by decide) (by decide)))
  have F_bounded_8 := F_bounded_0.other W4 (Or.inr (slot_ne (Or.inr (hw _ (List.mem_of_getElem? (i := 20) rfl))) (Or.inr (hw _ (List.mem_of_getElem? (i := 15) rfl))) (by decide) (t := .boolean) (t' := .boolean) (by decide) (by decide)))
  have F_values_9 := F_values_0.other W4 (Or.inr (slot_ne (Or.inl (hw _ (List.mem_of_getElem? (i := 67) rfl))) (Or.inr (hw _ (List.mem_of_getElem? (i := 15) rfl))) (by decide) (t := (.array .long)) (t' := .boolean) (by decide) (by decide)))
  have F_count_10 := F_count_0.other W4 (Or.inr (slot_ne (Or.inl (hw _ (List.mem_of_getElem? (i := 74) rfl))) (Or.inr (hw _ (List.mem_of_getElem? (i := 15) rfl))) (by decide) (t := .int) (t' := .boolean) (by decide) (by decide)))
  have F_bounds_11 := F_bounds_0.other W4 (Or.inr (slot_ne (Or.inl (hw _ (List.mem_of_getElem? (i := 22) rfl))) (Or.inr (hw _ (List.mem_of_getElem? (i := 15) rfl))) (by decide) (t := (.array .int)) (t' := .boolean) (by decide) (by decide)))
  have F_lowest_12 := F_lowest_0.other W4 (Or.inr (slot_ne (Or.inl (hw _ (List.mem_of_getElem? (i := 24) rfl))) (Or.inr (hw _ (List.mem_of_getElem? (i := 15) rfl))) (by decide) (t := (.array .long)) (t' := .boolean) (by decide) (by decide)))
  have F_highest_13 := F_highest_0.other W4 (Or.inr (slot_ne (Or.inl (hw _ (List.mem_of_getElem? (i := 26) rfl))) (Or.inr (hw _ (List.mem_of_getElem? (i := 15) rfl))) (by decide) (t := (.array .long)) (t' := .boolean) (by decide) (by decide)))
  have F_firstStep_14 := F_firstStep_0.other W4 (Or.inr (slot_ne (Or.inl (hw _ (List.mem_of_getElem? (i := 28) rfl))) (Or.inr (hw _ (List.mem_of_getElem? (i := 15) rfl))) (by decide) (t := (.array .long)) (t' := .boolean) (by decide) (by decide)))
  have F_magnitudes_15 := F_magnitudes_0.other W4 (Or.inr (slot_ne (Or.inl (hw _ (List.mem_of_getElem? (i := 30) rfl))) (Or.inr (hw _ (List.mem_of_getElem? (i := 15) rfl))) (by decide) (t := (.array .long)) (t' := .boolean) (by decide) (by decide)))
  have F_steps_16 := F_steps_0.other W4 (Or.inr (slot_ne (Or.inl (hw _ (List.mem_of_getElem? (i := 33) rfl))) (Or.inr (hw _ (List.mem_of_getElem? (i := 15) rfl))) (by decide) (t := (.array .byte)) (t' := .boolean) (by decide) (by decide)))
  have V_va_17 := hva.other W4 (own_neN (by omega))
  have Kp18 := (Keep.refl h0 [ob]).wr W4 (Or.inl (List.mem_of_getElem? (i := 0) rfl))
  have N4 := Fr.snoc X4 N0 (by omega : n0 ≤ ob)
  have K19 : own_R p e below (T4.setTop (mkF m 21 #[rv ob, iv p1, iv (0 : Int32), iv (0 : Int32)] [(.long (own_n1 ob p1)), (.ref ob)])) S0 := fun t hk => K4 t (own_n1_s X4 hx hby hown hZ hw ob p1 _ rfl hk)
  obtain ⟨fl, hfl⟩ : ∃ z_, z_ = (own_n1 ob p1) := ⟨_, rfl⟩
  have K20 : own_R p e below (T4.setTop (mkF m 21 #[rv ob, iv p1, iv (0 : Int32), iv (0 : Int32)] [(.long fl), (.ref ob)])) S0 := by rw [hfl]; exact K19
  obtain ⟨T21, h21, X21, e21, W21, st21⟩ := putF X4 hx hZ hown (host := "") (Or.inl (hw _ (List.mem_of_getElem? (i := 17) rfl))) Via.refl e4 F_flip_7 E_5 (Or.inr ⟨(hw _ (List.mem_of_getElem? (i := 18) rfl)), rfl, hnm⟩) (hw _ (List.mem_of_getElem? (i := 3) rfl)) (ty := .long) (by decide) rfl rfl (g := (mkF m 21 #[rv ob, iv p1, iv (0 : Int32), iv (0 : Int32)] [(.long fl), (.ref ob)])) rfl rfl (hb hby d2_21)
  have K21 : own_R p e below (T21.setTop (mkF m 24 #[rv ob, iv p1, iv (0 : Int32), iv (0 : Int32)] [])) S0 := fun t hk => K20 t (st21 _ hk)
  have E_22 := E_5.wr W21
  have F_signed_23 := F_signed_6.other W21 (Or.inr (slot_ne (Or.inr (hw _ (List.mem_of_getElem? (i := 15) rfl))) (Or.inr (hw _ (List.mem_of_getElem? (i := 18) rfl))) (by decide) (t := .boolean) (t' := .long) (by decide) (by decide)))
  have F_flip_24 := F_flip_7.same W21
  have F_bounded_25 := F_bounded_8.other W21 (Or.inr (slot_ne (Or.inr (hw _ (List.mem_of_getElem? (i := 20) rfl))) (Or.inr (hw _ (List.mem_of_getElem? (i := 18) rfl))) (by decide) (t := .boolean) (t' := .long) (by decide) (by decide)))
  have F_values_26 := F_values_9.other W21 (Or.inr (slot_ne (Or.inl (hw _ (List.mem_of_getElem? (i := 67) rfl))) (Or.inr (hw _ (List.mem_of_getElem? (i := 18) rfl))) (by decide) (t := (.array .long)) (t' := .long) (by decide) (by decide)))
  have F_count_27 := F_count_10.other W21 (Or.inr (slot_ne (Or.inl (hw _ (List.mem_of_getElem? (i := 74) rfl))) (Or.inr (hw _ (List.mem_of_getElem? (i := 18) rfl))) (by decide) (t := .int) (t' := .long) (by decide) (by decide)))
  have F_bounds_28 := F_bounds_11.other W21 (Or.inr (slot_ne (Or.inl (hw _ (List.mem_of_getElem? (i := 22) rfl))) (Or.inr (hw _ (List.mem_of_getElem? (i := 18) rfl))) (by decide) (t := (.array .int)) (t' := .long) (by decide) (by decide)))
  have F_lowest_29 := F_lowest_12.other W21 (Or.inr (slot_ne (Or.inl (hw _ (List.mem_of_getElem? (i := 24) rfl))) (Or.inr (hw _ (List.mem_of_getElem? (i := 18) rfl))) (by decide) (t := (.array .long)) (t' := .long) (by decide) (by decide)))
  have F_highest_30 := F_highest_13.other W21 (Or.inr (slot_ne (Or.inl (hw _ (List.mem_of_getElem? (i := 26) rfl))) (Or.inr (hw _ (List.mem_of_getElem? (i := 18) rfl))) (by decide) (t := (.array .long)) (t' := .long) (by decide) (by decide)))
  have F_firstStep_31 := F_firstStep_14.other W21 (Or.inr (slot_ne (Or.inl (hw _ (List.mem_of_getElem? (i := 28) rfl))) (Or.inr (hw _ (List.mem_of_getElem? (i := 18) rfl))) (by decide) (t := (.array .long)) (t' := .long) (by decide) (by decide)))
  have F_magnitudes_32 := F_magnitudes_15.other W21 (Or.inr (slot_ne (Or.inl (hw _ (List.mem_of_getElem? (i := 30) rfl))) (Or.inr (hw _ (List.mem_of_getElem? (i := 18) rfl))) (by decide) (t := (.array .long)) (t' := .long) (by decide) (by decide)))
  have F_steps_33 := F_steps_16.other W21 (Or.inr (slot_ne (Or.inl (hw _ (List.mem_of_getElem? (i := 33) rfl))) (Or.inr (hw _ (List.mem_of_getElem? (i := 18) rfl))) (by decide) (t := (.array .byte)) (t' := .long) (by decide) (by decide)))
  have V_va_34 := V_va_17.other W21 (own_neN (by omega))
  have Kp35 := Kp18.wr W21 (Or.inl (List.mem_of_getElem? (i := 0) rfl))
  have N21 := Fr.snoc X21 N4 (by omega : n0 ≤ ob)
  have K36 : own_R p e below (T21.setTop (mkF m 26 #[rv ob, iv p1, iv (0 : Int32), iv (0 : Int32)] [(.int (0 : Int32)), (.ref ob)])) S0 := by
    intro t hk
    refine K21 t ?_
    show Steps p.tables e below (T21.setTop (mkF m 24 #[rv ob, iv p1, iv (0 : Int32), iv (0 : Int32)] [])) _
    refine XS.aloadN X21.here hx rfl (hb hby d2_24) rfl rfl ?_
    refine XS.iloadN X21.here hx rfl (hb hby d2_25) rfl ?_
    exact hk
  obtain ⟨T37, h37, X37, e37, W37, st37⟩ := putFN X21 hx hZ hown (hw _ (List.mem_of_getElem? (i := 19) rfl)) Via.refl e21 F_bounded_25 E_22 (Or.inr ⟨(hw _ (List.mem_of_getElem? (i := 20) rfl)), rfl, hnm⟩) (hw _ (List.mem_of_getElem? (i := 3) rfl)) (ty := .boolean) (v' := (.int (0 : Int32))) (by decide) rfl rfl (g := (mkF m 26 #[rv ob, iv p1, iv (0 : Int32), iv (0 : Int32)] [(.int (0 : Int32)), (.ref ob)])) rfl rfl (hb hby d2_26)
  have K37 : own_R p e below (T37.setTop (mkF m 29 #[rv ob, iv p1, iv (0 : Int32), iv (0 : Int32)] [])) S0 := fun t hk => K36 t (st37 _ hk)
  have E_38 := E_22.wr W37
  have F_signed_39 := F_signed_23.other W37 (Or.inr (slot_ne (Or.inr (hw _ (List.mem_of_getElem? (i := 15) rfl))) (Or.inr (hw _ (List.mem_of_getElem? (i := 20) rfl))) (by decide) (t := .boolean) (t' := .boolean) (by decide) (by decide)))
  have F_flip_40 := F_flip_24.other W37 (Or.inr (slot_ne (Or.inr (hw _ (List.mem_of_getElem? (i := 18) rfl))) (Or.inr (hw _ (List.mem_of_getElem? (i := 20) rfl))) (by decide) (t := .long) (t' := .boolean) (by decide) (by decide)))
  have F_bounded_41 := F_bounded_25.same W37
  have F_values_42 := F_values_26.other W37 (Or.inr (slot_ne (Or.inl (hw _ (List.mem_of_getElem? (i := 67) rfl))) (Or.inr (hw _ (List.mem_of_getElem? (i := 20) rfl))) (by decide) (t := (.array .long)) (t' := .boolean) (by decide) (by decide)))
  have F_count_43 := F_count_27.other W37 (Or.inr (slot_ne (Or.inl (hw _ (List.mem_of_getElem? (i := 74) rfl))) (Or.inr (hw _ (List.mem_of_getElem? (i := 20) rfl))) (by decide) (t := .int) (t' := .boolean) (by decide) (by decide)))
  have F_bounds_44 := F_bounds_28.other W37 (Or.inr (slot_ne (Or.inl (hw _ (List.mem_of_getElem? (i := 22) rfl))) (Or.inr (hw _ (List.mem_of_getElem? (i := 20) rfl))) (by decide) (t := (.array .int)) (t' := .boolean) (by decide) (by decide)))
  have F_lowest_45 := F_lowest_29.other W37 (Or.inr (slot_ne (Or.inl (hw _ (List.mem_of_getElem? (i := 24) rfl))) (Or.inr (hw _ (List.mem_of_getElem? (i := 20) rfl))) (by decide) (t := (.array .long)) (t' := .boolean) (by decide) (by decide)))
  have F_highest_46 := F_highest_30.other W37 (Or.inr (slot_ne (Or.inl (hw _ (List.mem_of_getElem? (i := 26) rfl))) (Or.inr (hw _ (List.mem_of_getElem? (i := 20) rfl))) (by decide) (t := (.array .long)) (t' := .boolean) (by decide) (by decide)))
  have F_firstStep_47 := F_firstStep_31.other W37 (Or.inr (slot_ne (Or.inl (hw _ (List.mem_of_getElem? (i := 28) rfl))) (Or.inr (hw _ (List.mem_of_getElem? (i := 20) rfl))) (by decide) (t := (.array .long)) (t' := .boolean) (by decide) (by decide)))
  have F_magnitudes_48 := F_magnitudes_32.other W37 (Or.inr (slot_ne (Or.inl (hw _ (List.mem_of_getElem? (i := 30) rfl))) (Or.inr (hw _ (List.mem_of_getElem? (i := 20) rfl))) (by decide) (t := (.array .long)) (t' := .boolean) (by decide) (by decide)))
  have F_steps_49 := F_steps_33.other W37 (Or.inr (slot_ne (Or.inl (hw _ (List.mem_of_getElem? (i := 33) rfl))) (Or.inr (hw _ (List.mem_of_getElem? (i := 20) rfl))) (by decide) (t := (.array .byte)) (t' := .boolean) (by decide) (by decide)))
  have V_va_50 := V_va_34.other W37 (own_neN (by omega))
  have Kp51 := Kp35.wr W37 (Or.inl (List.mem_of_getElem? (i := 0) rfl))
  have N37 := Fr.snoc X37 N21 (by omega : n0 ≤ ob)
  have K52 : own_R p e below (T37.setTop (mkF m 33 #[rv ob, iv p1, iv (0 : Int32), iv (0 : Int32)] [(.int (1 : Int32)), (.ref ob)])) S0 := by
    intro t hk
    refine K37 t ?_
    show Steps p.tables e below (T37.setTop (mkF m 29 #[rv ob, iv p1, iv (0 : Int32), iv (0 : Int32)] [])) _
    refine XS.aloadN X37.here hx rfl (hb hby d2_29) rfl rfl ?_
    refine XS.iloadN X37.here hx rfl (hb hby d2_30) rfl ?_
    refine XS.iconst X37.here hx rfl (hb hby d2_31) ?_
    refine XS.iadd X37.here hx rfl (hb hby d2_32) rfl ?_
    exact hk
  obtain ⟨T53, h53, kvb, X53, e53, E53, A53, st53⟩ := newP X37 hx hZ (hw _ (List.mem_of_getElem? (i := 1) rfl)) e37 (g := (mkF m 33 #[rv ob, iv p1, iv (0 : Int32), iv (0 : Int32)] [(.int (1 : Int32)), (.ref ob)])) rfl (hb hby d2_33) rfl (by decide) (cap := 1) (by decide) (by decide) (by decide) (by decide)
  obtain ⟨vb, g53⟩ : ∃ z, z = h37.size := ⟨_, rfl⟩
  rw [← g53] at A53 st53
  have V_vb : Arv Z h53 vb kvb .int (1 : Int32) [(.int (0 : Int32))] (.int (0 : Int32)) := (Arv.new A53 (by decide)).pad (pad_rep [] (.int (0 : Int32)) 1)
  have o_vb : @LT.lt Nat _ ob vb := by rw [g53]; exact own_exlt E_38
  have K53 : own_R p e below (T53.setTop (mkF m 35 #[rv ob, iv p1, iv (0 : Int32), iv (0 : Int32)] [(.ref vb), (.ref ob)])) S0 := fun t hk => K52 t (st53 _ hk)
  have E_54 := E_38.ext E53
  have F_signed_55 := F_signed_39.ext E53
  have F_flip_56 := F_flip_40.ext E53
  have F_bounded_57 := F_bounded_41.ext E53
  have F_values_58 := F_values_42.ext E53
  have F_count_59 := F_count_43.ext E53
  have F_bounds_60 := F_bounds_44.ext E53
  have F_lowest_61 := F_lowest_45.ext E53
  have F_highest_62 := F_highest_46.ext E53
  have F_firstStep_63 := F_firstStep_47.ext E53
  have F_magnitudes_64 := F_magnitudes_48.ext E53
  have F_steps_65 := F_steps_49.ext E53
  have V_va_66 := V_va_50.ext E53
  have Kp67 := Kp51.ext E53
  have szb : h0.size ≤ vb := by rw [g53]; exact Kp51.1
  obtain ⟨T68, h68, X68, e68, W68, st68⟩ := putF X53 hx hZ hown (host := "") (Or.inl (hw _ (List.mem_of_getElem? (i := 21) rfl))) Via.refl e53 F_bounds_60 E_54 (Or.inl (hw _ (List.mem_of_getElem? (i := 22) rfl))) (hw _ (List.mem_of_getElem? (i := 3) rfl)) (ty := (.array .int)) (by decide) rfl rfl (g := (mkF m 35 #[rv ob, iv p1, iv (0 : Int32), iv (0 : Int32)] [(.ref vb), (.ref ob)])) rfl rfl (hb hby d2_35)
  have K68 : own_R p e below (T68.setTop (mkF m 38 #[rv ob, iv p1, iv (0 : Int32), iv (0 : Int32)] [])) S0 := fun t hk => K53 t (st68 _ hk)
  have E_69 := E_54.wr W68
  have F_signed_70 := F_signed_55.other W68 (Or.inr (slot_ne (Or.inr (hw _ (List.mem_of_getElem? (i := 15) rfl))) (Or.inl (hw _ (List.mem_of_getElem? (i := 22) rfl))) (by decide) (t := .boolean) (t' := (.array .int)) (by decide) (by decide)))
  have F_flip_71 := F_flip_56.other W68 (Or.inr (slot_ne (Or.inr (hw _ (List.mem_of_getElem? (i := 18) rfl))) (Or.inl (hw _ (List.mem_of_getElem? (i := 22) rfl))) (by decide) (t := .long) (t' := (.array .int)) (by decide) (by decide)))
  have F_bounded_72 := F_bounded_57.other W68 (Or.inr (slot_ne (Or.inr (hw _ (List.mem_of_getElem? (i := 20) rfl))) (Or.inl (hw _ (List.mem_of_getElem? (i := 22) rfl))) (by decide) (t := .boolean) (t' := (.array .int)) (by decide) (by decide)))
  have F_values_73 := F_values_58.other W68 (Or.inr (slot_ne (Or.inl (hw _ (List.mem_of_getElem? (i := 67) rfl))) (Or.inl (hw _ (List.mem_of_getElem? (i := 22) rfl))) (by decide) (t := (.array .long)) (t' := (.array .int)) (by decide) (by decide)))
  have F_count_74 := F_count_59.other W68 (Or.inr (slot_ne (Or.inl (hw _ (List.mem_of_getElem? (i := 74) rfl))) (Or.inl (hw _ (List.mem_of_getElem? (i := 22) rfl))) (by decide) (t := .int) (t' := (.array .int)) (by decide) (by decide)))
  have F_bounds_75 := F_bounds_60.same W68
  have F_lowest_76 := F_lowest_61.other W68 (Or.inr (slot_ne (Or.inl (hw _ (List.mem_of_getElem? (i := 24) rfl))) (Or.inl (hw _ (List.mem_of_getElem? (i := 22) rfl))) (by decide) (t := (.array .long)) (t' := (.array .int)) (by decide) (by decide)))
  have F_highest_77 := F_highest_62.other W68 (Or.inr (slot_ne (Or.inl (hw _ (List.mem_of_getElem? (i := 26) rfl))) (Or.inl (hw _ (List.mem_of_getElem? (i := 22) rfl))) (by decide) (t := (.array .long)) (t' := (.array .int)) (by decide) (by decide)))
  have F_firstStep_78 := F_firstStep_63.other W68 (Or.inr (slot_ne (Or.inl (hw _ (List.mem_of_getElem? (i := 28) rfl))) (Or.inl (hw _ (List.mem_of_getElem? (i := 22) rfl))) (by decide) (t := (.array .long)) (t' := (.array .int)) (by decide) (by decide)))
  have F_magnitudes_79 := F_magnitudes_64.other W68 (Or.inr (slot_ne (Or.inl (hw _ (List.mem_of_getElem? (i := 30) rfl))) (Or.inl (hw _ (List.mem_of_getElem? (i := 22) rfl))) (by decide) (t := (.array .long)) (t' := (.array .int)) (by decide) (by decide)))
  have F_steps_80 := F_steps_65.other W68 (Or.inr (slot_ne (Or.inl (hw _ (List.mem_of_getElem? (i := 33) rfl))) (Or.inl (hw _ (List.mem_of_getElem? (i := 22) rfl))) (by decide) (t := (.array .byte)) (t' := (.array .int)) (by decide) (by decide)))
  have V_va_81 := V_va_66.other W68 (own_neN (by omega))
  have V_vb_82 := V_vb.other W68 (own_neN (by omega))
  have Kp83 := Kp67.wr W68 (Or.inl (List.mem_of_getElem? (i := 0) rfl))
  have N68 := Fr.snoc X68 N37 (by omega : n0 ≤ ob)
  have K84 : own_R p e below (T68.setTop (mkF m 40 #[rv ob, iv p1, iv (0 : Int32), iv (0 : Int32)] [(.int (0 : Int32)), (.ref ob)])) S0 := by
    intro t hk
    refine K68 t ?_
    show Steps p.tables e below (T68.setTop (mkF m 38 #[rv ob, iv p1, iv (0 : Int32), iv (0 : Int32)] [])) _
    refine XS.aloadN X68.here hx rfl (hb hby d2_38) rfl rfl ?_
    refine XS.iloadN X68.here hx rfl (hb hby d2_39) rfl ?_
    exact hk
  obtain ⟨T85, h85, kvl, X85, e85, E85, A85, st85⟩ := newP X68 hx hZ (hw _ (List.mem_of_getElem? (i := 0) rfl)) e68 (g := (mkF m 40 #[rv ob, iv p1, iv (0 : Int32), iv (0 : Int32)] [(.int (0 : Int32)), (.ref ob)])) rfl (hb hby d2_40) rfl (by decide) (cap := 0) (by decide) (by decide) (by decide) (by decide)
  obtain ⟨vl, g85⟩ : ∃ z, z = h68.size := ⟨_, rfl⟩
  rw [← g85] at A85 st85
  have V_vl : Arv Z h85 vl kvl .long (0 : Int32) [] (.long (0 : Int64)) := (Arv.new A85 (by decide))
  have o_vl : @LT.lt Nat _ vb vl := by rw [g85]; exact V_vb_82.lt
  have K85 : own_R p e below (T85.setTop (mkF m 42 #[rv ob, iv p1, iv (0 : Int32), iv (0 : Int32)] [(.ref vl), (.ref ob)])) S0 := fun t hk => K84 t (st85 _ hk)
  have E_86 := E_69.ext E85
  have F_signed_87 := F_signed_70.ext E85
  have F_flip_88 := F_flip_71.ext E85
  have F_bounded_89 := F_bounded_72.ext E85
  have F_values_90 := F_values_73.ext E85
  have F_count_91 := F_count_74.ext E85
  have F_bounds_92 := F_bounds_75.ext E85
  have F_lowest_93 := F_lowest_76.ext E85
  have F_highest_94 := F_highest_77.ext E85
  have F_firstStep_95 := F_firstStep_78.ext E85
  have F_magnitudes_96 := F_magnitudes_79.ext E85
  have F_steps_97 := F_steps_80.ext E85
  have V_va_98 := V_va_81.ext E85
  have V_vb_99 := V_vb_82.ext E85
  have Kp100 := Kp83.ext E85
  obtain ⟨T101, h101, X101, e101, W101, st101⟩ := putF X85 hx hZ hown (host := "") (Or.inl (hw _ (List.mem_of_getElem? (i := 23) rfl))) Via.refl e85 F_lowest_93 E_86 (Or.inl (hw _ (List.mem_of_getElem? (i := 24) rfl))) (hw _ (List.mem_of_getElem? (i := 3) rfl)) (ty := (.array .long)) (by decide) rfl rfl (g := (mkF m 42 #[rv ob, iv p1, iv (0 : Int32), iv (0 : Int32)] [(.ref vl), (.ref ob)])) rfl rfl (hb hby d2_42)
  have K101 : own_R p e below (T101.setTop (mkF m 45 #[rv ob, iv p1, iv (0 : Int32), iv (0 : Int32)] [])) S0 := fun t hk => K85 t (st101 _ hk)
  have E_102 := E_86.wr W101
  have F_signed_103 := F_signed_87.other W101 (Or.inr (slot_ne (Or.inr (hw _ (List.mem_of_getElem? (i := 15) rfl))) (Or.inl (hw _ (List.mem_of_getElem? (i := 24) rfl))) (by decide) (t := .boolean) (t' := (.array .long)) (by decide) (by decide)))
  have F_flip_104 := F_flip_88.other W101 (Or.inr (slot_ne (Or.inr (hw _ (List.mem_of_getElem? (i := 18) rfl))) (Or.inl (hw _ (List.mem_of_getElem? (i := 24) rfl))) (by decide) (t := .long) (t' := (.array .long)) (by decide) (by decide)))
  have F_bounded_105 := F_bounded_89.other W101 (Or.inr (slot_ne (Or.inr (hw _ (List.mem_of_getElem? (i := 20) rfl))) (Or.inl (hw _ (List.mem_of_getElem? (i := 24) rfl))) (by decide) (t := .boolean) (t' := (.array .long)) (by decide) (by decide)))
  have F_values_106 := F_values_90.other W101 (Or.inr (slot_ne (Or.inl (hw _ (List.mem_of_getElem? (i := 67) rfl))) (Or.inl (hw _ (List.mem_of_getElem? (i := 24) rfl))) (by decide) (t := (.array .long)) (t' := (.array .long)) (by decide) (by decide)))
  have F_count_107 := F_count_91.other W101 (Or.inr (slot_ne (Or.inl (hw _ (List.mem_of_getElem? (i := 74) rfl))) (Or.inl (hw _ (List.mem_of_getElem? (i := 24) rfl))) (by decide) (t := .int) (t' := (.array .long)) (by decide) (by decide)))
  have F_bounds_108 := F_bounds_92.other W101 (Or.inr (slot_ne (Or.inl (hw _ (List.mem_of_getElem? (i := 22) rfl))) (Or.inl (hw _ (List.mem_of_getElem? (i := 24) rfl))) (by decide) (t := (.array .int)) (t' := (.array .long)) (by decide) (by decide)))
  have F_lowest_109 := F_lowest_93.same W101
  have F_highest_110 := F_highest_94.other W101 (Or.inr (slot_ne (Or.inl (hw _ (List.mem_of_getElem? (i := 26) rfl))) (Or.inl (hw _ (List.mem_of_getElem? (i := 24) rfl))) (by decide) (t := (.array .long)) (t' := (.array .long)) (by decide) (by decide)))
  have F_firstStep_111 := F_firstStep_95.other W101 (Or.inr (slot_ne (Or.inl (hw _ (List.mem_of_getElem? (i := 28) rfl))) (Or.inl (hw _ (List.mem_of_getElem? (i := 24) rfl))) (by decide) (t := (.array .long)) (t' := (.array .long)) (by decide) (by decide)))
  have F_magnitudes_112 := F_magnitudes_96.other W101 (Or.inr (slot_ne (Or.inl (hw _ (List.mem_of_getElem? (i := 30) rfl))) (Or.inl (hw _ (List.mem_of_getElem? (i := 24) rfl))) (by decide) (t := (.array .long)) (t' := (.array .long)) (by decide) (by decide)))
  have F_steps_113 := F_steps_97.other W101 (Or.inr (slot_ne (Or.inl (hw _ (List.mem_of_getElem? (i := 33) rfl))) (Or.inl (hw _ (List.mem_of_getElem? (i := 24) rfl))) (by decide) (t := (.array .byte)) (t' := (.array .long)) (by decide) (by decide)))
  have V_va_114 := V_va_98.other W101 (own_neN (by omega))
  have V_vb_115 := V_vb_99.other W101 (own_neN (by omega))
  have V_vl_116 := V_vl.other W101 (own_neN (by omega))
  have Kp117 := Kp100.wr W101 (Or.inl (List.mem_of_getElem? (i := 0) rfl))
  have N101 := Fr.snoc X101 N68 (by omega : n0 ≤ ob)
  have K118 : own_R p e below (T101.setTop (mkF m 47 #[rv ob, iv p1, iv (0 : Int32), iv (0 : Int32)] [(.int (0 : Int32)), (.ref ob)])) S0 := by
    intro t hk
    refine K101 t ?_
    show Steps p.tables e below (T101.setTop (mkF m 45 #[rv ob, iv p1, iv (0 : Int32), iv (0 : Int32)] [])) _
    refine XS.aloadN X101.here hx rfl (hb hby d2_45) rfl rfl ?_
    refine XS.iloadN X101.here hx rfl (hb hby d2_46) rfl ?_
    exact hk
  obtain ⟨T119, h119, kvh, X119, e119, E119, A119, st119⟩ := newP X101 hx hZ (hw _ (List.mem_of_getElem? (i := 0) rfl)) e101 (g := (mkF m 47 #[rv ob, iv p1, iv (0 : Int32), iv (0 : Int32)] [(.int (0 : Int32)), (.ref ob)])) rfl (hb hby d2_47) rfl (by decide) (cap := 0) (by decide) (by decide) (by decide) (by decide)
  obtain ⟨vh, g119⟩ : ∃ z, z = h101.size := ⟨_, rfl⟩
  rw [← g119] at A119 st119
  have V_vh : Arv Z h119 vh kvh .long (0 : Int32) [] (.long (0 : Int64)) := (Arv.new A119 (by decide))
  have o_vh : @LT.lt Nat _ vl vh := by rw [g119]; exact V_vl_116.lt
  have K119 : own_R p e below (T119.setTop (mkF m 49 #[rv ob, iv p1, iv (0 : Int32), iv (0 : Int32)] [(.ref vh), (.ref ob)])) S0 := fun t hk => K118 t (st119 _ hk)
  have E_120 := E_102.ext E119
  have F_signed_121 := F_signed_103.ext E119
  have F_flip_122 := F_flip_104.ext E119
  have F_bounded_123 := F_bounded_105.ext E119
  have F_values_124 := F_values_106.ext E119
  have F_count_125 := F_count_107.ext E119
  have F_bounds_126 := F_bounds_108.ext E119
  have F_lowest_127 := F_lowest_109.ext E119
  have F_highest_128 := F_highest_110.ext E119
  have F_firstStep_129 := F_firstStep_111.ext E119
  have F_magnitudes_130 := F_magnitudes_112.ext E119
  have F_steps_131 := F_steps_113.ext E119
  have V_va_132 := V_va_114.ext E119
  have V_vb_133 := V_vb_115.ext E119
  have V_vl_134 := V_vl_116.ext E119
  have Kp135 := Kp117.ext E119
  obtain ⟨T136, h136, X136, e136, W136, st136⟩ := putF X119 hx hZ hown (host := "") (Or.inl (hw _ (List.mem_of_getElem? (i := 25) rfl))) Via.refl e119 F_highest_128 E_120 (Or.inl (hw _ (List.mem_of_getElem? (i := 26) rfl))) (hw _ (List.mem_of_getElem? (i := 3) rfl)) (ty := (.array .long)) (by decide) rfl rfl (g := (mkF m 49 #[rv ob, iv p1, iv (0 : Int32), iv (0 : Int32)] [(.ref vh), (.ref ob)])) rfl rfl (hb hby d2_49)
  have K136 : own_R p e below (T136.setTop (mkF m 52 #[rv ob, iv p1, iv (0 : Int32), iv (0 : Int32)] [])) S0 := fun t hk => K119 t (st136 _ hk)
  have E_137 := E_120.wr W136
  have F_signed_138 := F_signed_121.other W136 (Or.inr (slot_ne (Or.inr (hw _ (List.mem_of_getElem? (i := 15) rfl))) (Or.inl (hw _ (List.mem_of_getElem? (i := 26) rfl))) (by decide) (t := .boolean) (t' := (.array .long)) (by decide) (by decide)))
  have F_flip_139 := F_flip_122.other W136 (Or.inr (slot_ne (Or.inr (hw _ (List.mem_of_getElem? (i := 18) rfl))) (Or.inl (hw _ (List.mem_of_getElem? (i := 26) rfl))) (by decide) (t := .long) (t' := (.array .long)) (by decide) (by decide)))
  have F_bounded_140 := F_bounded_123.other W136 (Or.inr (slot_ne (Or.inr (hw _ (List.mem_of_getElem? (i := 20) rfl))) (Or.inl (hw _ (List.mem_of_getElem? (i := 26) rfl))) (by decide) (t := .boolean) (t' := (.array .long)) (by decide) (by decide)))
  have F_values_141 := F_values_124.other W136 (Or.inr (slot_ne (Or.inl (hw _ (List.mem_of_getElem? (i := 67) rfl))) (Or.inl (hw _ (List.mem_of_getElem? (i := 26) rfl))) (by decide) (t := (.array .long)) (t' := (.array .long)) (by decide) (by decide)))
  have F_count_142 := F_count_125.other W136 (Or.inr (slot_ne (Or.inl (hw _ (List.mem_of_getElem? (i := 74) rfl))) (Or.inl (hw _ (List.mem_of_getElem? (i := 26) rfl))) (by decide) (t := .int) (t' := (.array .long)) (by decide) (by decide)))
  have F_bounds_143 := F_bounds_126.other W136 (Or.inr (slot_ne (Or.inl (hw _ (List.mem_of_getElem? (i := 22) rfl))) (Or.inl (hw _ (List.mem_of_getElem? (i := 26) rfl))) (by decide) (t := (.array .int)) (t' := (.array .long)) (by decide) (by decide)))
  have F_lowest_144 := F_lowest_127.other W136 (Or.inr (slot_ne (Or.inl (hw _ (List.mem_of_getElem? (i := 24) rfl))) (Or.inl (hw _ (List.mem_of_getElem? (i := 26) rfl))) (by decide) (t := (.array .long)) (t' := (.array .long)) (by decide) (by decide)))
  have F_highest_145 := F_highest_128.same W136
  have F_firstStep_146 := F_firstStep_129.other W136 (Or.inr (slot_ne (Or.inl (hw _ (List.mem_of_getElem? (i := 28) rfl))) (Or.inl (hw _ (List.mem_of_getElem? (i := 26) rfl))) (by decide) (t := (.array .long)) (t' := (.array .long)) (by decide) (by decide)))
  have F_magnitudes_147 := F_magnitudes_130.other W136 (Or.inr (slot_ne (Or.inl (hw _ (List.mem_of_getElem? (i := 30) rfl))) (Or.inl (hw _ (List.mem_of_getElem? (i := 26) rfl))) (by decide) (t := (.array .long)) (t' := (.array .long)) (by decide) (by decide)))
  have F_steps_148 := F_steps_131.other W136 (Or.inr (slot_ne (Or.inl (hw _ (List.mem_of_getElem? (i := 33) rfl))) (Or.inl (hw _ (List.mem_of_getElem? (i := 26) rfl))) (by decide) (t := (.array .byte)) (t' := (.array .long)) (by decide) (by decide)))
  have V_va_149 := V_va_132.other W136 (own_neN (by omega))
  have V_vb_150 := V_vb_133.other W136 (own_neN (by omega))
  have V_vl_151 := V_vl_134.other W136 (own_neN (by omega))
  have V_vh_152 := V_vh.other W136 (own_neN (by omega))
  have Kp153 := Kp135.wr W136 (Or.inl (List.mem_of_getElem? (i := 0) rfl))
  have N136 := Fr.snoc X136 N101 (by omega : n0 ≤ ob)
  have K154 : own_R p e below (T136.setTop (mkF m 54 #[rv ob, iv p1, iv (0 : Int32), iv (0 : Int32)] [(.int (0 : Int32)), (.ref ob)])) S0 := by
    intro t hk
    refine K136 t ?_
    show Steps p.tables e below (T136.setTop (mkF m 52 #[rv ob, iv p1, iv (0 : Int32), iv (0 : Int32)] [])) _
    refine XS.aloadN X136.here hx rfl (hb hby d2_52) rfl rfl ?_
    refine XS.iloadN X136.here hx rfl (hb hby d2_53) rfl ?_
    exact hk
  obtain ⟨T155, h155, kvf, X155, e155, E155, A155, st155⟩ := newP X136 hx hZ (hw _ (List.mem_of_getElem? (i := 0) rfl)) e136 (g := (mkF m 54 #[rv ob, iv p1, iv (0 : Int32), iv (0 : Int32)] [(.int (0 : Int32)), (.ref ob)])) rfl (hb hby d2_54) rfl (by decide) (cap := 0) (by decide) (by decide) (by decide) (by decide)
  obtain ⟨vf, g155⟩ : ∃ z, z = h136.size := ⟨_, rfl⟩
  rw [← g155] at A155 st155
  have V_vf : Arv Z h155 vf kvf .long (0 : Int32) [] (.long (0 : Int64)) := (Arv.new A155 (by decide))
  have o_vf : @LT.lt Nat _ vh vf := by rw [g155]; exact V_vh_152.lt
  have K155 : own_R p e below (T155.setTop (mkF m 56 #[rv ob, iv p1, iv (0 : Int32), iv (0 : Int32)] [(.ref vf), (.ref ob)])) S0 := fun t hk => K154 t (st155 _ hk)
  have E_156 := E_137.ext E155
  have F_signed_157 := F_signed_138.ext E155
  have F_flip_158 := F_flip_139.ext E155
  have F_bounded_159 := F_bounded_140.ext E155
  have F_values_160 := F_values_141.ext E155
  have F_count_161 := F_count_142.ext E155
  have F_bounds_162 := F_bounds_143.ext E155
  have F_lowest_163 := F_lowest_144.ext E155
  have F_highest_164 := F_highest_145.ext E155
  have F_firstStep_165 := F_firstStep_146.ext E155
  have F_magnitudes_166 := F_magnitudes_147.ext E155
  have F_steps_167 := F_steps_148.ext E155
  have V_va_168 := V_va_149.ext E155
  have V_vb_169 := V_vb_150.ext E155
  have V_vl_170 := V_vl_151.ext E155
  have V_vh_171 := V_vh_152.ext E155
  have Kp172 := Kp153.ext E155
  obtain ⟨T173, h173, X173, e173, W173, st173⟩ := putF X155 hx hZ hown (host := "") (Or.inl (hw _ (List.mem_of_getElem? (i := 27) rfl))) Via.refl e155 F_firstStep_165 E_156 (Or.inl (hw _ (List.mem_of_getElem? (i := 28) rfl))) (hw _ (List.mem_of_getElem? (i := 3) rfl)) (ty := (.array .long)) (by decide) rfl rfl (g := (mkF m 56 #[rv ob, iv p1, iv (0 : Int32), iv (0 : Int32)] [(.ref vf), (.ref ob)])) rfl rfl (hb hby d2_56)
  have K173 : own_R p e below (T173.setTop (mkF m 59 #[rv ob, iv p1, iv (0 : Int32), iv (0 : Int32)] [])) S0 := fun t hk => K155 t (st173 _ hk)
  have E_174 := E_156.wr W173
  have F_signed_175 := F_signed_157.other W173 (Or.inr (slot_ne (Or.inr (hw _ (List.mem_of_getElem? (i := 15) rfl))) (Or.inl (hw _ (List.mem_of_getElem? (i := 28) rfl))) (by decide) (t := .boolean) (t' := (.array .long)) (by decide) (by decide)))
  have F_flip_176 := F_flip_158.other W173 (Or.inr (slot_ne (Or.inr (hw _ (List.mem_of_getElem? (i := 18) rfl))) (Or.inl (hw _ (List.mem_of_getElem? (i := 28) rfl))) (by decide) (t := .long) (t' := (.array .long)) (by decide) (by decide)))
  have F_bounded_177 := F_bounded_159.other W173 (Or.inr (slot_ne (Or.inr (hw _ (List.mem_of_getElem? (i := 20) rfl))) (Or.inl (hw _ (List.mem_of_getElem? (i := 28) rfl))) (by decide) (t := .boolean) (t' := (.array .long)) (by decide) (by decide)))
  have F_values_178 := F_values_160.other W173 (Or.inr (slot_ne (Or.inl (hw _ (List.mem_of_getElem? (i := 67) rfl))) (Or.inl (hw _ (List.mem_of_getElem? (i := 28) rfl))) (by decide) (t := (.array .long)) (t' := (.array .long)) (by decide) (by decide)))
  have F_count_179 := F_count_161.other W173 (Or.inr (slot_ne (Or.inl (hw _ (List.mem_of_getElem? (i := 74) rfl))) (Or.inl (hw _ (List.mem_of_getElem? (i := 28) rfl))) (by decide) (t := .int) (t' := (.array .long)) (by decide) (by decide)))
  have F_bounds_180 := F_bounds_162.other W173 (Or.inr (slot_ne (Or.inl (hw _ (List.mem_of_getElem? (i := 22) rfl))) (Or.inl (hw _ (List.mem_of_getElem? (i := 28) rfl))) (by decide) (t := (.array .int)) (t' := (.array .long)) (by decide) (by decide)))
  have F_lowest_181 := F_lowest_163.other W173 (Or.inr (slot_ne (Or.inl (hw _ (List.mem_of_getElem? (i := 24) rfl))) (Or.inl (hw _ (List.mem_of_getElem? (i := 28) rfl))) (by decide) (t := (.array .long)) (t' := (.array .long)) (by decide) (by decide)))
  have F_highest_182 := F_highest_164.other W173 (Or.inr (slot_ne (Or.inl (hw _ (List.mem_of_getElem? (i := 26) rfl))) (Or.inl (hw _ (List.mem_of_getElem? (i := 28) rfl))) (by decide) (t := (.array .long)) (t' := (.array .long)) (by decide) (by decide)))
  have F_firstStep_183 := F_firstStep_165.same W173
  have F_magnitudes_184 := F_magnitudes_166.other W173 (Or.inr (slot_ne (Or.inl (hw _ (List.mem_of_getElem? (i := 30) rfl))) (Or.inl (hw _ (List.mem_of_getElem? (i := 28) rfl))) (by decide) (t := (.array .long)) (t' := (.array .long)) (by decide) (by decide)))
  have F_steps_185 := F_steps_167.other W173 (Or.inr (slot_ne (Or.inl (hw _ (List.mem_of_getElem? (i := 33) rfl))) (Or.inl (hw _ (List.mem_of_getElem? (i := 28) rfl))) (by decide) (t := (.array .byte)) (t' := (.array .long)) (by decide) (by decide)))
  have V_va_186 := V_va_168.other W173 (own_neN (by omega))
  have V_vb_187 := V_vb_169.other W173 (own_neN (by omega))
  have V_vl_188 := V_vl_170.other W173 (own_neN (by omega))
  have V_vh_189 := V_vh_171.other W173 (own_neN (by omega))
  have V_vf_190 := V_vf.other W173 (own_neN (by omega))
  have Kp191 := Kp172.wr W173 (Or.inl (List.mem_of_getElem? (i := 0) rfl))
  have N173 := Fr.snoc X173 N136 (by omega : n0 ≤ ob)
  have K192 : own_R p e below (T173.setTop (mkF m 61 #[rv ob, iv p1, iv (0 : Int32), iv (0 : Int32)] [(.int (0 : Int32)), (.ref ob)])) S0 := by
    intro t hk
    refine K173 t ?_
    show Steps p.tables e below (T173.setTop (mkF m 59 #[rv ob, iv p1, iv (0 : Int32), iv (0 : Int32)] [])) _
    refine XS.aloadN X173.here hx rfl (hb hby d2_59) rfl rfl ?_
    refine XS.iloadN X173.here hx rfl (hb hby d2_60) rfl ?_
    exact hk
  obtain ⟨T193, h193, kvg, X193, e193, E193, A193, st193⟩ := newP X173 hx hZ (hw _ (List.mem_of_getElem? (i := 0) rfl)) e173 (g := (mkF m 61 #[rv ob, iv p1, iv (0 : Int32), iv (0 : Int32)] [(.int (0 : Int32)), (.ref ob)])) rfl (hb hby d2_61) rfl (by decide) (cap := 0) (by decide) (by decide) (by decide) (by decide)
  obtain ⟨vg, g193⟩ : ∃ z, z = h173.size := ⟨_, rfl⟩
  rw [← g193] at A193 st193
  have V_vg : Arv Z h193 vg kvg .long (0 : Int32) [] (.long (0 : Int64)) := (Arv.new A193 (by decide))
  have o_vg : @LT.lt Nat _ vf vg := by rw [g193]; exact V_vf_190.lt
  have K193 : own_R p e below (T193.setTop (mkF m 63 #[rv ob, iv p1, iv (0 : Int32), iv (0 : Int32)] [(.ref vg), (.ref ob)])) S0 := fun t hk => K192 t (st193 _ hk)
  have E_194 := E_174.ext E193
  have F_signed_195 := F_signed_175.ext E193
  have F_flip_196 := F_flip_176.ext E193
  have F_bounded_197 := F_bounded_177.ext E193
  have F_values_198 := F_values_178.ext E193
  have F_count_199 := F_count_179.ext E193
  have F_bounds_200 := F_bounds_180.ext E193
  have F_lowest_201 := F_lowest_181.ext E193
  have F_highest_202 := F_highest_182.ext E193
  have F_firstStep_203 := F_firstStep_183.ext E193
  have F_magnitudes_204 := F_magnitudes_184.ext E193
  have F_steps_205 := F_steps_185.ext E193
  have V_va_206 := V_va_186.ext E193
  have V_vb_207 := V_vb_187.ext E193
  have V_vl_208 := V_vl_188.ext E193
  have V_vh_209 := V_vh_189.ext E193
  have V_vf_210 := V_vf_190.ext E193
  have Kp211 := Kp191.ext E193
  obtain ⟨T212, h212, X212, e212, W212, st212⟩ := putF X193 hx hZ hown (host := "") (Or.inl (hw _ (List.mem_of_getElem? (i := 29) rfl))) Via.refl e193 F_magnitudes_204 E_194 (Or.inl (hw _ (List.mem_of_getElem? (i := 30) rfl))) (hw _ (List.mem_of_getElem? (i := 3) rfl)) (ty := (.array .long)) (by decide) rfl rfl (g := (mkF m 63 #[rv ob, iv p1, iv (0 : Int32), iv (0 : Int32)] [(.ref vg), (.ref ob)])) rfl rfl (hb hby d2_63)
  have K212 : own_R p e below (T212.setTop (mkF m 66 #[rv ob, iv p1, iv (0 : Int32), iv (0 : Int32)] [])) S0 := fun t hk => K193 t (st212 _ hk)
  have E_213 := E_194.wr W212
  have F_signed_214 := F_signed_195.other W212 (Or.inr (slot_ne (Or.inr (hw _ (List.mem_of_getElem? (i := 15) rfl))) (Or.inl (hw _ (List.mem_of_getElem? (i := 30) rfl))) (by decide) (t := .boolean) (t' := (.array .long)) (by decide) (by decide)))
  have F_flip_215 := F_flip_196.other W212 (Or.inr (slot_ne (Or.inr (hw _ (List.mem_of_getElem? (i := 18) rfl))) (Or.inl (hw _ (List.mem_of_getElem? (i := 30) rfl))) (by decide) (t := .long) (t' := (.array .long)) (by decide) (by decide)))
  have F_bounded_216 := F_bounded_197.other W212 (Or.inr (slot_ne (Or.inr (hw _ (List.mem_of_getElem? (i := 20) rfl))) (Or.inl (hw _ (List.mem_of_getElem? (i := 30) rfl))) (by decide) (t := .boolean) (t' := (.array .long)) (by decide) (by decide)))
  have F_values_217 := F_values_198.other W212 (Or.inr (slot_ne (Or.inl (hw _ (List.mem_of_getElem? (i := 67) rfl))) (Or.inl (hw _ (List.mem_of_getElem? (i := 30) rfl))) (by decide) (t := (.array .long)) (t' := (.array .long)) (by decide) (by decide)))
  have F_count_218 := F_count_199.other W212 (Or.inr (slot_ne (Or.inl (hw _ (List.mem_of_getElem? (i := 74) rfl))) (Or.inl (hw _ (List.mem_of_getElem? (i := 30) rfl))) (by decide) (t := .int) (t' := (.array .long)) (by decide) (by decide)))
  have F_bounds_219 := F_bounds_200.other W212 (Or.inr (slot_ne (Or.inl (hw _ (List.mem_of_getElem? (i := 22) rfl))) (Or.inl (hw _ (List.mem_of_getElem? (i := 30) rfl))) (by decide) (t := (.array .int)) (t' := (.array .long)) (by decide) (by decide)))
  have F_lowest_220 := F_lowest_201.other W212 (Or.inr (slot_ne (Or.inl (hw _ (List.mem_of_getElem? (i := 24) rfl))) (Or.inl (hw _ (List.mem_of_getElem? (i := 30) rfl))) (by decide) (t := (.array .long)) (t' := (.array .long)) (by decide) (by decide)))
  have F_highest_221 := F_highest_202.other W212 (Or.inr (slot_ne (Or.inl (hw _ (List.mem_of_getElem? (i := 26) rfl))) (Or.inl (hw _ (List.mem_of_getElem? (i := 30) rfl))) (by decide) (t := (.array .long)) (t' := (.array .long)) (by decide) (by decide)))
  have F_firstStep_222 := F_firstStep_203.other W212 (Or.inr (slot_ne (Or.inl (hw _ (List.mem_of_getElem? (i := 28) rfl))) (Or.inl (hw _ (List.mem_of_getElem? (i := 30) rfl))) (by decide) (t := (.array .long)) (t' := (.array .long)) (by decide) (by decide)))
  have F_magnitudes_223 := F_magnitudes_204.same W212
  have F_steps_224 := F_steps_205.other W212 (Or.inr (slot_ne (Or.inl (hw _ (List.mem_of_getElem? (i := 33) rfl))) (Or.inl (hw _ (List.mem_of_getElem? (i := 30) rfl))) (by decide) (t := (.array .byte)) (t' := (.array .long)) (by decide) (by decide)))
  have V_va_225 := V_va_206.other W212 (own_neN (by omega))
  have V_vb_226 := V_vb_207.other W212 (own_neN (by omega))
  have V_vl_227 := V_vl_208.other W212 (own_neN (by omega))
  have V_vh_228 := V_vh_209.other W212 (own_neN (by omega))
  have V_vf_229 := V_vf_210.other W212 (own_neN (by omega))
  have V_vg_230 := V_vg.other W212 (own_neN (by omega))
  have Kp231 := Kp211.wr W212 (Or.inl (List.mem_of_getElem? (i := 0) rfl))
  have N212 := Fr.snoc X212 N173 (by omega : n0 ≤ ob)
  have K232 : own_R p e below (T212.setTop (mkF m 68 #[rv ob, iv p1, iv (0 : Int32), iv (0 : Int32)] [(.int (0 : Int32)), (.ref ob)])) S0 := by
    intro t hk
    refine K212 t ?_
    show Steps p.tables e below (T212.setTop (mkF m 66 #[rv ob, iv p1, iv (0 : Int32), iv (0 : Int32)] [])) _
    refine XS.aloadN X212.here hx rfl (hb hby d2_66) rfl rfl ?_
    refine XS.iloadN X212.here hx rfl (hb hby d2_67) rfl ?_
    exact hk
  obtain ⟨T233, h233, kvs, X233, e233, E233, A233, st233⟩ := newP X212 hx hZ (hw _ (List.mem_of_getElem? (i := 31) rfl)) e212 (g := (mkF m 68 #[rv ob, iv p1, iv (0 : Int32), iv (0 : Int32)] [(.int (0 : Int32)), (.ref ob)])) rfl (hb hby d2_68) rfl (by decide) (cap := 0) (by decide) (by decide) (by decide) (by decide)
  obtain ⟨vs, g233⟩ : ∃ z, z = h212.size := ⟨_, rfl⟩
  rw [← g233] at A233 st233
  have V_vs : Arv Z h233 vs kvs .byte (0 : Int32) [] (.int (0 : Int32)) := (Arv.new A233 (by decide))
  have o_vs : @LT.lt Nat _ vg vs := by rw [g233]; exact V_vg_230.lt
  have K233 : own_R p e below (T233.setTop (mkF m 70 #[rv ob, iv p1, iv (0 : Int32), iv (0 : Int32)] [(.ref vs), (.ref ob)])) S0 := fun t hk => K232 t (st233 _ hk)
  have E_234 := E_213.ext E233
  have F_signed_235 := F_signed_214.ext E233
  have F_flip_236 := F_flip_215.ext E233
  have F_bounded_237 := F_bounded_216.ext E233
  have F_values_238 := F_values_217.ext E233
  have F_count_239 := F_count_218.ext E233
  have F_bounds_240 := F_bounds_219.ext E233
  have F_lowest_241 := F_lowest_220.ext E233
  have F_highest_242 := F_highest_221.ext E233
  have F_firstStep_243 := F_firstStep_222.ext E233
  have F_magnitudes_244 := F_magnitudes_223.ext E233
  have F_steps_245 := F_steps_224.ext E233
  have V_va_246 := V_va_225.ext E233
  have V_vb_247 := V_vb_226.ext E233
  have V_vl_248 := V_vl_227.ext E233
  have V_vh_249 := V_vh_228.ext E233
  have V_vf_250 := V_vf_229.ext E233
  have V_vg_251 := V_vg_230.ext E233
  have Kp252 := Kp231.ext E233
  obtain ⟨T253, h253, X253, e253, W253, st253⟩ := putF X233 hx hZ hown (host := "") (Or.inl (hw _ (List.mem_of_getElem? (i := 32) rfl))) Via.refl e233 F_steps_245 E_234 (Or.inl (hw _ (List.mem_of_getElem? (i := 33) rfl))) (hw _ (List.mem_of_getElem? (i := 3) rfl)) (ty := (.array .byte)) (by decide) rfl rfl (g := (mkF m 70 #[rv ob, iv p1, iv (0 : Int32), iv (0 : Int32)] [(.ref vs), (.ref ob)])) rfl rfl (hb hby d2_70)
  have K253 : own_R p e below (T253.setTop (mkF m 73 #[rv ob, iv p1, iv (0 : Int32), iv (0 : Int32)] [])) S0 := fun t hk => K233 t (st253 _ hk)
  have E_254 := E_234.wr W253
  have F_signed_255 := F_signed_235.other W253 (Or.inr (slot_ne (Or.inr (hw _ (List.mem_of_getElem? (i := 15) rfl))) (Or.inl (hw _ (List.mem_of_getElem? (i := 33) rfl))) (by decide) (t := .boolean) (t' := (.array .byte)) (by decide) (by decide)))
  have F_flip_256 := F_flip_236.other W253 (Or.inr (slot_ne (Or.inr (hw _ (List.mem_of_getElem? (i := 18) rfl))) (Or.inl (hw _ (List.mem_of_getElem? (i := 33) rfl))) (by decide) (t := .long) (t' := (.array .byte)) (by decide) (by decide)))
  have F_bounded_257 := F_bounded_237.other W253 (Or.inr (slot_ne (Or.inr (hw _ (List.mem_of_getElem? (i := 20) rfl))) (Or.inl (hw _ (List.mem_of_getElem? (i := 33) rfl))) (by decide) (t := .boolean) (t' := (.array .byte)) (by decide) (by decide)))
  have F_values_258 := F_values_238.other W253 (Or.inr (slot_ne (Or.inl (hw _ (List.mem_of_getElem? (i := 67) rfl))) (Or.inl (hw _ (List.mem_of_getElem? (i := 33) rfl))) (by decide) (t := (.array .long)) (t' := (.array .byte)) (by decide) (by decide)))
  have F_count_259 := F_count_239.other W253 (Or.inr (slot_ne (Or.inl (hw _ (List.mem_of_getElem? (i := 74) rfl))) (Or.inl (hw _ (List.mem_of_getElem? (i := 33) rfl))) (by decide) (t := .int) (t' := (.array .byte)) (by decide) (by decide)))
  have F_bounds_260 := F_bounds_240.other W253 (Or.inr (slot_ne (Or.inl (hw _ (List.mem_of_getElem? (i := 22) rfl))) (Or.inl (hw _ (List.mem_of_getElem? (i := 33) rfl))) (by decide) (t := (.array .int)) (t' := (.array .byte)) (by decide) (by decide)))
  have F_lowest_261 := F_lowest_241.other W253 (Or.inr (slot_ne (Or.inl (hw _ (List.mem_of_getElem? (i := 24) rfl))) (Or.inl (hw _ (List.mem_of_getElem? (i := 33) rfl))) (by decide) (t := (.array .long)) (t' := (.array .byte)) (by decide) (by decide)))
  have F_highest_262 := F_highest_242.other W253 (Or.inr (slot_ne (Or.inl (hw _ (List.mem_of_getElem? (i := 26) rfl))) (Or.inl (hw _ (List.mem_of_getElem? (i := 33) rfl))) (by decide) (t := (.array .long)) (t' := (.array .byte)) (by decide) (by decide)))
  have F_firstStep_263 := F_firstStep_243.other W253 (Or.inr (slot_ne (Or.inl (hw _ (List.mem_of_getElem? (i := 28) rfl))) (Or.inl (hw _ (List.mem_of_getElem? (i := 33) rfl))) (by decide) (t := (.array .long)) (t' := (.array .byte)) (by decide) (by decide)))
  have F_magnitudes_264 := F_magnitudes_244.other W253 (Or.inr (slot_ne (Or.inl (hw _ (List.mem_of_getElem? (i := 30) rfl))) (Or.inl (hw _ (List.mem_of_getElem? (i := 33) rfl))) (by decide) (t := (.array .long)) (t' := (.array .byte)) (by decide) (by decide)))
  have F_steps_265 := F_steps_245.same W253
  have V_va_266 := V_va_246.other W253 (own_neN (by omega))
  have V_vb_267 := V_vb_247.other W253 (own_neN (by omega))
  have V_vl_268 := V_vl_248.other W253 (own_neN (by omega))
  have V_vh_269 := V_vh_249.other W253 (own_neN (by omega))
  have V_vf_270 := V_vf_250.other W253 (own_neN (by omega))
  have V_vg_271 := V_vg_251.other W253 (own_neN (by omega))
  have V_vs_272 := V_vs.other W253 (own_neN (by omega))
  have Kp273 := Kp252.wr W253 (Or.inl (List.mem_of_getElem? (i := 0) rfl))
  have N253 := Fr.snoc X253 N212 (by omega : n0 ≤ ob)
  have KP : Keep h0 T253.heap [ob] := by rw [e253]; exact Kp273
  have GG : ∃ vb vl vh vf vg vs kvb kvl kvh kvf kvg kvs fl, own_O n0 ob va vb vl vh vf vg vs (0 : Int32) (1 : Int32) ∧ h0.size ≤ vb ∧ own_G Z T253.heap ob va vb vl vh vf vg vs kv kvb kvl kvh kvf kvg kvs fl (0 : Int32) (1 : Int32) VV .null (0 : Int32) [(.int (0 : Int32))] [] [] [] [] [] := by
    rw [e253]
    exact ⟨vb, vl, vh, vf, vg, vs, _, _, _, _, _, _, fl, ⟨hn0, hvo, o_vb, o_vl, o_vh, o_vf, o_vg, o_vs, by decide, by decide, by decide⟩, szb, ⟨E_254, F_bounded_257, F_flip_256, F_values_258, F_count_259, F_bounds_260, F_lowest_261, F_highest_262, F_firstStep_263, F_magnitudes_264, F_steps_265, V_va_266, V_vb_267, V_vl_268, V_vh_269, V_vf_270, V_vg_271, V_vs_272, rfl, rfl, rfl, rfl, rfl, rfl, hlv⟩⟩
  obtain ⟨fs, hr, hrun, hended, hW, hsame⟩ := X253.leave (v := none) (fun _ => rfl) Bd.notSynchronized
  exact ⟨_, _, K253 _ (X253.returnOut hx Bd.returns (hb hby d2_73) hr), hrun, hended, _, _, rfl, ⟨rfl, N253, KP, GG⟩, ⟨_, rfl⟩, hW, hsame.mono (by decide) (by decide)⟩
theorem d1_0 : decode prog_74_method_1_code 0 = .ok (.aload_n 0, 1) := by decide +kernel
theorem d1_1 : decode prog_74_method_1_code 1 = .ok (.iload_n 1, 1) := by decide +kernel
theorem d1_2 : decode prog_74_method_1_code 2 = .ok (.iconst 0, 1) := by decide +kernel
theorem d1_3 : decode prog_74_method_1_code 3 = .ok (.iconst 0, 1) := by decide +kernel
theorem d1_4 : decode prog_74_method_1_code 4 = .ok (.invokespecial 1, 3) := by decide +kernel
theorem d1_7 : decode prog_74_method_1_code 7 = .ok (.return_, 1) := by decide +kernel
theorem ef_1 (m : MethodId) (x0 : Addr) (x1 : Int32) : entryFrame m #[(.ref x0), (.int x1)] 2 = mkF m 0 #[rv x0, iv x1] [] := by first | (simp [entryFrame, mkF, argsToLocals, Value.category, maxLocals]; done) | rfl
theorem pn_1 : plainName "com/example/bitrun/bitrun/orc/intv2/Segments" = true := by first | (simp [plainName, overriddenIn]; done) | decide +kernel
def Q_rm1 (Z : State) (ob : Addr) (p1 : Int32) (va : Addr) (kv : ClassId) (VV : List Value) (h0 : Heap) (n0 : Nat) (v : Option Value) (h : Heap) (L : List Loc) : Prop := v = none ∧ Fr n0 L ∧ Keep h0 h [ob] ∧ ∃ vb vl vh vf vg vs kvb kvl kvh kvf kvg kvs fl, own_O n0 ob va vb vl vh vf vg vs (0 : Int32) (1 : Int32) ∧ h0.size ≤ vb ∧ own_G Z h ob va vb vl vh vf vg vs kv kvb kvl kvh kvf kvg kvs fl (0 : Int32) (1 : Int32) VV .null (0 : Int32) [(.int (0 : Int32))] [] [] [] [] []
set_option maxRecDepth 65536 in
set_option maxHeartbeats 40000000 in
theorem rm1 (l : Launch) (Z : State) (a0 : Array Value) (hw : ∀ d ∈ tables_1, d.before a0 Z = true) (ws : List Jvm.Cond) (ob : Addr) (p1 : Int32) (va : Addr) (kv : ClassId) (VV : List Value) (h0 : Heap) (n0 : Nat) (Z0 : n0 ≤ h0.size) (hD : own_D Z h0 ob) (hva : Arv Z h0 va kv .long (6 : Int32) VV (.long (0 : Int64))) (hlv : VV.length = 6) (hn0 : n0 ≤ va) (hvo : @LT.lt Nat _ va ob) :
    MetFree l (⟨"com/example/bitrun/bitrun/orc/intv2/Segments", "<init>", "(Z)V"⟩ : MethodName) (head1 (Jvm.Cond.code (⟨"com/example/bitrun/bitrun/orc/intv2/Segments", "<init>", "(Z)V"⟩ : MethodName) prog_74_method_1_code 2 none :: ws) ({ frames := 2, cells := 6, slots := 1, locals := 27 } : Room)) (fun a U => a = #[(.ref ob), (.int p1)] ∧ Z.Warmed39 U.vm ∧ U.heap = h0) (fun _ _ _ _ _ => True) (fun _ U o U' => ∃ v L, o = .returned v ∧ Q_rm1 Z ob p1 va kv VV h0 n0 v U'.heap L ∧ FrameEnd U o U' L ({ frames := 2, cells := 6, slots := 1, locals := 27 } : Room).cells ({ frames := 2, cells := 6, slots := 1, locals := 27 } : Room).slots) := by
  refine MetFree.of_bodySF (plainFor_of_name pn_1) hisR ?_
  intro p e s m args below meth c s₁ Bd hml0 hP hK
  obtain ⟨rfl, hZ, hh⟩ := hP
  have hx := Bd.exec
  have hby := Bd.bytes
  have hml : c.maxLocals = 2 := hml0
  have hown : s.vm.findClass "com/example/bitrun/bitrun/orc/intv2/Segments" = some m.cls := findClass_of_methodNamed Bd.named
  have hnm := (name_of_methodNamed Bd.named Bd.method).1
  have X0 : Stand p l e ({ frames := 2, cells := 6, slots := 1, locals := 27 } : Room) s m #[(.ref ob), (.int p1)] below meth c s₁ [] 0 0 := Stand.of_body Bd
  have e0 : s₁.heap = h0 := by rw [← hh, Bd.state]; rfl
  have N0 := Fr.nil n0
  have pre0 : ∀ t, Steps p.tables e below (s₁.setTop (mkF m 0 #[rv ob, iv p1] [])) t → Steps p.tables e below (s₁.setTop (entryFrame m #[(.ref ob), (.int p1)] 2)) t := fun t k => castTop (ef_1 m ob p1) k
  obtain ⟨S0, hS0⟩ : ∃ z, z = (s₁.setTop (entryFrame m #[(.ref ob), (.int p1)] 2)) := ⟨_, rfl⟩
  rw [← hS0] at pre0 ⊢
  have K0 : own_R p e below (s₁.setTop (mkF m 0 #[rv ob, iv p1] [])) S0 := pre0
  have K1 : own_R p e below (s₁.setTop (mkF m 4 #[rv ob, iv p1] [(.int (0 : Int32)), (.int (0 : Int32)), (.int p1), (.ref ob)])) S0 := by
    intro t hk
    refine K0 t ?_
    show Steps p.tables e below (s₁.setTop (mkF m 0 #[rv ob, iv p1] [])) _
    refine XS.aloadN X0.here hx rfl (hb hby d1_0) rfl rfl ?_
    refine XS.iloadN X0.here hx rfl (hb hby d1_1) rfl ?_
    refine XS.iconst X0.here hx rfl (hb hby d1_2) ?_
    refine XS.iconst X0.here hx rfl (hb hby d1_3) ?_
    exact hk
  obtain ⟨_, _, ⟨T2, L2, k2, n2⟩, -, X2, ⟨Lc2, hQ2, l2, y2, z2⟩, st2⟩ := X0.specialBack hx (y := (⟨"com/example/bitrun/bitrun/orc/intv2/Segments", "<init>", "(ZIZ)V"⟩ : MethodName)) rfl hown (mvT hZ (hw _ (List.mem_of_getElem? (i := 8) rfl))) (mvT hZ (hw _ (List.mem_of_getElem? (i := 9) rfl))) (mvT hZ (hw _ (List.mem_of_getElem? (i := 10) rfl))) (by decide) (backOf (W := 0) (rm2 l Z a0 hw [] ob p1 (0 : Int32) (0 : Int32) va kv VV h0 n0 Z0 rfl rfl hD hva hlv hn0 hvo) hZ (hw _ (List.mem_of_getElem? (i := 10) rfl)) (hw _ (List.mem_of_getElem? (i := 4) rfl)) (by decide) (by decide)) (g := (mkF m 4 #[rv ob, iv p1] [(.int (0 : Int32)), (.int (0 : Int32)), (.int p1), (.ref ob)])) rfl (by rw [hml]; rfl) (Steps.refl _) (a := ob) (argsL := [(.int p1), (.int (0 : Int32)), (.int (0 : Int32))]) (rest := []) (lenOf (by decide +kernel : parseMethodDescriptor "(ZIZ)V" = some ⟨[.boolean, .int, .boolean], none⟩) rfl) rfl (by show 2 * 0 + _ ≤ _; exact Nat.le_of_eq rfl) (hb hby d1_4) (fun _ _ => ⟨rfl, e0, (by decide : 0 + 6 ≤ _), (by decide : 0 + 1 ≤ _)⟩)
  dsimp only [Pt.U, Pt.locs, Pt.cells, Pt.slots] at X2 l2 y2 z2 st2 hQ2
  replace y2 := y2.symm; replace z2 := z2.symm; subst l2 y2 z2
  obtain ⟨rfl, Nq2, KP, GG⟩ := hQ2
  have N2 := Fr.app N0 Nq2
  have K2 : own_R p e below (T2.setTop (mkF m 7 #[rv ob, iv p1] [])) S0 := fun t hk => K1 t (st2.trans hk)
  obtain ⟨fs, hr, hrun, hended, hW, hsame⟩ := X2.leave (v := none) (fun _ => rfl) Bd.notSynchronized
  exact ⟨_, _, K2 _ (X2.returnOut hx Bd.returns (hb hby d1_7) hr), hrun, hended, _, _, rfl, ⟨rfl, N2, KP, GG⟩, ⟨_, rfl⟩, hW, hsame.mono (by decide) (by decide)⟩
theorem d5_0 : decode prog_74_method_21_code 0 = .ok (.aload_n 0, 1) := by decide +kernel
theorem d5_1 : decode prog_74_method_21_code 1 = .ok (.aload_n 0, 1) := by decide +kernel
theorem d5_2 : decode prog_74_method_21_code 2 = .ok (.getfield 27, 3) := by decide +kernel
theorem d5_5 : decode prog_74_method_21_code 5 = .ok (.iload_n 1, 1) := by decide +kernel
theorem d5_6 : decode prog_74_method_21_code 6 = .ok (.iconst 1, 1) := by decide +kernel
theorem d5_7 : decode prog_74_method_21_code 7 = .ok (.iadd, 1) := by decide +kernel
theorem d5_8 : decode prog_74_method_21_code 8 = .ok (.invokestatic 116, 3) := by decide +kernel
theorem d5_11 : decode prog_74_method_21_code 11 = .ok (.putfield 27, 3) := by decide +kernel
theorem d5_14 : decode prog_74_method_21_code 14 = .ok (.aload_n 0, 1) := by decide +kernel
theorem d5_15 : decode prog_74_method_21_code 15 = .ok (.aload_n 0, 1) := by decide +kernel
theorem d5_16 : decode prog_74_method_21_code 16 = .ok (.getfield 31, 3) := by decide +kernel
theorem d5_19 : decode prog_74_method_21_code 19 = .ok (.iload_n 1, 1) := by decide +kernel
theorem d5_20 : decode prog_74_method_21_code 20 = .ok (.invokestatic 122, 3) := by decide +kernel
theorem d5_23 : decode prog_74_method_21_code 23 = .ok (.putfield 31, 3) := by decide +kernel
theorem d5_26 : decode prog_74_method_21_code 26 = .ok (.aload_n 0, 1) := by decide +kernel
theorem d5_27 : decode prog_74_method_21_code 27 = .ok (.aload_n 0, 1) := by decide +kernel
theorem d5_28 : decode prog_74_method_21_code 28 = .ok (.getfield 35, 3) := by decide +kernel
theorem d5_31 : decode prog_74_method_21_code 31 = .ok (.iload_n 1, 1) := by decide +kernel
theorem d5_32 : decode prog_74_method_21_code 32 = .ok (.invokestatic 122, 3) := by decide +kernel
theorem d5_35 : decode prog_74_method_21_code 35 = .ok (.putfield 35, 3) := by decide +kernel
theorem d5_38 : decode prog_74_method_21_code 38 = .ok (.aload_n 0, 1) := by decide +kernel
theorem d5_39 : decode prog_74_method_21_code 39 = .ok (.aload_n 0, 1) := by decide +kernel
theorem d5_40 : decode prog_74_method_21_code 40 = .ok (.getfield 38, 3) := by decide +kernel
theorem d5_43 : decode prog_74_method_21_code 43 = .ok (.iload_n 1, 1) := by decide +kernel
theorem d5_44 : decode prog_74_method_21_code 44 = .ok (.invokestatic 122, 3) := by decide +kernel
theorem d5_47 : decode prog_74_method_21_code 47 = .ok (.putfield 38, 3) := by decide +kernel
theorem d5_50 : decode prog_74_method_21_code 50 = .ok (.aload_n 0, 1) := by decide +kernel
theorem d5_51 : decode prog_74_method_21_code 51 = .ok (.aload_n 0, 1) := by decide +kernel
theorem d5_52 : decode prog_74_method_21_code 52 = .ok (.getfield 41, 3) := by decide +kernel
theorem d5_55 : decode prog_74_method_21_code 55 = .ok (.iload_n 1, 1) := by decide +kernel
theorem d5_56 : decode prog_74_method_21_code 56 = .ok (.invokestatic 122, 3) := by decide +kernel
theorem d5_59 : decode prog_74_method_21_code 59 = .ok (.putfield 41, 3) := by decide +kernel
theorem d5_62 : decode prog_74_method_21_code 62 = .ok (.aload_n 0, 1) := by decide +kernel
theorem d5_63 : decode prog_74_method_21_code 63 = .ok (.aload_n 0, 1) := by decide +kernel
theorem d5_64 : decode prog_74_method_21_code 64 = .ok (.getfield 44, 3) := by decide +kernel
theorem d5_67 : decode prog_74_method_21_code 67 = .ok (.iload_n 1, 1) := by decide +kernel
theorem d5_68 : decode prog_74_method_21_code 68 = .ok (.invokestatic 125, 3) := by decide +kernel
theorem d5_71 : decode prog_74_method_21_code 71 = .ok (.putfield 44, 3) := by decide +kernel
theorem d5_74 : decode prog_74_method_21_code 74 = .ok (.return_, 1) := by decide +kernel
theorem ef_5 (m : MethodId) (x0 : Addr) (x1 : Int32) : entryFrame m #[(.ref x0), (.int x1)] 2 = mkF m 0 #[rv x0, iv x1] [] := by first | (simp [entryFrame, mkF, argsToLocals, Value.category, maxLocals]; done) | rfl
theorem pn_5 : plainName "com/example/bitrun/bitrun/orc/intv2/Segments" = true := by first | (simp [plainName, overriddenIn]; done) | decide +kernel
def Q_rm5 (Z : State) (ob : Addr) (p1 : Int32) (va vb vl vh vf vg vs : Addr) (kv kb kl kh kf kg ks : ClassId) (fl : Int64) (nn nb : Int32) (VV : List Value) (vv : Value) (cn : Int32) (VB VL VH VF VG VS : List Value) (h0 : Heap) (n0 : Nat) (v : Option Value) (h : Heap) (L : List Loc) : Prop := v = none ∧ Fr n0 L ∧ Keep h0 h [ob] ∧ ∃ xb xl xh xf xg xs jb jl jh jf jg js XB XL XH XF XG XS, own_O n0 ob va xb xl xh xf xg xs p1 (p1 + (1 : Int32)) ∧ own_G Z h ob va xb xl xh xf xg xs kv jb jl jh jf jg js fl p1 (p1 + (1 : Int32)) VV vv cn XB XL XH XF XG XS
set_option maxRecDepth 65536 in
set_option maxHeartbeats 40000000 in
theorem rm5 (l : Launch) (Z : State) (a0 : Array Value) (hw : ∀ d ∈ tables_1, d.before a0 Z = true) (ws : List Jvm.Cond) (ob : Addr) (p1 : Int32) (va vb vl vh vf vg vs : Addr) (kv kb kl kh kf kg ks : ClassId) (fl : Int64) (nn nb : Int32) (VV : List Value) (vv : Value) (cn : Int32) (VB VL VH VF VG VS : List Value) (h0 : Heap) (n0 : Nat) (Z0 : n0 ≤ h0.size) (hO : own_O n0 ob va vb vl vh vf vg vs nn nb) (hG : own_G Z h0 ob va vb vl vh vf vg vs kv kb kl kh kf kg ks fl nn nb VV vv cn VB VL VH VF VG VS) (hp1 : nn.toInt < p1.toInt ∧ p1.toInt ≤ 3) :
    MetFree l (⟨"com/example/bitrun/bitrun/orc/intv2/Segments", "resize", "(I)V"⟩ : MethodName) (head1 (Jvm.Cond.code (⟨"com/example/bitrun/bitrun/orc/intv2/Segments", "resize", "(I)V"⟩ : MethodName) prog_74_method_21_code 2 none :: ws) ({ frames := 2, cells := 6, slots := 24, locals := 85 } : Room)) (fun a U => a = #[(.ref ob), (.int p1)] ∧ Z.Warmed39 U.vm ∧ U.heap = h0) (fun _ _ _ _ _ => True) (fun _ U o U' => ∃ v L, o = .returned v ∧ Q_rm5 Z ob p1 va vb vl vh vf vg vs kv kb kl kh kf kg ks fl nn nb VV vv cn VB VL VH VF VG VS h0 n0 v U'.heap L ∧ FrameEnd U o U' L ({ frames := 2, cells := 6, slots := 24, locals := 85 } : Room).cells ({ frames := 2, cells := 6, slots := 24, locals := 85 } : Room).slots) := by
  refine MetFree.of_bodySF (plainFor_of_name pn_5) hisR ?_
  intro p e s m args below meth c s₁ Bd hml0 hP hK
  obtain ⟨rfl, hZ, hh⟩ := hP
  have hx := Bd.exec
  have hby := Bd.bytes
  have hml : c.maxLocals = 2 := hml0
  have hown : s.vm.findClass "com/example/bitrun/bitrun/orc/intv2/Segments" = some m.cls := findClass_of_methodNamed Bd.named
  have hnm := (name_of_methodNamed Bd.named Bd.method).1
  have X0 : Stand p l e ({ frames := 2, cells := 6, slots := 24, locals := 85 } : Room) s m #[(.ref ob), (.int p1)] below meth c s₁ [] 0 0 := Stand.of_body Bd
  have e0 : s₁.heap = h0 := by rw [← hh, Bd.state]; rfl
  have N0 := Fr.nil n0
  have pre0 : ∀ t, Steps p.tables e below (s₁.setTop (mkF m 0 #[rv ob, iv p1] [])) t → Steps p.tables e below (s₁.setTop (entryFrame m #[(.ref ob), (.int p1)] 2)) t := fun t k => castTop (ef_5 m ob p1) k
  obtain ⟨S0, hS0⟩ : ∃ z, z = (s₁.setTop (entryFrame m #[(.ref ob), (.int p1)] 2)) := ⟨_, rfl⟩
  rw [← hS0] at pre0 ⊢
  have K0 : own_R p e below (s₁.setTop (mkF m 0 #[rv ob, iv p1] [])) S0 := pre0
  obtain ⟨E_1, F_bounded_1, F_flip_1, F_values_1, F_count_1, F_bounds_1, F_lowest_1, F_highest_1, F_firstStep_1, F_magnitudes_1, F_steps_1, V_va_1, V_vb_1, V_vl_1, V_vh_1, V_vf_1, V_vg_1, V_vs_1, len_vb_1, len_vl_1, len_vh_1, len_vf_1, len_vg_1, len_vs_1, len_va_1⟩ := id hG
  obtain ⟨o1, o2, o3, o4, o5, o6, o7, o8, o9, o10, o11⟩ := id hO
  have hq := own_add1 p1 (by omega)
  have K2 : own_R p e below (s₁.setTop (mkF m 2 #[rv ob, iv p1] [(.ref ob), (.ref ob)])) S0 := by
    intro t hk
    refine K0 t ?_
    show Steps p.tables e below (s₁.setTop (mkF m 0 #[rv ob, iv p1] [])) _
    refine XS.aloadN X0.here hx rfl (hb hby d5_0) rfl rfl ?_
    refine XS.aloadN X0.here hx rfl (hb hby d5_1) rfl rfl ?_
    exact hk
  obtain ⟨T3, X3, e3, st3⟩ := getF X0 hx hZ hown (host := "") (Or.inl (hw _ (List.mem_of_getElem? (i := 21) rfl))) Via.refl e0 F_bounds_1 (g := (mkF m 2 #[rv ob, iv p1] [(.ref ob), (.ref ob)])) rfl rfl (hb hby d5_2)
  have K3 : own_R p e below (T3.setTop (mkF m 5 #[rv ob, iv p1] [(.ref vb), (.ref ob)])) S0 := fun t hk => K2 t (st3 _ hk)
  have K4 : own_R p e below (T3.setTop (mkF m 8 #[rv ob, iv p1] [(.int (p1 + (1 : Int32))), (.ref vb), (.ref ob)])) S0 := by
    intro t hk
    refine K3 t ?_
    show Steps p.tables e below (T3.setTop (mkF m 5 #[rv ob, iv p1] [(.ref vb), (.ref ob)])) _
    refine XS.iloadN X3.here hx rfl (hb hby d5_5) rfl ?_
    refine XS.iconst X3.here hx rfl (hb hby d5_6) ?_
    refine XS.iadd X3.here hx rfl (hb hby d5_7) rfl ?_
    exact hk
  obtain ⟨_, _, ⟨T5, L5, k5, n5⟩, -, X5, ⟨Lc5, hQ5, l5, y5, z5⟩, st5⟩ := Jvm.LawKit.callS X3 hx (y := (⟨"java/util/Arrays", "copyOf", "([II)[I"⟩ : MethodName)) hown (mvT hZ (hw _ (List.mem_of_getElem? (i := 43) rfl))) (mvT hZ (hw _ (List.mem_of_getElem? (i := 44) rfl))) (mvT hZ (hw _ (List.mem_of_getElem? (i := 45) rfl))) (mvT hZ (hw _ (List.mem_of_getElem? (i := 46) rfl))) (by decide) (backOf (W := 1) (rm6 l Z a0 hw [] vb (p1 + (1 : Int32)) kb nb VB h0 n0 Z0 V_vb_1 (by omega)) hZ (hw _ (List.mem_of_getElem? (i := 46) rfl)) (hw _ (List.mem_of_getElem? (i := 45) rfl)) (by decide) (by decide)) (g := (mkF m 8 #[rv ob, iv p1] [(.int (p1 + (1 : Int32))), (.ref vb), (.ref ob)])) rfl (by rw [hml]; rfl) (argsL := [(.ref vb), (.int (p1 + (1 : Int32)))]) (rest := [(.ref ob)]) (lenOf (by decide +kernel : parseMethodDescriptor "([II)[I" = some ⟨[(.array .int), .int], (some (.array .int))⟩) rfl) rfl (by show 2 * 0 + _ ≤ _; exact Nat.le_of_eq rfl) (hb hby d5_8) (fun _ _ => ⟨rfl, e3, (by decide : 0 + 1 ≤ _), (by decide : 0 + 4 ≤ _)⟩)
  dsimp only [Pt.U, Pt.locs, Pt.cells, Pt.slots] at X5 l5 y5 z5 st5 hQ5
  replace y5 := y5.symm; replace z5 := z5.symm; subst l5 y5 z5
  obtain ⟨rfl, Nq5, Kq5, jb, XB, V_xb, len_xb⟩ := hQ5
  have N5 := Fr.app N0 Nq5
  have K5 : own_R p e below (T5.setTop (mkF m 11 #[rv ob, iv p1] [(.ref h0.size), (.ref ob)])) S0 := fun t hk => K4 t (st5 _ hk)
  obtain ⟨xb, hxb⟩ : ∃ z, z = h0.size := ⟨_, rfl⟩
  rw [← hxb] at V_xb
  have K6 : own_R p e below (T5.setTop (mkF m 11 #[rv ob, iv p1] [(.ref xb), (.ref ob)])) S0 := by rw [hxb]; exact K5
  have o_xb : @LT.lt Nat _ ob xb := by rw [hxb]; exact own_exlt E_1
  have E_7 := E_1.keep Kq5
  have F_bounded_8 := F_bounded_1.keep Kq5 nin0
  have F_flip_9 := F_flip_1.keep Kq5 nin0
  have F_values_10 := F_values_1.keep Kq5 nin0
  have F_count_11 := F_count_1.keep Kq5 nin0
  have F_bounds_12 := F_bounds_1.keep Kq5 nin0
  have F_lowest_13 := F_lowest_1.keep Kq5 nin0
  have F_highest_14 := F_highest_1.keep Kq5 nin0
  have F_firstStep_15 := F_firstStep_1.keep Kq5 nin0
  have F_magnitudes_16 := F_magnitudes_1.keep Kq5 nin0
  have F_steps_17 := F_steps_1.keep Kq5 nin0
  have V_va_18 := V_va_1.keep Kq5 nin0
  have V_vl_19 := V_vl_1.keep Kq5 nin0
  have V_vh_20 := V_vh_1.keep Kq5 nin0
  have V_vf_21 := V_vf_1.keep Kq5 nin0
  have V_vg_22 := V_vg_1.keep Kq5 nin0
  have V_vs_23 := V_vs_1.keep Kq5 nin0
  have Kp24 := (Keep.refl h0 [ob]).trans Kq5 all0
  obtain ⟨T25, h25, X25, e25, W25, st25⟩ := putF X5 hx hZ hown (host := "") (Or.inl (hw _ (List.mem_of_getElem? (i := 21) rfl))) Via.refl rfl F_bounds_12 E_7 (Or.inl (hw _ (List.mem_of_getElem? (i := 22) rfl))) (hw _ (List.mem_of_getElem? (i := 3) rfl)) (ty := (.array .int)) (by decide) rfl rfl (g := (mkF m 11 #[rv ob, iv p1] [(.ref xb), (.ref ob)])) rfl rfl (hb hby d5_11)
  have K25 : own_R p e below (T25.setTop (mkF m 14 #[rv ob, iv p1] [])) S0 := fun t hk => K6 t (st25 _ hk)
  have E_26 := E_7.wr W25
  have F_bounded_27 := F_bounded_8.other W25 (Or.inr (slot_ne (Or.inr (hw _ (List.mem_of_getElem? (i := 20) rfl))) (Or.inl (hw _ (List.mem_of_getElem? (i := 22) rfl))) (by decide) (t := .boolean) (t' := (.array .int)) (by decide) (by decide)))
  have F_flip_28 := F_flip_9.other W25 (Or.inr (slot_ne (Or.inr (hw _ (List.mem_of_getElem? (i := 18) rfl))) (Or.inl (hw _ (List.mem_of_getElem? (i := 22) rfl))) (by decide) (t := .long) (t' := (.array .int)) (by decide) (by decide)))
  have F_values_29 := F_values_10.other W25 (Or.inr (slot_ne (Or.inl (hw _ (List.mem_of_getElem? (i := 67) rfl))) (Or.inl (hw _ (List.mem_of_getElem? (i := 22) rfl))) (by decide) (t := (.array .long)) (t' := (.array .int)) (by decide) (by decide)))
  have F_count_30 := F_count_11.other W25 (Or.inr (slot_ne (Or.inl (hw _ (List.mem_of_getElem? (i := 74) rfl))) (Or.inl (hw _ (List.mem_of_getElem? (i := 22) rfl))) (by decide) (t := .int) (t' := (.array .int)) (by decide) (by decide)))
  have F_bounds_31 := F_bounds_12.same W25
  have F_lowest_32 := F_lowest_13.other W25 (Or.inr (slot_ne (Or.inl (hw _ (List.mem_of_getElem? (i := 24) rfl))) (Or.inl (hw _ (List.mem_of_getElem? (i := 22) rfl))) (by decide) (t := (.array .long)) (t' := (.array .int)) (by decide) (by decide)))
  have F_highest_33 := F_highest_14.other W25 (Or.inr (slot_ne (Or.inl (hw _ (List.mem_of_getElem? (i := 26) rfl))) (Or.inl (hw _ (List.mem_of_getElem? (i := 22) rfl))) (by decide) (t := (.array .long)) (t' := (.array .int)) (by decide) (by decide)))
  have F_firstStep_34 := F_firstStep_15.other W25 (Or.inr (slot_ne (Or.inl (hw _ (List.mem_of_getElem? (i := 28) rfl))) (Or.inl (hw _ (List.mem_of_getElem? (i := 22) rfl))) (by decide) (t := (.array .long)) (t' := (.array .int)) (by decide) (by decide)))
  have F_magnitudes_35 := F_magnitudes_16.other W25 (Or.inr (slot_ne (Or.inl (hw _ (List.mem_of_getElem? (i := 30) rfl))) (Or.inl (hw _ (List.mem_of_getElem? (i := 22) rfl))) (by decide) (t := (.array .long)) (t' := (.array .int)) (by decide) (by decide)))
  have F_steps_36 := F_steps_17.other W25 (Or.inr (slot_ne (Or.inl (hw _ (List.mem_of_getElem? (i := 33) rfl))) (Or.inl (hw _ (List.mem_of_getElem? (i := 22) rfl))) (by decide) (t := (.array .byte)) (t' := (.array .int)) (by decide) (by decide)))
  have V_va_37 := V_va_18.other W25 (own_neN (by omega))
  have V_vl_38 := V_vl_19.other W25 (own_neN (by omega))
  have V_vh_39 := V_vh_20.other W25 (own_neN (by omega))
  have V_vf_40 := V_vf_21.other W25 (own_neN (by omega))
  have V_vg_41 := V_vg_22.other W25 (own_neN (by omega))
  have V_vs_42 := V_vs_23.other W25 (own_neN (by omega))
  have V_xb_43 := V_xb.other W25 (own_neN (by omega))
  have Kp44 := Kp24.wr W25 (Or.inl (List.mem_of_getElem? (i := 0) rfl))
  have N25 := Fr.snoc X25 N5 (by omega : n0 ≤ ob)
  have K45 : own_R p e below (T25.setTop (mkF m 16 #[rv ob, iv p1] [(.ref ob), (.ref ob)])) S0 := by
    intro t hk
    refine K25 t ?_
    show Steps p.tables e below (T25.setTop (mkF m 14 #[rv ob, iv p1] [])) _
    refine XS.aloadN X25.here hx rfl (hb hby d5_14) rfl rfl ?_
    refine XS.aloadN X25.here hx rfl (hb hby d5_15) rfl rfl ?_
    exact hk
  obtain ⟨T46, X46, e46, st46⟩ := getF X25 hx hZ hown (host := "") (Or.inl (hw _ (List.mem_of_getElem? (i := 23) rfl))) Via.refl e25 F_lowest_32 (g := (mkF m 16 #[rv ob, iv p1] [(.ref ob), (.ref ob)])) rfl rfl (hb hby d5_16)
  have K46 : own_R p e below (T46.setTop (mkF m 19 #[rv ob, iv p1] [(.ref vl), (.ref ob)])) S0 := fun t hk => K45 t (st46 _ hk)
  have K47 : own_R p e below (T46.setTop (mkF m 20 #[rv ob, iv p1] [(.int p1), (.ref vl), (.ref ob)])) S0 := by
    intro t hk
    refine K46 t ?_
    show Steps p.tables e below (T46.setTop (mkF m 19 #[rv ob, iv p1] [(.ref vl), (.ref ob)])) _
    refine XS.iloadN X46.here hx rfl (hb hby d5_19) rfl ?_
    exact hk
  obtain ⟨_, _, ⟨T48, L48, k48, n48⟩, -, X48, ⟨Lc48, hQ48, l48, y48, z48⟩, st48⟩ := Jvm.LawKit.callS X46 hx (y := (⟨"java/util/Arrays", "copyOf", "([JI)[J"⟩ : MethodName)) hown (mvT hZ (hw _ (List.mem_of_getElem? (i := 55) rfl))) (mvT hZ (hw _ (List.mem_of_getElem? (i := 56) rfl))) (mvT hZ (hw _ (List.mem_of_getElem? (i := 45) rfl))) (mvT hZ (hw _ (List.mem_of_getElem? (i := 57) rfl))) (by decide) (backOf (W := 1) (rm8 l Z a0 hw [] vl p1 kl nn VL h25 n0 (Nat.le_trans Z0 Kp44.1) V_vl_38 (by omega)) hZ (hw _ (List.mem_of_getElem? (i := 57) rfl)) (hw _ (List.mem_of_getElem? (i := 45) rfl)) (by decide) (by decide)) (g := (mkF m 20 #[rv ob, iv p1] [(.int p1), (.ref vl), (.ref ob)])) rfl (by rw [hml]; rfl) (argsL := [(.ref vl), (.int p1)]) (rest := [(.ref ob)]) (lenOf (by decide +kernel : parseMethodDescriptor "([JI)[J" = some ⟨[(.array .long), .int], (some (.array .long))⟩) rfl) rfl (by show 2 * 0 + _ ≤ _; exact Nat.le_of_eq rfl) (hb hby d5_20) (fun _ _ => ⟨rfl, e46, (by decide : 0 + 1 + 1 ≤ _), (by decide : 0 + 4 + 4 ≤ _)⟩)
  dsimp only [Pt.U, Pt.locs, Pt.cells, Pt.slots] at X48 l48 y48 z48 st48 hQ48
  replace y48 := y48.symm; replace z48 := z48.symm; subst l48 y48 z48
  obtain ⟨rfl, Nq48, Kq48, jl, XL, V_xl, len_xl⟩ := hQ48
  have N48 := Fr.app N25 Nq48
  have K48 : own_R p e below (T48.setTop (mkF m 23 #[rv ob, iv p1] [(.ref h25.size), (.ref ob)])) S0 := fun t hk => K47 t (st48 _ hk)
  obtain ⟨xl, hxl⟩ : ∃ z, z = h25.size := ⟨_, rfl⟩
  rw [← hxl] at V_xl
  have K49 : own_R p e below (T48.setTop (mkF m 23 #[rv ob, iv p1] [(.ref xl), (.ref ob)])) S0 := by rw [hxl]; exact K48
  have o_xl : @LT.lt Nat _ xb xl := by rw [hxl]; exact V_xb_43.lt
  have E_50 := E_26.keep Kq48
  have F_bounded_51 := F_bounded_27.keep Kq48 nin0
  have F_flip_52 := F_flip_28.keep Kq48 nin0
  have F_values_53 := F_values_29.keep Kq48 nin0
  have F_count_54 := F_count_30.keep Kq48 nin0
  have F_bounds_55 := F_bounds_31.keep Kq48 nin0
  have F_lowest_56 := F_lowest_32.keep Kq48 nin0
  have F_highest_57 := F_highest_33.keep Kq48 nin0
  have F_firstStep_58 := F_firstStep_34.keep Kq48 nin0
  have F_magnitudes_59 := F_magnitudes_35.keep Kq48 nin0
  have F_steps_60 := F_steps_36.keep Kq48 nin0
  have V_va_61 := V_va_37.keep Kq48 nin0
  have V_vh_62 := V_vh_39.keep Kq48 nin0
  have V_vf_63 := V_vf_40.keep Kq48 nin0
  have V_vg_64 := V_vg_41.keep Kq48 nin0
  have V_vs_65 := V_vs_42.keep Kq48 nin0
  have V_xb_66 := V_xb_43.keep Kq48 nin0
  have Kp67 := Kp44.trans Kq48 all0
  obtain ⟨T68, h68, X68, e68, W68, st68⟩ := putF X48 hx hZ hown (host := "") (Or.inl (hw _ (List.mem_of_getElem? (i := 23) rfl))) Via.refl rfl F_lowest_56 E_50 (Or.inl (hw _ (List.mem_of_getElem? (i := 24) rfl))) (hw _ (List.mem_of_getElem? (i := 3) rfl)) (ty := (.array .long)) (by decide) rfl rfl (g := (mkF m 23 #[rv ob, iv p1] [(.ref xl), (.ref ob)])) rfl rfl (hb hby d5_23)
  have K68 : own_R p e below (T68.setTop (mkF m 26 #[rv ob, iv p1] [])) S0 := fun t hk => K49 t (st68 _ hk)
  have E_69 := E_50.wr W68
  have F_bounded_70 := F_bounded_51.other W68 (Or.inr (slot_ne (Or.inr (hw _ (List.mem_of_getElem? (i := 20) rfl))) (Or.inl (hw _ (List.mem_of_getElem? (i := 24) rfl))) (by decide) (t := .boolean) (t' := (.array .long)) (by decide) (by decide)))
  have F_flip_71 := F_flip_52.other W68 (Or.inr (slot_ne (Or.inr (hw _ (List.mem_of_getElem? (i := 18) rfl))) (Or.inl (hw _ (List.mem_of_getElem? (i := 24) rfl))) (by decide) (t := .long) (t' := (.array .long)) (by decide) (by decide)))
  have F_values_72 := F_values_53.other W68 (Or.inr (slot_ne (Or.inl (hw _ (List.mem_of_getElem? (i := 67) rfl))) (Or.inl (hw _ (List.mem_of_getElem? (i := 24) rfl))) (by decide) (t := (.array .long)) (t' := (.array .long)) (by decide) (by decide)))
  have F_count_73 := F_count_54.other W68 (Or.inr (slot_ne (Or.inl (hw _ (List.mem_of_getElem? (i := 74) rfl))) (Or.inl (hw _ (List.mem_of_getElem? (i := 24) rfl))) (by decide) (t := .int) (t' := (.array .long)) (by decide) (by decide)))
  have F_bounds_74 := F_bounds_55.other W68 (Or.inr (slot_ne (Or.inl (hw _ (List.mem_of_getElem? (i := 22) rfl))) (Or.inl (hw _ (List.mem_of_getElem? (i := 24) rfl))) (by decide) (t := (.array .int)) (t' := (.array .long)) (by decide) (by decide)))
  have F_lowest_75 := F_lowest_56.same W68
  have F_highest_76 := F_highest_57.other W68 (Or.inr (slot_ne (Or.inl (hw _ (List.mem_of_getElem? (i := 26) rfl))) (Or.inl (hw _ (List.mem_of_getElem? (i := 24) rfl))) (by decide) (t := (.array .long)) (t' := (.array .long)) (by decide) (by decide)))
  have F_firstStep_77 := F_firstStep_58.other W68 (Or.inr (slot_ne (Or.inl (hw _ (List.mem_of_getElem? (i := 28) rfl))) (Or.inl (hw _ (List.mem_of_getElem? (i := 24) rfl))) (by decide) (t := (.array .long)) (t' := (.array .long)) (by decide) (by decide)))
  have F_magnitudes_78 := F_magnitudes_59.other W68 (Or.inr (slot_ne (Or.inl (hw _ (List.mem_of_getElem? (i := 30) rfl))) (Or.inl (hw _ (List.mem_of_getElem? (i := 24) rfl))) (by decide) (t := (.array .long)) (t' := (.array .long)) (by decide) (by decide)))
  have F_steps_79 := F_steps_60.other W68 (Or.inr (slot_ne (Or.inl (hw _ (List.mem_of_getElem? (i := 33) rfl))) (Or.inl (hw _ (List.mem_of_getElem? (i := 24) rfl))) (by decide) (t := (.array .byte)) (t' := (.array .long)) (by decide) (by decide)))
  have V_va_80 := V_va_61.other W68 (own_neN (by omega))
  have V_vh_81 := V_vh_62.other W68 (own_neN (by omega))
  have V_vf_82 := V_vf_63.other W68 (own_neN (by omega))
  have V_vg_83 := V_vg_64.other W68 (own_neN (by omega))
  have V_vs_84 := V_vs_65.other W68 (own_neN (by omega))
  have V_xb_85 := V_xb_66.other W68 (own_neN (by omega))
  have V_xl_86 := V_xl.other W68 (own_neN (by omega))
  have Kp87 := Kp67.wr W68 (Or.inl (List.mem_of_getElem? (i := 0) rfl))
  have N68 := Fr.snoc X68 N48 (by omega : n0 ≤ ob)
  have K88 : own_R p e below (T68.setTop (mkF m 28 #[rv ob, iv p1] [(.ref ob), (.ref ob)])) S0 := by
    intro t hk
    refine K68 t ?_
    show Steps p.tables e below (T68.setTop (mkF m 26 #[rv ob, iv p1] [])) _
    refine XS.aloadN X68.here hx rfl (hb hby d5_26) rfl rfl ?_
    refine XS.aloadN X68.here hx rfl (hb hby d5_27) rfl rfl ?_
    exact hk
  obtain ⟨T89, X89, e89, st89⟩ := getF X68 hx hZ hown (host := "") (Or.inl (hw _ (List.mem_of_getElem? (i := 25) rfl))) Via.refl e68 F_highest_76 (g := (mkF m 28 #[rv ob, iv p1] [(.ref ob), (.ref ob)])) rfl rfl (hb hby d5_28)
  have K89 : own_R p e below (T89.setTop (mkF m 31 #[rv ob, iv p1] [(.ref vh), (.ref ob)])) S0 := fun t hk => K88 t (st89 _ hk)
  have K90 : own_R p e below (T89.setTop (mkF m 32 #[rv ob, iv p1] [(.int p1), (.ref vh), (.ref ob)])) S0 := by
    intro t hk
    refine K89 t ?_
    show Steps p.tables e below (T89.setTop (mkF m 31 #[rv ob, iv p1] [(.ref vh), (.ref ob)])) _
    refine XS.iloadN X89.here hx rfl (hb hby d5_31) rfl ?_
    exact hk
  obtain ⟨_, _, ⟨T91, L91, k91, n91⟩, -, X91, ⟨Lc91, hQ91, l91, y91, z91⟩, st91⟩ := Jvm.LawKit.callS X89 hx (y := (⟨"java/util/Arrays", "copyOf", "([JI)[J"⟩ : MethodName)) hown (mvT hZ (hw _ (List.mem_of_getElem? (i := 55) rfl))) (mvT hZ (hw _ (List.mem_of_getElem? (i := 56) rfl))) (mvT hZ (hw _ (List.mem_of_getElem? (i := 45) rfl))) (mvT hZ (hw _ (List.mem_of_getElem? (i := 57) rfl))) (by decide) (backOf (W := 1) (rm8 l Z a0 hw [] vh p1 kh nn VH h68 n0 (Nat.le_trans Z0 Kp87.1) V_vh_81 (by omega)) hZ (hw _ (List.mem_of_getElem? (i := 57) rfl)) (hw _ (List.mem_of_getElem? (i := 45) rfl)) (by decide) (by decide)) (g := (mkF m 32 #[rv ob, iv p1] [(.int p1), (.ref vh), (.ref ob)])) rfl (by rw [hml]; rfl) (argsL := [(.ref vh), (.int p1)]) (rest := [(.ref ob)]) (lenOf (by decide +kernel : parseMethodDescriptor "([JI)[J" = some ⟨[(.array .long), .int], (some (.array .long))⟩) rfl) rfl (by show 2 * 0 + _ ≤ _; exact Nat.le_of_eq rfl) (hb hby d5_32) (fun _ _ => ⟨rfl, e89, (by decide : 0 + 1 + 1 + 1 ≤ _), (by decide : 0 + 4 + 4 + 4 ≤ _)⟩)
  dsimp only [Pt.U, Pt.locs, Pt.cells, Pt.slots] at X91 l91 y91 z91 st91 hQ91
  replace y91 := y91.symm; replace z91 := z91.symm; subst l91 y91 z91
  obtain ⟨rfl, Nq91, Kq91, jh, XH, V_xh, len_xh⟩ := hQ91
  have N91 := Fr.app N68 Nq91
  have K91 : own_R p e below (T91.setTop (mkF m 35 #[rv ob, iv p1] [(.ref h68.size), (.ref ob)])) S0 := fun t hk => K90 t (st91 _ hk)
  obtain ⟨xh, hxh⟩ : ∃ z, z = h68.size := ⟨_, rfl⟩
  rw [← hxh] at V_xh
  have K92 : own_R p e below (T91.setTop (mkF m 35 #[rv ob, iv p1] [(.ref xh), (.ref ob)])) S0 := by rw [hxh]; exact K91
  have o_xh : @LT.lt Nat _ xl xh := by rw [hxh]; exact V_xl_86.lt
  have E_93 := E_69.keep Kq91
  have F_bounded_94 := F_bounded_70.keep Kq91 nin0
  have F_flip_95 := F_flip_71.keep Kq91 nin0
  have F_values_96 := F_values_72.keep Kq91 nin0
  have F_count_97 := F_count_73.keep Kq91 nin0
  have F_bounds_98 := F_bounds_74.keep Kq91 nin0
  have F_lowest_99 := F_lowest_75.keep Kq91 nin0
  have F_highest_100 := F_highest_76.keep Kq91 nin0
  have F_firstStep_101 := F_firstStep_77.keep Kq91 nin0
  have F_magnitudes_102 := F_magnitudes_78.keep Kq91 nin0
  have F_steps_103 := F_steps_79.keep Kq91 nin0
  have V_va_104 := V_va_80.keep Kq91 nin0
  have V_vf_105 := V_vf_82.keep Kq91 nin0
  have V_vg_106 := V_vg_83.keep Kq91 nin0
  have V_vs_107 := V_vs_84.keep Kq91 nin0
  have V_xb_108 := V_xb_85.keep Kq91 nin0
  have V_xl_109 := V_xl_86.keep Kq91 nin0
  have Kp110 := Kp87.trans Kq91 all0
  obtain ⟨T111, h111, X111, e111, W111, st111⟩ := putF X91 hx hZ hown (host := "") (Or.inl (hw _ (List.mem_of_getElem? (i := 25) rfl))) Via.refl rfl F_highest_100 E_93 (Or.inl (hw _ (List.mem_of_getElem? (i := 26) rfl))) (hw _ (List.mem_of_getElem? (i := 3) rfl)) (ty := (.array .long)) (by decide) rfl rfl (g := (mkF m 35 #[rv ob, iv p1] [(.ref xh), (.ref ob)])) rfl rfl (hb hby d5_35)
  have K111 : own_R p e below (T111.setTop (mkF m 38 #[rv ob, iv p1] [])) S0 := fun t hk => K92 t (st111 _ hk)
  have E_112 := E_93.wr W111
  have F_bounded_113 := F_bounded_94.other W111 (Or.inr (slot_ne (Or.inr (hw _ (List.mem_of_getElem? (i := 20) rfl))) (Or.inl (hw _ (List.mem_of_getElem? (i := 26) rfl))) (by decide) (t := .boolean) (t' := (.array .long)) (by decide) (by decide)))
  have F_flip_114 := F_flip_95.other W111 (Or.inr (slot_ne (Or.inr (hw _ (List.mem_of_getElem? (i := 18) rfl))) (Or.inl (hw _ (List.mem_of_getElem? (i := 26) rfl))) (by decide) (t := .long) (t' := (.array .long)) (by decide) (by decide)))
  have F_values_115 := F_values_96.other W111 (Or.inr (slot_ne (Or.inl (hw _ (List.mem_of_getElem? (i := 67) rfl))) (Or.inl (hw _ (List.mem_of_getElem? (i := 26) rfl))) (by decide) (t := (.array .long)) (t' := (.array .long)) (by decide) (by decide)))
  have F_count_116 := F_count_97.other W111 (Or.inr (slot_ne (Or.inl (hw _ (List.mem_of_getElem? (i := 74) rfl))) (Or.inl (hw _ (List.mem_of_getElem? (i := 26) rfl))) (by decide) (t := .int) (t' := (.array .long)) (by decide) (by decide)))
  have F_bounds_117 := F_bounds_98.other W111 (Or.inr (slot_ne (Or.inl (hw _ (List.mem_of_getElem? (i := 22) rfl))) (Or.inl (hw _ (List.mem_of_getElem? (i := 26) rfl))) (by decide) (t := (.array .int)) (t' := (.array .long)) (by decide) (by decide)))
  have F_lowest_118 := F_lowest_99.other W111 (Or.inr (slot_ne (Or.inl (hw _ (List.mem_of_getElem? (i := 24) rfl))) (Or.inl (hw _ (List.mem_of_getElem? (i := 26) rfl))) (by decide) (t := (.array .long)) (t' := (.array .long)) (by decide) (by decide)))
  have F_highest_119 := F_highest_100.same W111
  have F_firstStep_120 := F_firstStep_101.other W111 (Or.inr (slot_ne (Or.inl (hw _ (List.mem_of_getElem? (i := 28) rfl))) (Or.inl (hw _ (List.mem_of_getElem? (i := 26) rfl))) (by decide) (t := (.array .long)) (t' := (.array .long)) (by decide) (by decide)))
  have F_magnitudes_121 := F_magnitudes_102.other W111 (Or.inr (slot_ne (Or.inl (hw _ (List.mem_of_getElem? (i := 30) rfl))) (Or.inl (hw _ (List.mem_of_getElem? (i := 26) rfl))) (by decide) (t := (.array .long)) (t' := (.array .long)) (by decide) (by decide)))
  have F_steps_122 := F_steps_103.other W111 (Or.inr (slot_ne (Or.inl (hw _ (List.mem_of_getElem? (i := 33) rfl))) (Or.inl (hw _ (List.mem_of_getElem? (i := 26) rfl))) (by decide) (t := (.array .byte)) (t' := (.array .long)) (by decide) (by decide)))
  have V_va_123 := V_va_104.other W111 (own_neN (by omega))
  have V_vf_124 := V_vf_105.other W111 (own_neN (by omega))
  have V_vg_125 := V_vg_106.other W111 (own_neN (by omega))
  have V_vs_126 := V_vs_107.other W111 (own_neN (by omega))
  have V_xb_127 := V_xb_108.other W111 (own_neN (by omega))
  have V_xl_128 := V_xl_109.other W111 (own_neN (by omega))
  have V_xh_129 := V_xh.other W111 (own_neN (by omega))
  have Kp130 := Kp110.wr W111 (Or.inl (List.mem_of_getElem? (i := 0) rfl))
  have N111 := Fr.snoc X111 N91 (by omega : n0 ≤ ob)
  have K131 : own_R p e below (T111.setTop (mkF m 40 #[rv ob, iv p1] [(.ref ob), (.ref ob)])) S0 := by
    intro t hk
    refine K111 t ?_
    show Steps p.tables e below (T111.setTop (mkF m 38 #[rv ob, iv p1] [])) _
    refine XS.aloadN X111.here hx rfl (hb hby d5_38) rfl rfl ?_
    refine XS.aloadN X111.here hx rfl (hb hby d5_39) rfl rfl ?_
    exact hk
  obtain ⟨T132, X132, e132, st132⟩ := getF X111 hx hZ hown (host := "") (Or.inl (hw _ (List.mem_of_getElem? (i := 27) rfl))) Via.refl e111 F_firstStep_120 (g := (mkF m 40 #[rv ob, iv p1] [(.ref ob), (.ref ob)])) rfl rfl (hb hby d5_40)
  have K132 : own_R p e below (T132.setTop (mkF m 43 #[rv ob, iv p1] [(.ref vf), (.ref ob)])) S0 := fun t hk => K131 t (st132 _ hk)
  have K133 : own_R p e below (T132.setTop (mkF m 44 #[rv ob, iv p1] [(.int p1), (.ref vf), (.ref ob)])) S0 := by
    intro t hk
    refine K132 t ?_
    show Steps p.tables e below (T132.setTop (mkF m 43 #[rv ob, iv p1] [(.ref vf), (.ref ob)])) _
    refine XS.iloadN X132.here hx rfl (hb hby d5_43) rfl ?_
    exact hk
  obtain ⟨_, _, ⟨T134, L134, k134, n134⟩, -, X134, ⟨Lc134, hQ134, l134, y134, z134⟩, st134⟩ := Jvm.LawKit.callS X132 hx (y := (⟨"java/util/Arrays", "copyOf", "([JI)[J"⟩ : MethodName)) hown (mvT hZ (hw _ (List.mem_of_getElem? (i := 55) rfl))) (mvT hZ (hw _ (List.mem_of_getElem? (i := 56) rfl))) (mvT hZ (hw _ (List.mem_of_getElem? (i := 45) rfl))) (mvT hZ (hw _ (List.mem_of_getElem? (i := 57) rfl))) (by decide) (backOf (W := 1) (rm8 l Z a0 hw [] vf p1 kf nn VF h111 n0 (Nat.le_trans Z0 Kp130.1) V_vf_124 (by omega)) hZ (hw _ (List.mem_of_getElem? (i := 57) rfl)) (hw _ (List.mem_of_getElem? (i := 45) rfl)) (by decide) (by decide)) (g := (mkF m 44 #[rv ob, iv p1] [(.int p1), (.ref vf), (.ref ob)])) rfl (by rw [hml]; rfl) (argsL := [(.ref vf), (.int p1)]) (rest := [(.ref ob)]) (lenOf (by decide +kernel : parseMethodDescriptor "([JI)[J" = some ⟨[(.array .long), .int], (some (.array .long))⟩) rfl) rfl (by show 2 * 0 + _ ≤ _; exact Nat.le_of_eq rfl) (hb hby d5_44) (fun _ _ => ⟨rfl, e132, (by decide : 0 + 1 + 1 + 1 + 1 ≤ _), (by decide : 0 + 4 + 4 + 4 + 4 ≤ _)⟩)
  dsimp only [Pt.U, Pt.locs, Pt.cells, Pt.slots] at X134 l134 y134 z134 st134 hQ134
  replace y134 := y134.symm; replace z134 := z134.symm; subst l134 y134 z134
  obtain ⟨rfl, Nq134, Kq134, jf, XF, V_xf, len_xf⟩ := hQ134
  have N134 := Fr.app N111 Nq134
  have K134 : own_R p e below (T134.setTop (mkF m 47 #[rv ob, iv p1] [(.ref h111.size), (.ref ob)])) S0 := fun t hk => K133 t (st134 _ hk)
  obtain ⟨xf, hxf⟩ : ∃ z, z = h111.size := ⟨_, rfl⟩
  rw [← hxf] at V_xf
  have K135 : own_R p e below (T134.setTop (mkF m 47 #[rv ob, iv p1] [(.ref xf), (.ref ob)])) S0 := by rw [hxf]; exact K134
  have o_xf : @LT.lt Nat _ xh xf := by rw [hxf]; exact V_xh_129.lt
  have E_136 := E_112.keep Kq134
  have F_bounded_137 := F_bounded_113.keep Kq134 nin0
  have F_flip_138 := F_flip_114.keep Kq134 nin0
  have F_values_139 := F_values_115.keep Kq134 nin0
  have F_count_140 := F_count_116.keep Kq134 nin0
  have F_bounds_141 := F_bounds_117.keep Kq134 nin0
  have F_lowest_142 := F_lowest_118.keep Kq134 nin0
  have F_highest_143 := F_highest_119.keep Kq134 nin0
  have F_firstStep_144 := F_firstStep_120.keep Kq134 nin0
  have F_magnitudes_145 := F_magnitudes_121.keep Kq134 nin0
  have F_steps_146 := F_steps_122.keep Kq134 nin0
  have V_va_147 := V_va_123.keep Kq134 nin0
  have V_vg_148 := V_vg_125.keep Kq134 nin0
  have V_vs_149 := V_vs_126.keep Kq134 nin0
  have V_xb_150 := V_xb_127.keep Kq134 nin0
  have V_xl_151 := V_xl_128.keep Kq134 nin0
  have V_xh_152 := V_xh_129.keep Kq134 nin0
  have Kp153 := Kp130.trans Kq134 all0
  obtain ⟨T154, h154, X154, e154, W154, st154⟩ := putF X134 hx hZ hown (host := "") (Or.inl (hw _ (List.mem_of_getElem? (i := 27) rfl))) Via.refl rfl F_firstStep_144 E_136 (Or.inl (hw _ (List.mem_of_getElem? (i := 28) rfl))) (hw _ (List.mem_of_getElem? (i := 3) rfl)) (ty := (.array .long)) (by decide) rfl rfl (g := (mkF m 47 #[rv ob, iv p1] [(.ref xf), (.ref ob)])) rfl rfl (hb hby d5_47)
  have K154 : own_R p e below (T154.setTop (mkF m 50 #[rv ob, iv p1] [])) S0 := fun t hk => K135 t (st154 _ hk)
  have E_155 := E_136.wr W154
  have F_bounded_156 := F_bounded_137.other W154 (Or.inr (slot_ne (Or.inr (hw _ (List.mem_of_getElem? (i := 20) rfl))) (Or.inl (hw _ (List.mem_of_getElem? (i := 28) rfl))) (by decide) (t := .boolean) (t' := (.array .long)) (by decide) (by decide)))
  have F_flip_157 := F_flip_138.other W154 (Or.inr (slot_ne (Or.inr (hw _ (List.mem_of_getElem? (i := 18) rfl))) (Or.inl (hw _ (List.mem_of_getElem? (i := 28) rfl))) (by decide) (t := .long) (t' := (.array .long)) (by decide) (by decide)))
  have F_values_158 := F_values_139.other W154 (Or.inr (slot_ne (Or.inl (hw _ (List.mem_of_getElem? (i := 67) rfl))) (Or.inl (hw _ (List.mem_of_getElem? (i := 28) rfl))) (by decide) (t := (.array .long)) (t' := (.array .long)) (by decide) (by decide)))
  have F_count_159 := F_count_140.other W154 (Or.inr (slot_ne (Or.inl (hw _ (List.mem_of_getElem? (i := 74) rfl))) (Or.inl (hw _ (List.mem_of_getElem? (i := 28) rfl))) (by decide) (t := .int) (t' := (.array .long)) (by decide) (by decide)))
  have F_bounds_160 := F_bounds_141.other W154 (Or.inr (slot_ne (Or.inl (hw _ (List.mem_of_getElem? (i := 22) rfl))) (Or.inl (hw _ (List.mem_of_getElem? (i := 28) rfl))) (by decide) (t := (.array .int)) (t' := (.array .long)) (by decide) (by decide)))
  have F_lowest_161 := F_lowest_142.other W154 (Or.inr (slot_ne (Or.inl (hw _ (List.mem_of_getElem? (i := 24) rfl))) (Or.inl (hw _ (List.mem_of_getElem? (i := 28) rfl))) (by decide) (t := (.array .long)) (t' := (.array .long)) (by decide) (by decide)))
  have F_highest_162 := F_highest_143.other W154 (Or.inr (slot_ne (Or.inl (hw _ (List.mem_of_getElem? (i := 26) rfl))) (Or.inl (hw _ (List.mem_of_getElem? (i := 28) rfl))) (by decide) (t := (.array .long)) (t' := (.array .long)) (by decide) (by decide)))
  have F_firstStep_163 := F_firstStep_144.same W154
  have F_magnitudes_164 := F_magnitudes_145.other W154 (Or.inr (slot_ne (Or.inl (hw _ (List.mem_of_getElem? (i := 30) rfl))) (Or.inl (hw _ (List.mem_of_getElem? (i := 28) rfl))) (by decide) (t := (.array .long)) (t' := (.array .long)) (by decide) (by decide)))
  have F_steps_165 := F_steps_146.other W154 (Or.inr (slot_ne (Or.inl (hw _ (List.mem_of_getElem? (i := 33) rfl))) (Or.inl (hw _ (List.mem_of_getElem? (i := 28) rfl))) (by decide) (t := (.array .byte)) (t' := (.array .long)) (by decide) (by decide)))
  have V_va_166 := V_va_147.other W154 (own_neN (by omega))
  have V_vg_167 := V_vg_148.other W154 (own_neN (by omega))
  have V_vs_168 := V_vs_149.other W154 (own_neN (by omega))
  have V_xb_169 := V_xb_150.other W154 (own_neN (by omega))
  have V_xl_170 := V_xl_151.other W154 (own_neN (by omega))
  have V_xh_171 := V_xh_152.other W154 (own_neN (by omega))
  have V_xf_172 := V_xf.other W154 (own_neN (by omega))
  have Kp173 := Kp153.wr W154 (Or.inl (List.mem_of_getElem? (i := 0) rfl))
  have N154 := Fr.snoc X154 N134 (by omega : n0 ≤ ob)
  have K174 : own_R p e below (T154.setTop (mkF m 52 #[rv ob, iv p1] [(.ref ob), (.ref ob)])) S0 := by
    intro t hk
    refine K154 t ?_
    show Steps p.tables e below (T154.setTop (mkF m 50 #[rv ob, iv p1] [])) _
    refine XS.aloadN X154.here hx rfl (hb hby d5_50) rfl rfl ?_
    refine XS.aloadN X154.here hx rfl (hb hby d5_51) rfl rfl ?_
    exact hk
  obtain ⟨T175, X175, e175, st175⟩ := getF X154 hx hZ hown (host := "") (Or.inl (hw _ (List.mem_of_getElem? (i := 29) rfl))) Via.refl e154 F_magnitudes_164 (g := (mkF m 52 #[rv ob, iv p1] [(.ref ob), (.ref ob)])) rfl rfl (hb hby d5_52)
  have K175 : own_R p e below (T175.setTop (mkF m 55 #[rv ob, iv p1] [(.ref vg), (.ref ob)])) S0 := fun t hk => K174 t (st175 _ hk)
  have K176 : own_R p e below (T175.setTop (mkF m 56 #[rv ob, iv p1] [(.int p1), (.ref vg), (.ref ob)])) S0 := by
    intro t hk
    refine K175 t ?_
    show Steps p.tables e below (T175.setTop (mkF m 55 #[rv ob, iv p1] [(.ref vg), (.ref ob)])) _
    refine XS.iloadN X175.here hx rfl (hb hby d5_55) rfl ?_
    exact hk
  obtain ⟨_, _, ⟨T177, L177, k177, n177⟩, -, X177, ⟨Lc177, hQ177, l177, y177, z177⟩, st177⟩ := Jvm.LawKit.callS X175 hx (y := (⟨"java/util/Arrays", "copyOf", "([JI)[J"⟩ : MethodName)) hown (mvT hZ (hw _ (List.mem_of_getElem? (i := 55) rfl))) (mvT hZ (hw _ (List.mem_of_getElem? (i := 56) rfl))) (mvT hZ (hw _ (List.mem_of_getElem? (i := 45) rfl))) (mvT hZ (hw _ (List.mem_of_getElem? (i := 57) rfl))) (by decide) (backOf (W := 1) (rm8 l Z a0 hw [] vg p1 kg nn VG h154 n0 (Nat.le_trans Z0 Kp173.1) V_vg_167 (by omega)) hZ (hw _ (List.mem_of_getElem? (i := 57) rfl)) (hw _ (List.mem_of_getElem? (i := 45) rfl)) (by decide) (by decide)) (g := (mkF m 56 #[rv ob, iv p1] [(.int p1), (.ref vg), (.ref ob)])) rfl (by rw [hml]; rfl) (argsL := [(.ref vg), (.int p1)]) (rest := [(.ref ob)]) (lenOf (by decide +kernel : parseMethodDescriptor "([JI)[J" = some ⟨[(.array .long), .int], (some (.array .long))⟩) rfl) rfl (by show 2 * 0 + _ ≤ _; exact Nat.le_of_eq rfl) (hb hby d5_56) (fun _ _ => ⟨rfl, e175, (by decide : 0 + 1 + 1 + 1 + 1 + 1 ≤ _), (by decide : 0 + 4 + 4 + 4 + 4 + 4 ≤ _)⟩)
  dsimp only [Pt.U, Pt.locs, Pt.cells, Pt.slots] at X177 l177 y177 z177 st177 hQ177
  replace y177 := y177.symm; replace z177 := z177.symm; subst l177 y177 z177
  obtain ⟨rfl, Nq177, Kq177, jg, XG, V_xg, len_xg⟩ := hQ177
  have N177 := Fr.app N154 Nq177
  have K177 : own_R p e below (T177.setTop (mkF m 59 #[rv ob, iv p1] [(.ref h154.size), (.ref ob)])) S0 := fun t hk => K176 t (st177 _ hk)
  obtain ⟨xg, hxg⟩ : ∃ z, z = h154.size := ⟨_, rfl⟩
  rw [← hxg] at V_xg
  have K178 : own_R p e below (T177.setTop (mkF m 59 #[rv ob, iv p1] [(.ref xg), (.ref ob)])) S0 := by rw [hxg]; exact K177
  have o_xg : @LT.lt Nat _ xf xg := by rw [hxg]; exact V_xf_172.lt
  have E_179 := E_155.keep Kq177
  have F_bounded_180 := F_bounded_156.keep Kq177 nin0
  have F_flip_181 := F_flip_157.keep Kq177 nin0
  have F_values_182 := F_values_158.keep Kq177 nin0
  have F_count_183 := F_count_159.keep Kq177 nin0
  have F_bounds_184 := F_bounds_160.keep Kq177 nin0
  have F_lowest_185 := F_lowest_161.keep Kq177 nin0
  have F_highest_186 := F_highest_162.keep Kq177 nin0
  have F_firstStep_187 := F_firstStep_163.keep Kq177 nin0
  have F_magnitudes_188 := F_magnitudes_164.keep Kq177 nin0
  have F_steps_189 := F_steps_165.keep Kq177 nin0
  have V_va_190 := V_va_166.keep Kq177 nin0
  have V_vs_191 := V_vs_168.keep Kq177 nin0
  have V_xb_192 := V_xb_169.keep Kq177 nin0
  have V_xl_193 := V_xl_170.keep Kq177 nin0
  have V_xh_194 := V_xh_171.keep Kq177 nin0
  have V_xf_195 := V_xf_172.keep Kq177 nin0
  have Kp196 := Kp173.trans Kq177 all0
  obtain ⟨T197, h197, X197, e197, W197, st197⟩ := putF X177 hx hZ hown (host := "") (Or.inl (hw _ (List.mem_of_getElem? (i := 29) rfl))) Via.refl rfl F_magnitudes_188 E_179 (Or.inl (hw _ (List.mem_of_getElem? (i := 30) rfl))) (hw _ (List.mem_of_getElem? (i := 3) rfl)) (ty := (.array .long)) (by decide) rfl rfl (g := (mkF m 59 #[rv ob, iv p1] [(.ref xg), (.ref ob)])) rfl rfl (hb hby d5_59)
  have K197 : own_R p e below (T197.setTop (mkF m 62 #[rv ob, iv p1] [])) S0 := fun t hk => K178 t (st197 _ hk)
  have E_198 := E_179.wr W197
  have F_bounded_199 := F_bounded_180.other W197 (Or.inr (slot_ne (Or.inr (hw _ (List.mem_of_getElem? (i := 20) rfl))) (Or.inl (hw _ (List.mem_of_getElem? (i := 30) rfl))) (by decide) (t := .boolean) (t' := (.array .long)) (by decide) (by decide)))
  have F_flip_200 := F_flip_181.other W197 (Or.inr (slot_ne (Or.inr (hw _ (List.mem_of_getElem? (i := 18) rfl))) (Or.inl (hw _ (List.mem_of_getElem? (i := 30) rfl))) (by decide) (t := .long) (t' := (.array .long)) (by decide) (by decide)))
  have F_values_201 := F_values_182.other W197 (Or.inr (slot_ne (Or.inl (hw _ (List.mem_of_getElem? (i := 67) rfl))) (Or.inl (hw _ (List.mem_of_getElem? (i := 30) rfl))) (by decide) (t := (.array .long)) (t' := (.array .long)) (by decide) (by decide)))
  have F_count_202 := F_count_183.other W197 (Or.inr (slot_ne (Or.inl (hw _ (List.mem_of_getElem? (i := 74) rfl))) (Or.inl (hw _ (List.mem_of_getElem? (i := 30) rfl))) (by decide) (t := .int) (t' := (.array .long)) (by decide) (by decide)))
  have F_bounds_203 := F_bounds_184.other W197 (Or.inr (slot_ne (Or.inl (hw _ (List.mem_of_getElem? (i := 22) rfl))) (Or.inl (hw _ (List.mem_of_getElem? (i := 30) rfl))) (by decide) (t := (.array .int)) (t' := (.array .long)) (by decide) (by decide)))
  have F_lowest_204 := F_lowest_185.other W197 (Or.inr (slot_ne (Or.inl (hw _ (List.mem_of_getElem? (i := 24) rfl))) (Or.inl (hw _ (List.mem_of_getElem? (i := 30) rfl))) (by decide) (t := (.array .long)) (t' := (.array .long)) (by decide) (by decide)))
  have F_highest_205 := F_highest_186.other W197 (Or.inr (slot_ne (Or.inl (hw _ (List.mem_of_getElem? (i := 26) rfl))) (Or.inl (hw _ (List.mem_of_getElem? (i := 30) rfl))) (by decide) (t := (.array .long)) (t' := (.array .long)) (by decide) (by decide)))
  have F_firstStep_206 := F_firstStep_187.other W197 (Or.inr (slot_ne (Or.inl (hw _ (List.mem_of_getElem? (i := 28) rfl))) (Or.inl (hw _ (List.mem_of_getElem? (i := 30) rfl))) (by decide) (t := (.array .long)) (t' := (.array .long)) (by decide) (by decide)))
  have F_magnitudes_207 := F_magnitudes_188.same W197
  have F_steps_208 := F_steps_189.other W197 (Or.inr (slot_ne (Or.inl (hw _ (List.mem_of_getElem? (i := 33) rfl))) (Or.inl (hw _ (List.mem_of_getElem? (i := 30) rfl))) (by decide) (t := (.array .byte)) (t' := (.array .long)) (by decide) (by decide)))
  have V_va_209 := V_va_190.other W197 (own_neN (by omega))
  have V_vs_210 := V_vs_191.other W197 (own_neN (by omega))
  have V_xb_211 := V_xb_192.other W197 (own_neN (by omega))
  have V_xl_212 := V_xl_193.other W197 (own_neN (by omega))
  have V_xh_213 := V_xh_194.other W197 (own_neN (by omega))
  have V_xf_214 := V_xf_195.other W197 (own_neN (by omega))
  have V_xg_215 := V_xg.other W197 (own_neN (by omega))
  have Kp216 := Kp196.wr W197 (Or.inl (List.mem_of_getElem? (i := 0) rfl))
  have N197 := Fr.snoc X197 N177 (by omega : n0 ≤ ob)
  have K217 : own_R p e below (T197.setTop (mkF m 64 #[rv ob, iv p1] [(.ref ob), (.ref ob)])) S0 := by
    intro t hk
    refine K197 t ?_
    show Steps p.tables e below (T197.setTop (mkF m 62 #[rv ob, iv p1] [])) _
    refine XS.aloadN X197.here hx rfl (hb hby d5_62) rfl rfl ?_
    refine XS.aloadN X197.here hx rfl (hb hby d5_63) rfl rfl ?_
    exact hk
  obtain ⟨T218, X218, e218, st218⟩ := getF X197 hx hZ hown (host := "") (Or.inl (hw _ (List.mem_of_getElem? (i := 32) rfl))) Via.refl e197 F_steps_208 (g := (mkF m 64 #[rv ob, iv p1] [(.ref ob), (.ref ob)])) rfl rfl (hb hby d5_64)
  have K218 : own_R p e below (T218.setTop (mkF m 67 #[rv ob, iv p1] [(.ref vs), (.ref ob)])) S0 := fun t hk => K217 t (st218 _ hk)
  have K219 : own_R p e below (T218.setTop (mkF m 68 #[rv ob, iv p1] [(.int p1), (.ref vs), (.ref ob)])) S0 := by
    intro t hk
    refine K218 t ?_
    show Steps p.tables e below (T218.setTop (mkF m 67 #[rv ob, iv p1] [(.ref vs), (.ref ob)])) _
    refine XS.iloadN X218.here hx rfl (hb hby d5_67) rfl ?_
    exact hk
  obtain ⟨_, _, ⟨T220, L220, k220, n220⟩, -, X220, ⟨Lc220, hQ220, l220, y220, z220⟩, st220⟩ := Jvm.LawKit.callS X218 hx (y := (⟨"java/util/Arrays", "copyOf", "([BI)[B"⟩ : MethodName)) hown (mvT hZ (hw _ (List.mem_of_getElem? (i := 58) rfl))) (mvT hZ (hw _ (List.mem_of_getElem? (i := 59) rfl))) (mvT hZ (hw _ (List.mem_of_getElem? (i := 45) rfl))) (mvT hZ (hw _ (List.mem_of_getElem? (i := 60) rfl))) (by decide) (backOf (W := 1) (rm9 l Z a0 hw [] vs p1 ks nn VS h197 n0 (Nat.le_trans Z0 Kp216.1) V_vs_210 (by omega)) hZ (hw _ (List.mem_of_getElem? (i := 60) rfl)) (hw _ (List.mem_of_getElem? (i := 45) rfl)) (by decide) (by decide)) (g := (mkF m 68 #[rv ob, iv p1] [(.int p1), (.ref vs), (.ref ob)])) rfl (by rw [hml]; rfl) (argsL := [(.ref vs), (.int p1)]) (rest := [(.ref ob)]) (lenOf (by decide +kernel : parseMethodDescriptor "([BI)[B" = some ⟨[(.array .byte), .int], (some (.array .byte))⟩) rfl) rfl (by show 2 * 0 + _ ≤ _; exact Nat.le_of_eq rfl) (hb hby d5_68) (fun _ _ => ⟨rfl, e218, (by decide : 0 + 1 + 1 + 1 + 1 + 1 + 1 ≤ _), (by decide : 0 + 4 + 4 + 4 + 4 + 4 + 4 ≤ _)⟩)
  dsimp only [Pt.U, Pt.locs, Pt.cells, Pt.slots] at X220 l220 y220 z220 st220 hQ220
  replace y220 := y220.symm; replace z220 := z220.symm; subst l220 y220 z220
  obtain ⟨rfl, Nq220, Kq220, js, XS, V_xs, len_xs⟩ := hQ220
  have N220 := Fr.app N197 Nq220
  have K220 : own_R p e below (T220.setTop (mkF m 71 #[rv ob, iv p1] [(.ref h197.size), (.ref ob)])) S0 := fun t hk => K219 t (st220 _ hk)
  obtain ⟨xs, hxs⟩ : ∃ z, z = h197.size := ⟨_, rfl⟩
  rw [← hxs] at V_xs
  have K221 : own_R p e below (T220.setTop (mkF m 71 #[rv ob, iv p1] [(.ref xs), (.ref ob)])) S0 := by rw [hxs]; exact K220
  have o_xs : @LT.lt Nat _ xg xs := by rw [hxs]; exact V_xg_215.lt
  have E_222 := E_198.keep Kq220
  have F_bounded_223 := F_bounded_199.keep Kq220 nin0
  have F_flip_224 := F_flip_200.keep Kq220 nin0
  have F_values_225 := F_values_201.keep Kq220 nin0
  have F_count_226 := F_count_202.keep Kq220 nin0
  have F_bounds_227 := F_bounds_203.keep Kq220 nin0
  have F_lowest_228 := F_lowest_204.keep Kq220 nin0
  have F_highest_229 := F_highest_205.keep Kq220 nin0
  have F_firstStep_230 := F_firstStep_206.keep Kq220 nin0
  have F_magnitudes_231 := F_magnitudes_207.keep Kq220 nin0
  have F_steps_232 := F_steps_208.keep Kq220 nin0
  have V_va_233 := V_va_209.keep Kq220 nin0
  have V_xb_234 := V_xb_211.keep Kq220 nin0
  have V_xl_235 := V_xl_212.keep Kq220 nin0
  have V_xh_236 := V_xh_213.keep Kq220 nin0
  have V_xf_237 := V_xf_214.keep Kq220 nin0
  have V_xg_238 := V_xg_215.keep Kq220 nin0
  have Kp239 := Kp216.trans Kq220 all0
  obtain ⟨T240, h240, X240, e240, W240, st240⟩ := putF X220 hx hZ hown (host := "") (Or.inl (hw _ (List.mem_of_getElem? (i := 32) rfl))) Via.refl rfl F_steps_232 E_222 (Or.inl (hw _ (List.mem_of_getElem? (i := 33) rfl))) (hw _ (List.mem_of_getElem? (i := 3) rfl)) (ty := (.array .byte)) (by decide) rfl rfl (g := (mkF m 71 #[rv ob, iv p1] [(.ref xs), (.ref ob)])) rfl rfl (hb hby d5_71)
  have K240 : own_R p e below (T240.setTop (mkF m 74 #[rv ob, iv p1] [])) S0 := fun t hk => K221 t (st240 _ hk)
  have E_241 := E_222.wr W240
  have F_bounded_242 := F_bounded_223.other W240 (Or.inr (slot_ne (Or.inr (hw _ (List.mem_of_getElem? (i := 20) rfl))) (Or.inl (hw _ (List.mem_of_getElem? (i := 33) rfl))) (by decide) (t := .boolean) (t' := (.array .byte)) (by decide) (by decide)))
  have F_flip_243 := F_flip_224.other W240 (Or.inr (slot_ne (Or.inr (hw _ (List.mem_of_getElem? (i := 18) rfl))) (Or.inl (hw _ (List.mem_of_getElem? (i := 33) rfl))) (by decide) (t := .long) (t' := (.array .byte)) (by decide) (by decide)))
  have F_values_244 := F_values_225.other W240 (Or.inr (slot_ne (Or.inl (hw _ (List.mem_of_getElem? (i := 67) rfl))) (Or.inl (hw _ (List.mem_of_getElem? (i := 33) rfl))) (by decide) (t := (.array .long)) (t' := (.array .byte)) (by decide) (by decide)))
  have F_count_245 := F_count_226.other W240 (Or.inr (slot_ne (Or.inl (hw _ (List.mem_of_getElem? (i := 74) rfl))) (Or.inl (hw _ (List.mem_of_getElem? (i := 33) rfl))) (by decide) (t := .int) (t' := (.array .byte)) (by decide) (by decide)))
  have F_bounds_246 := F_bounds_227.other W240 (Or.inr (slot_ne (Or.inl (hw _ (List.mem_of_getElem? (i := 22) rfl))) (Or.inl (hw _ (List.mem_of_getElem? (i := 33) rfl))) (by decide) (t := (.array .int)) (t' := (.array .byte)) (by decide) (by decide)))
  have F_lowest_247 := F_lowest_228.other W240 (Or.inr (slot_ne (Or.inl (hw _ (List.mem_of_getElem? (i := 24) rfl))) (Or.inl (hw _ (List.mem_of_getElem? (i := 33) rfl))) (by decide) (t := (.array .long)) (t' := (.array .byte)) (by decide) (by decide)))
  have F_highest_248 := F_highest_229.other W240 (Or.inr (slot_ne (Or.inl (hw _ (List.mem_of_getElem? (i := 26) rfl))) (Or.inl (hw _ (List.mem_of_getElem? (i := 33) rfl))) (by decide) (t := (.array .long)) (t' := (.array .byte)) (by decide) (by decide)))
  have F_firstStep_249 := F_firstStep_230.other W240 (Or.inr (slot_ne (Or.inl (hw _ (List.mem_of_getElem? (i := 28) rfl))) (Or.inl (hw _ (List.mem_of_getElem? (i := 33) rfl))) (by decide) (t := (.array .long)) (t' := (.array .byte)) (by decide) (by decide)))
  have F_magnitudes_250 := F_magnitudes_231.other W240 (Or.inr (slot_ne (Or.inl (hw _ (List.mem_of_getElem? (i := 30) rfl))) (Or.inl (hw _ (List.mem_of_getElem? (i := 33) rfl))) (by decide) (t := (.array .long)) (t' := (.array .byte)) (by decide) (by decide)))
  have F_steps_251 := F_steps_232.same W240
  have V_va_252 := V_va_233.other W240 (own_neN (by omega))
  have V_xb_253 := V_xb_234.other W240 (own_neN (by omega))
  have V_xl_254 := V_xl_235.other W240 (own_neN (by omega))
  have V_xh_255 := V_xh_236.other W240 (own_neN (by omega))
  have V_xf_256 := V_xf_237.other W240 (own_neN (by omega))
  have V_xg_257 := V_xg_238.other W240 (own_neN (by omega))
  have V_xs_258 := V_xs.other W240 (own_neN (by omega))
  have Kp259 := Kp239.wr W240 (Or.inl (List.mem_of_getElem? (i := 0) rfl))
  have N240 := Fr.snoc X240 N220 (by omega : n0 ≤ ob)
  have KP : Keep h0 T240.heap [ob] := by rw [e240]; exact Kp259
  have GG : ∃ xb xl xh xf xg xs jb jl jh jf jg js XB XL XH XF XG XS, own_O n0 ob va xb xl xh xf xg xs p1 (p1 + (1 : Int32)) ∧ own_G Z T240.heap ob va xb xl xh xf xg xs kv jb jl jh jf jg js fl p1 (p1 + (1 : Int32)) VV vv cn XB XL XH XF XG XS := by
    rw [e240]
    exact ⟨xb, xl, xh, xf, xg, xs, _, _, _, _, _, _, _, _, _, _, _, _, ⟨o1, o2, o_xb, o_xl, o_xh, o_xf, o_xg, o_xs, by omega, by omega, hq⟩, ⟨E_241, F_bounded_242, F_flip_243, F_values_244, F_count_245, F_bounds_246, F_lowest_247, F_highest_248, F_firstStep_249, F_magnitudes_250, F_steps_251, V_va_252, V_xb_253, V_xl_254, V_xh_255, V_xf_256, V_xg_257, V_xs_258, len_xb, len_xl, len_xh, len_xf, len_xg, len_xs, len_va_1⟩⟩
  obtain ⟨fs, hr, hrun, hended, hW, hsame⟩ := X240.leave (v := none) (fun _ => rfl) Bd.notSynchronized
  exact ⟨_, _, K240 _ (X240.returnOut hx Bd.returns (hb hby d5_74) hr), hrun, hended, _, _, rfl, ⟨rfl, N240, KP, GG⟩, ⟨_, rfl⟩, hW, hsame.mono (by decide) (by decide)⟩
theorem d4_0 : decode prog_74_method_4_code 0 = .ok (.aload_n 0, 1) := by decide +kernel
theorem d4_1 : decode prog_74_method_4_code 1 = .ok (.getfield 24, 3) := by decide +kernel
theorem d4_4 : decode prog_74_method_4_code 4 = .ok (.ifCond .ne 17, 3) := by decide +kernel
theorem d4_7 : decode prog_74_method_4_code 7 = .ok (.iload_n 3, 1) := by decide +kernel
theorem d4_8 : decode prog_74_method_4_code 8 = .ok (.aload_n 0, 1) := by decide +kernel
theorem d4_9 : decode prog_74_method_4_code 9 = .ok (.getfield 31, 3) := by decide +kernel
theorem d4_12 : decode prog_74_method_4_code 12 = .ok (.arraylength, 1) := by decide +kernel
theorem d4_13 : decode prog_74_method_4_code 13 = .ok (.if_icmp .le 8, 3) := by decide +kernel
theorem d4_16 : decode prog_74_method_4_code 16 = .ok (.aload_n 0, 1) := by decide +kernel
theorem d4_17 : decode prog_74_method_4_code 17 = .ok (.iload_n 3, 1) := by decide +kernel
theorem d4_18 : decode prog_74_method_4_code 18 = .ok (.invokevirtual 48, 3) := by decide +kernel
theorem d4_21 : decode prog_74_method_4_code 21 = .ok (.aload_n 0, 1) := by decide +kernel
theorem d4_22 : decode prog_74_method_4_code 22 = .ok (.aload_n 1, 1) := by decide +kernel
theorem d4_23 : decode prog_74_method_4_code 23 = .ok (.aload_n 2, 1) := by decide +kernel
theorem d4_24 : decode prog_74_method_4_code 24 = .ok (.iconst 0, 1) := by decide +kernel
theorem d4_25 : decode prog_74_method_4_code 25 = .ok (.iaload, 1) := by decide +kernel
theorem d4_26 : decode prog_74_method_4_code 26 = .ok (.invokevirtual 52, 3) := by decide +kernel
theorem d4_29 : decode prog_74_method_4_code 29 = .ok (.iconst 0, 1) := by decide +kernel
theorem d4_30 : decode prog_74_method_4_code 30 = .ok (.istore 4, 2) := by decide +kernel
theorem d4_32 : decode prog_74_method_4_code 32 = .ok (.iload 4, 2) := by decide +kernel
theorem d4_34 : decode prog_74_method_4_code 34 = .ok (.iload_n 3, 1) := by decide +kernel
theorem d4_35 : decode prog_74_method_4_code 35 = .ok (.if_icmp .ge 19, 3) := by decide +kernel
theorem d4_38 : decode prog_74_method_4_code 38 = .ok (.aload_n 0, 1) := by decide +kernel
theorem d4_39 : decode prog_74_method_4_code 39 = .ok (.aload_n 2, 1) := by decide +kernel
theorem d4_40 : decode prog_74_method_4_code 40 = .ok (.iload 4, 2) := by decide +kernel
theorem d4_42 : decode prog_74_method_4_code 42 = .ok (.iconst 1, 1) := by decide +kernel
theorem d4_43 : decode prog_74_method_4_code 43 = .ok (.iadd, 1) := by decide +kernel
theorem d4_44 : decode prog_74_method_4_code 44 = .ok (.iaload, 1) := by decide +kernel
theorem d4_45 : decode prog_74_method_4_code 45 = .ok (.invokevirtual 56, 3) := by decide +kernel
theorem d4_48 : decode prog_74_method_4_code 48 = .ok (.iinc 4 1, 3) := by decide +kernel
theorem d4_51 : decode prog_74_method_4_code 51 = .ok (.goto (-19), 3) := by decide +kernel
theorem d4_54 : decode prog_74_method_4_code 54 = .ok (.return_, 1) := by decide +kernel
theorem ef_4 (m : MethodId) (x0 : Addr) (x1 : Addr) (x2 : Addr) (x3 : Int32) : entryFrame m #[(.ref x0), (.ref x1), (.ref x2), (.int x3)] 5 = mkF m 0 #[rv x0, rv x1, rv x2, iv x3, .unset] [] := by first | (simp [entryFrame, mkF, argsToLocals, Value.category, maxLocals]; done) | rfl
theorem pn_4 : plainName "com/example/bitrun/bitrun/orc/intv2/Segments" = true := by first | (simp [plainName, overriddenIn]; done) | decide +kernel
def Q_rm4 (Z : State) (ob : Addr) (va : Addr) (vc : Addr) (p3 : Int32) (yb yl yh yf yg ys : Addr) (kv jb jl jh jf jg js : ClassId) (fl : Int64) (VV : List Value) (kc : ClassId) (h0 : Heap) (n0 : Nat) (v : Option Value) (h : Heap) (L : List Loc) : Prop := v = none ∧ Fr n0 L ∧ n0 ≤ h.size ∧ ∃ vb vl vh vf vg vs kb kl kh kf kg ks VB VL VH VF VG VS, own_O n0 ob va vb vl vh vf vg vs p3 (p3 + (1 : Int32)) ∧ own_G Z h ob va vb vl vh vf vg vs kv kb kl kh kf kg ks fl p3 (p3 + (1 : Int32)) VV (.ref va) p3 VB VL VH VF VG VS ∧ ∀ i, i ≤ p3.toNatClampNeg → VB.getD i (.int (0 : Int32)) = .int (Int32.ofNat (2 * i))
set_option maxRecDepth 65536 in
set_option maxHeartbeats 40000000 in
theorem rm4 (l : Launch) (Z : State) (a0 : Array Value) (hw : ∀ d ∈ tables_1, d.before a0 Z = true) (ws : List Jvm.Cond) (ob : Addr) (va : Addr) (vc : Addr) (p3 : Int32) (yb yl yh yf yg ys : Addr) (kv jb jl jh jf jg js : ClassId) (fl : Int64) (VV : List Value) (kc : ClassId) (h0 : Heap) (n0 : Nat) (Z0 : n0 ≤ h0.size) (hO0 : own_O n0 ob va yb yl yh yf yg ys (0 : Int32) (1 : Int32)) (hG0 : own_G Z h0 ob va yb yl yh yf yg ys kv jb jl jh jf jg js fl (0 : Int32) (1 : Int32) VV .null (0 : Int32) [(.int (0 : Int32))] [] [] [] [] []) (hC : Arv Z h0 vc kc .int (4 : Int32) [(.int (0 : Int32)), (.int (2 : Int32)), (.int (4 : Int32)), (.int (6 : Int32))] (.int (0 : Int32))) (hvc : @LT.lt Nat _ va vc ∧ @LT.lt Nat _ vc ob) (hp3 : 1 ≤ p3.toInt ∧ p3.toInt ≤ 3) :
    MetFree l (⟨"com/example/bitrun/bitrun/orc/intv2/Segments", "cut", "([J[II)V"⟩ : MethodName) (head1 (Jvm.Cond.code (⟨"com/example/bitrun/bitrun/orc/intv2/Segments", "cut", "([J[II)V"⟩ : MethodName) prog_74_method_4_code 5 none :: ws) ({ frames := 4, cells := 6, slots := 24, locals := 104 } : Room)) (fun a U => a = #[(.ref ob), (.ref va), (.ref vc), (.int p3)] ∧ Z.Warmed39 U.vm ∧ U.heap = h0) (fun _ _ _ _ _ => True) (fun _ U o U' => ∃ v L, o = .returned v ∧ Q_rm4 Z ob va vc p3 yb yl yh yf yg ys kv jb jl jh jf jg js fl VV kc h0 n0 v U'.heap L ∧ FrameEnd U o U' L ({ frames := 4, cells := 6, slots := 24, locals := 104 } : Room).cells ({ frames := 4, cells := 6, slots := 24, locals := 104 } : Room).slots) := by
  refine MetFree.of_bodySF (plainFor_of_name pn_4) hisR ?_
  intro p e s m args below meth c s₁ Bd hml0 hP hK
  obtain ⟨rfl, hZ, hh⟩ := hP
  have hx := Bd.exec
  have hby := Bd.bytes
  have hml : c.maxLocals = 5 := hml0
  have hown : s.vm.findClass "com/example/bitrun/bitrun/orc/intv2/Segments" = some m.cls := findClass_of_methodNamed Bd.named
  have hnm := (name_of_methodNamed Bd.named Bd.method).1
  have X0 : Stand p l e ({ frames := 4, cells := 6, slots := 24, locals := 104 } : Room) s m #[(.ref ob), (.ref va), (.ref vc), (.int p3)] below meth c s₁ [] 0 0 := Stand.of_body Bd
  have e0 : s₁.heap = h0 := by rw [← hh, Bd.state]; rfl
  have N0 := Fr.nil n0
  have pre0 : ∀ t, Steps p.tables e below (s₁.setTop (mkF m 0 #[rv ob, rv va, rv vc, iv p3, .unset] [])) t → Steps p.tables e below (s₁.setTop (entryFrame m #[(.ref ob), (.ref va), (.ref vc), (.int p3)] 5)) t := fun t k => castTop (ef_4 m ob va vc p3) k
  obtain ⟨S0, hS0⟩ : ∃ z, z = (s₁.setTop (entryFrame m #[(.ref ob), (.ref va), (.ref vc), (.int p3)] 5)) := ⟨_, rfl⟩
  rw [← hS0] at pre0 ⊢
  have K0 : own_R p e below (s₁.setTop (mkF m 0 #[rv ob, rv va, rv vc, iv p3, .unset] [])) S0 := pre0
  have d0 : (0 : Int32).toInt = 0 := by decide
  have d1 : (1 : Int32).toInt = 1 := by decide
  have d2 : (2 : Int32).toInt = 2 := by decide
  have d3 : (3 : Int32).toInt = 3 := by decide
  have d4 : (4 : Int32).toInt = 4 := by decide
  have d5 : (5 : Int32).toInt = 5 := by decide
  have d6 : (6 : Int32).toInt = 6 := by decide
  have hpq := own_add1 p3 (by omega)
  have np : p3.toNatClampNeg = p3.toInt.toNat := rfl
  have K1 : own_R p e below (s₁.setTop (mkF m 1 #[rv ob, rv va, rv vc, iv p3, .unset] [(.ref ob)])) S0 := by
    intro t hk
    refine K0 t ?_
    show Steps p.tables e below (s₁.setTop (mkF m 0 #[rv ob, rv va, rv vc, iv p3, .unset] [])) _
    refine XS.aloadN X0.here hx rfl (hb hby d4_0) rfl rfl ?_
    exact hk
  obtain ⟨T2, X2, e2, st2⟩ := getF X0 hx hZ hown (host := "") (Or.inl (hw _ (List.mem_of_getElem? (i := 19) rfl))) Via.refl e0 (own_pF_bounded hG0) (g := (mkF m 1 #[rv ob, rv va, rv vc, iv p3, .unset] [(.ref ob)])) rfl rfl (hb hby d4_1)
  have K2 : own_R p e below (T2.setTop (mkF m 4 #[rv ob, rv va, rv vc, iv p3, .unset] [(.int (0 : Int32))])) S0 := fun t hk => K1 t (st2 _ hk)
  have hc4 : (0 : Int32) = (0 : Int32) := rfl
  have K3 : own_R p e below (T2.setTop (mkF m 7 #[rv ob, rv va, rv vc, iv p3, .unset] [])) S0 := by
    intro t hk
    refine K2 t ?_
    show Steps p.tables e below (T2.setTop (mkF m 4 #[rv ob, rv va, rv vc, iv p3, .unset] [(.int (0 : Int32))])) _
    refine XS.ifNo X2.here hx rfl (hb hby d4_4) rfl ((if0 _ _).trans (teq hc4).2) ?_
    exact hk
  have K4 : own_R p e below (T2.setTop (mkF m 9 #[rv ob, rv va, rv vc, iv p3, .unset] [(.ref ob), (.int p3)])) S0 := by
    intro t hk
    refine K3 t ?_
    show Steps p.tables e below (T2.setTop (mkF m 7 #[rv ob, rv va, rv vc, iv p3, .unset] [])) _
    refine XS.iloadN X2.here hx rfl (hb hby d4_7) rfl ?_
    refine XS.aloadN X2.here hx rfl (hb hby d4_8) rfl rfl ?_
    exact hk
  obtain ⟨T5, X5, e5, st5⟩ := getF X2 hx hZ hown (host := "") (Or.inl (hw _ (List.mem_of_getElem? (i := 23) rfl))) Via.refl e2 (own_pF_lowest hG0) (g := (mkF m 9 #[rv ob, rv va, rv vc, iv p3, .unset] [(.ref ob), (.int p3)])) rfl rfl (hb hby d4_9)
  have K5 : own_R p e below (T5.setTop (mkF m 12 #[rv ob, rv va, rv vc, iv p3, .unset] [(.ref yl), (.int p3)])) S0 := fun t hk => K4 t (st5 _ hk)
  obtain ⟨cl6, Ar6, -, S6, M6, -, -⟩ := id (own_pV_vl hG0)
  have K6 : own_R p e below (T5.setTop (mkF m 13 #[rv ob, rv va, rv vc, iv p3, .unset] [(.int (0 : Int32)), (.int p3)])) S0 := by
    intro t hk
    refine K5 t ?_
    refine X5.arraylength hx (by rw [e5]; exact Ar6.1) (State.isArrayOf_alike hZ.alike Ar6.2.1) (g := (mkF m 12 #[rv ob, rv va, rv vc, iv p3, .unset] [(.ref yl), (.int p3)])) rfl rfl (hb hby d4_12) _ ?_
    rw [len_of S6 M6]
    exact hk
  have hc13 : (0 : Int32) < p3 := Int32.lt_iff_toInt_lt.mpr (by omega)
  have K7 : own_R p e below (T5.setTop (mkF m 16 #[rv ob, rv va, rv vc, iv p3, .unset] [])) S0 := by
    intro t hk
    refine K6 t ?_
    show Steps p.tables e below (T5.setTop (mkF m 13 #[rv ob, rv va, rv vc, iv p3, .unset] [(.int (0 : Int32)), (.int p3)])) _
    refine XS.icmpNo X5.here hx rfl (hb hby d4_13) rfl (tlt hc13).2.2.2 ?_
    exact hk
  have K8 : own_R p e below (T5.setTop (mkF m 18 #[rv ob, rv va, rv vc, iv p3, .unset] [(.int p3), (.ref ob)])) S0 := by
    intro t hk
    refine K7 t ?_
    show Steps p.tables e below (T5.setTop (mkF m 16 #[rv ob, rv va, rv vc, iv p3, .unset] [])) _
    refine XS.aloadN X5.here hx rfl (hb hby d4_16) rfl rfl ?_
    refine XS.iloadN X5.here hx rfl (hb hby d4_17) rfl ?_
    exact hk
  obtain ⟨cq9, q9, r9⟩ := (own_pE hG0).cell
  obtain ⟨_, _, ⟨T9, L9, k9, n9⟩, -, X9, ⟨Lc9, hQ9, l9, y9, z9⟩, st9⟩ := X5.privateBack hx (y := (⟨"com/example/bitrun/bitrun/orc/intv2/Segments", "resize", "(I)V"⟩ : MethodName)) hown (mvT hZ (hw _ (List.mem_of_getElem? (i := 39) rfl))) (mvT hZ (hw _ (List.mem_of_getElem? (i := 40) rfl))) (own_selp hZ (hw _ (List.mem_of_getElem? (i := 41) rfl)) (hw _ (List.mem_of_getElem? (i := 40) rfl)) (by decide) (hw _ (List.mem_of_getElem? (i := 37) rfl)) rfl) (Cond.privateMethod_at (mvP hZ (hw _ (List.mem_of_getElem? (i := 41) rfl)) (args := #[]))) (mvT hZ (hw _ (List.mem_of_getElem? (i := 42) rfl))) (by decide) (backOf (W := 0) (rm5 l Z a0 hw [] ob p3 va yb yl yh yf yg ys kv jb jl jh jf jg js fl (0 : Int32) (1 : Int32) VV .null (0 : Int32) [(.int (0 : Int32))] [] [] [] [] [] h0 n0 Z0 hO0 hG0 ⟨by omega, by omega⟩) hZ (hw _ (List.mem_of_getElem? (i := 42) rfl)) (hw _ (List.mem_of_getElem? (i := 4) rfl)) (by decide) (by decide)) (g := (mkF m 18 #[rv ob, rv va, rv vc, iv p3, .unset] [(.int p3), (.ref ob)])) rfl (by rw [hml]; rfl) (Steps.refl _) (a := ob) (by rw [e5]; exact q9) r9 (argsL := [(.int p3)]) (rest := []) (lenOf (by decide +kernel : parseMethodDescriptor "(I)V" = some ⟨[.int], none⟩) rfl) rfl (by show 2 * 0 + _ ≤ _; exact Nat.le_of_eq rfl) (hb hby d4_18) (fun _ _ => ⟨rfl, e5, (by decide : 0 + 6 ≤ _), (by decide : 0 + 24 ≤ _)⟩)
  dsimp only [Pt.U, Pt.locs, Pt.cells, Pt.slots] at X9 l9 y9 z9 st9 hQ9
  replace y9 := y9.symm; replace z9 := z9.symm; subst l9 y9 z9
  obtain ⟨rfl, Nq9, Kq9, vb, vl, vh, vf, vg, vs, kb, kl, kh, kf, kg, ks, VB, VL, VH, VF, VG, VS, hO, hG1⟩ := hQ9
  have N9 := Fr.app N0 Nq9
  have K9 : own_R p e below (T9.setTop (mkF m 21 #[rv ob, rv va, rv vc, iv p3, .unset] [])) S0 := fun t hk => K8 t (st9.trans hk)
  obtain ⟨nn, hnn⟩ : ∃ z, z = p3 := ⟨_, rfl⟩
  obtain ⟨nb, hnb⟩ : ∃ z, z = p3 + (1 : Int32) := ⟨_, rfl⟩
  rw [← hnb, ← hnn] at hO hG1
  have ennI : nn.toInt = p3.toInt := by rw [hnn]
  have hC1 := hC.keep Kq9 (ninS (own_neN (by omega)) nin0)
  obtain ⟨o1, o2, o3, o4, o5, o6, o7, o8, o9, o10, o11⟩ := id hO
  have szc := (Nat.le_trans Z0 Kq9.1)
  have K10 : own_R p e below (T9.setTop (mkF m 25 #[rv ob, rv va, rv vc, iv p3, .unset] [(.int (0 : Int32)), (.ref vc), (.ref va), (.ref ob)])) S0 := by
    intro t hk
    refine K9 t ?_
    show Steps p.tables e below (T9.setTop (mkF m 21 #[rv ob, rv va, rv vc, iv p3, .unset] [])) _
    refine XS.aloadN X9.here hx rfl (hb hby d4_21) rfl rfl ?_
    refine XS.aloadN X9.here hx rfl (hb hby d4_22) rfl rfl ?_
    refine XS.aloadN X9.here hx rfl (hb hby d4_23) rfl rfl ?_
    refine XS.iconst X9.here hx rfl (hb hby d4_24) ?_
    exact hk
  obtain ⟨w11, hv_w11, st11⟩ := own_ldI X9 hx hZ rfl hC1 (j := (0 : Int32)) ⟨by decide, by decide⟩ (g := (mkF m 25 #[rv ob, rv va, rv vc, iv p3, .unset] [(.int (0 : Int32)), (.ref vc), (.ref va), (.ref ob)])) rfl rfl (hb hby d4_25)
  rw [show w11 = (0 : Int32) from Value.int.inj (hv_w11.symm.trans rfl)] at st11
  have K11 : own_R p e below (T9.setTop (mkF m 26 #[rv ob, rv va, rv vc, iv p3, .unset] [(.int (0 : Int32)), (.ref va), (.ref ob)])) S0 := fun t hk => K10 t (st11 _ hk)
  obtain ⟨cq12, kq12, q12a, q12b, q12c⟩ := isOf hZ rfl (own_pE hG1)
  obtain ⟨_, _, ⟨T12, L12, k12, n12⟩, -, X12, ⟨Lc12, hQ12, l12, y12, z12⟩, st12⟩ := X9.virtualBack hx (y := (⟨"com/example/bitrun/bitrun/orc/intv2/Segments", "clear", "([JI)V"⟩ : MethodName)) (z := (⟨"com/example/bitrun/bitrun/orc/intv2/Segments", "clear", "([JI)V"⟩ : MethodName)) hown (mvT hZ (hw _ (List.mem_of_getElem? (i := 61) rfl))) (mvT hZ (hw _ (List.mem_of_getElem? (i := 62) rfl))) (notFace_of_selects (args := #[]) (mvT hZ (hw _ (List.mem_of_getElem? (i := 64) rfl)))) (mvT hZ (hw _ (List.mem_of_getElem? (i := 64) rfl))) (mvT hZ (hw _ (List.mem_of_getElem? (i := 63) rfl))) (by decide) (backOf (W := 0) (rm10 l Z a0 hw [] ob va (0 : Int32) vb vl vh vf vg vs kv kb kl kh kf kg ks fl nn nb VV .null (0 : Int32) VB VL VH VF VG VS T9.heap n0 szc hO hG1) hZ (hw _ (List.mem_of_getElem? (i := 65) rfl)) (hw _ (List.mem_of_getElem? (i := 4) rfl)) (by decide) (by decide)) q12a q12c (g := (mkF m 26 #[rv ob, rv va, rv vc, iv p3, .unset] [(.int (0 : Int32)), (.ref va), (.ref ob)])) rfl (by rw [hml]; rfl) (Steps.refl _) (argsL := [(.ref va), (.int (0 : Int32))]) (rest := []) (lenOf (by decide +kernel : parseMethodDescriptor "([JI)V" = some ⟨[(.array .long), .int], none⟩) rfl) rfl (by show 2 * 0 + _ ≤ _; exact Nat.le_of_eq rfl) (hb hby d4_26) (fun _ _ => ⟨rfl, rfl, (by decide : 0 + 6 + 0 ≤ _), (by decide : 0 + 24 + 0 ≤ _)⟩)
  dsimp only [Pt.U, Pt.locs, Pt.cells, Pt.slots] at X12 l12 y12 z12 st12 hQ12
  replace y12 := y12.symm; replace z12 := z12.symm; subst l12 y12 z12
  obtain ⟨rfl, Nq12, Kq12, Gq12⟩ := hQ12
  have N12 := Fr.app N9 Nq12
  have K12 : own_R p e below (T12.setTop (mkF m 29 #[rv ob, rv va, rv vc, iv p3, .unset] [])) S0 := fun t hk => K11 t (st12.trans hk)
  have sz13 := Nat.le_trans szc Kq12.1
  have hC13 := hC1.keep Kq12 (ninS (own_neN (by omega)) (ninS (own_neN (by omega)) (ninS (own_neN (by omega)) (ninS (own_neN (by omega)) (ninS (own_neN (by omega)) (ninS (own_neN (by omega)) (ninS (own_neN (by omega)) nin0)))))))
  have pb0_0 : (VB.set (0 : Int32).toNatClampNeg (.int (0 : Int32))).getD (0 : Int32).toNatClampNeg (.int (0 : Int32)) = .int (0 : Int32) := own_ge _ _ _ _ (by rw [own_pL_vb hG1]; exact own_cl _ _ (by omega))
  have K14 : own_R p e below (T12.setTop (mkF m 35 #[rv ob, rv va, rv vc, iv p3, iv (0 : Int32)] [(.int p3), (.int (0 : Int32))])) S0 := by
    intro t hk
    refine K12 t ?_
    show Steps p.tables e below (T12.setTop (mkF m 29 #[rv ob, rv va, rv vc, iv p3, .unset] [])) _
    refine XS.iconst X12.here hx rfl (hb hby d4_29) ?_
    refine XS.istore X12.here hx rfl (hb hby d4_30) rfl (l' := #[rv ob, rv va, rv vc, iv p3, iv (0 : Int32)]) rfl ?_
    refine XS.iload X12.here hx rfl (hb hby d4_32) rfl ?_
    refine XS.iloadN X12.here hx rfl (hb hby d4_34) rfl ?_
    exact hk
  have hc35 : (0 : Int32) < p3 := Int32.lt_iff_toInt_lt.mpr (by omega)
  have K15 : own_R p e below (T12.setTop (mkF m 38 #[rv ob, rv va, rv vc, iv p3, iv (0 : Int32)] [])) S0 := by
    intro t hk
    refine K14 t ?_
    show Steps p.tables e below (T12.setTop (mkF m 35 #[rv ob, rv va, rv vc, iv p3, iv (0 : Int32)] [(.int p3), (.int (0 : Int32))])) _
    refine XS.icmpNo X12.here hx rfl (hb hby d4_35) rfl (tlt hc35).2.1 ?_
    exact hk
  have Gold0 := Gq12
  have K16 : own_R p e below (T12.setTop (mkF m 44 #[rv ob, rv va, rv vc, iv p3, iv (0 : Int32)] [(.int (1 : Int32)), (.ref vc), (.ref ob)])) S0 := by
    intro t hk
    refine K15 t ?_
    show Steps p.tables e below (T12.setTop (mkF m 38 #[rv ob, rv va, rv vc, iv p3, iv (0 : Int32)] [])) _
    refine XS.aloadN X12.here hx rfl (hb hby d4_38) rfl rfl ?_
    refine XS.aloadN X12.here hx rfl (hb hby d4_39) rfl rfl ?_
    refine XS.iload X12.here hx rfl (hb hby d4_40) rfl ?_
    refine XS.iconst X12.here hx rfl (hb hby d4_42) ?_
    refine XS.iadd X12.here hx rfl (hb hby d4_43) rfl ?_
    exact hk
  obtain ⟨w17, hv_w17, st17⟩ := own_ldI X12 hx hZ rfl hC13 (j := (1 : Int32)) ⟨by decide, by decide⟩ (g := (mkF m 44 #[rv ob, rv va, rv vc, iv p3, iv (0 : Int32)] [(.int (1 : Int32)), (.ref vc), (.ref ob)])) rfl rfl (hb hby d4_44)
  rw [show w17 = (2 : Int32) from Value.int.inj (hv_w17.symm.trans rfl)] at st17
  have K17 : own_R p e below (T12.setTop (mkF m 45 #[rv ob, rv va, rv vc, iv p3, iv (0 : Int32)] [(.int (2 : Int32)), (.ref ob)])) S0 := fun t hk => K16 t (st17 _ hk)
  obtain ⟨cq18, kq18, q18a, q18b, q18c⟩ := isOf hZ rfl (own_pE Gq12)
  obtain ⟨_, _, ⟨T18, L18, k18, n18⟩, -, X18, ⟨Lc18, hQ18, l18, y18, z18⟩, st18⟩ := X12.virtualBack hx (y := (⟨"com/example/bitrun/bitrun/orc/intv2/Segments", "summarise", "(I)V"⟩ : MethodName)) (z := (⟨"com/example/bitrun/bitrun/orc/intv2/Segments", "summarise", "(I)V"⟩ : MethodName)) hown (mvT hZ (hw _ (List.mem_of_getElem? (i := 75) rfl))) (mvT hZ (hw _ (List.mem_of_getElem? (i := 76) rfl))) (notFace_of_selects (args := #[]) (mvT hZ (hw _ (List.mem_of_getElem? (i := 78) rfl)))) (mvT hZ (hw _ (List.mem_of_getElem? (i := 78) rfl))) (mvT hZ (hw _ (List.mem_of_getElem? (i := 77) rfl))) (by decide) (backOf (W := 0) (rm12 l Z a0 hw [] ob (2 : Int32) va vb vl vh vf vg vs kv kb kl kh kf kg ks fl nn nb VV (0 : Int32) (VB.set (0 : Int32).toNatClampNeg (.int (0 : Int32))) VL VH VF VG VS T12.heap n0 sz13 hO Gq12 (by omega) (0 : Int32) pb0_0 (by omega) (by intro q; exact absurd rfl q)) hZ (hw _ (List.mem_of_getElem? (i := 79) rfl)) (hw _ (List.mem_of_getElem? (i := 4) rfl)) (by decide) (by decide)) q18a q18c (g := (mkF m 45 #[rv ob, rv va, rv vc, iv p3, iv (0 : Int32)] [(.int (2 : Int32)), (.ref ob)])) rfl (by rw [hml]; rfl) (Steps.refl _) (argsL := [(.int (2 : Int32))]) (rest := []) (lenOf (by decide +kernel : parseMethodDescriptor "(I)V" = some ⟨[.int], none⟩) rfl) rfl (by show 2 * 0 + _ ≤ _; exact Nat.le_of_eq rfl) (hb hby d4_45) (fun _ _ => ⟨rfl, rfl, (by decide : 0 + 6 + 0 + 0 ≤ _), (by decide : 0 + 24 + 0 + 0 ≤ _)⟩)
  dsimp only [Pt.U, Pt.locs, Pt.cells, Pt.slots] at X18 l18 y18 z18 st18 hQ18
  replace y18 := y18.symm; replace z18 := z18.symm; subst l18 y18 z18
  obtain ⟨rfl, Nq18, Kq18, x11, x12, x13, x14, x15, Gq18⟩ := hQ18
  have N18 := Fr.app N12 Nq18
  have K18 : own_R p e below (T18.setTop (mkF m 48 #[rv ob, rv va, rv vc, iv p3, iv (0 : Int32)] [])) S0 := fun t hk => K17 t (st18.trans hk)
  have sz19 := Nat.le_trans sz13 Kq18.1
  have hC19 := hC13.keep Kq18 (ninS (own_neN (by omega)) (ninS (own_neN (by omega)) (ninS (own_neN (by omega)) (ninS (own_neN (by omega)) (ninS (own_neN (by omega)) (ninS (own_neN (by omega)) (ninS (own_neN (by omega)) nin0)))))))
  have Gt0 : own_G Z T18.heap ob va vb vl vh vf vg vs kv kb kl kh kf kg ks fl nn nb VV (.ref va) (1 : Int32) ((VB.set (0 : Int32).toNatClampNeg (.int (0 : Int32))).set (1 : Int32).toNatClampNeg (.int (2 : Int32))) (VL.set (0 : Int32).toNatClampNeg (.long x11)) (VH.set (0 : Int32).toNatClampNeg (.long x12)) (VF.set (0 : Int32).toNatClampNeg (.long x13)) (VG.set (0 : Int32).toNatClampNeg (.long x14)) (VS.set (0 : Int32).toNatClampNeg (.int x15)) := Gq18
  have pb1_0 : ((VB.set (0 : Int32).toNatClampNeg (.int (0 : Int32))).set (1 : Int32).toNatClampNeg (.int (2 : Int32))).getD (0 : Int32).toNatClampNeg (.int (0 : Int32)) = .int (0 : Int32) := (own_gs _ _ _ _ _ (by decide)).trans pb0_0
  have pb1_1 : ((VB.set (0 : Int32).toNatClampNeg (.int (0 : Int32))).set (1 : Int32).toNatClampNeg (.int (2 : Int32))).getD (1 : Int32).toNatClampNeg (.int (0 : Int32)) = .int (2 : Int32) := own_ge _ _ _ _ (by rw [own_pL_vb Gold0]; exact own_cl _ _ (by omega))
  have K20 : own_R p e below (T18.setTop (mkF m 35 #[rv ob, rv va, rv vc, iv p3, iv (1 : Int32)] [(.int p3), (.int (1 : Int32))])) S0 := by
    intro t hk
    refine K18 t ?_
    show Steps p.tables e below (T18.setTop (mkF m 48 #[rv ob, rv va, rv vc, iv p3, iv (0 : Int32)] [])) _
    refine XS.iinc X18.here hx rfl (hb hby d4_48) rfl (l' := #[rv ob, rv va, rv vc, iv p3, iv (1 : Int32)]) rfl ?_
    refine XS.goto X18.here hx rfl (pc0 := 51) (pc' := 32) rfl (hb hby d4_51) (by decide) (by decide) ?_
    refine XS.iload X18.here hx rfl (hb hby d4_32) rfl ?_
    refine XS.iloadN X18.here hx rfl (hb hby d4_34) rfl ?_
    exact hk
  by_cases hc35 : (1 : Int32) < p3
  · have K21 : own_R p e below (T18.setTop (mkF m 38 #[rv ob, rv va, rv vc, iv p3, iv (1 : Int32)] [])) S0 := by
      intro t hk
      refine K20 t ?_
      show Steps p.tables e below (T18.setTop (mkF m 35 #[rv ob, rv va, rv vc, iv p3, iv (1 : Int32)] [(.int p3), (.int (1 : Int32))])) _
      refine XS.icmpNo X18.here hx rfl (hb hby d4_35) rfl (tlt hc35).2.1 ?_
      exact hk
    have y1 := Int32.lt_iff_toInt_lt.mp hc35
    clear hc35
    have Gold1 := Gt0
    have K22 : own_R p e below (T18.setTop (mkF m 44 #[rv ob, rv va, rv vc, iv p3, iv (1 : Int32)] [(.int (2 : Int32)), (.ref vc), (.ref ob)])) S0 := by
      intro t hk
      refine K21 t ?_
      show Steps p.tables e below (T18.setTop (mkF m 38 #[rv ob, rv va, rv vc, iv p3, iv (1 : Int32)] [])) _
      refine XS.aloadN X18.here hx rfl (hb hby d4_38) rfl rfl ?_
      refine XS.aloadN X18.here hx rfl (hb hby d4_39) rfl rfl ?_
      refine XS.iload X18.here hx rfl (hb hby d4_40) rfl ?_
      refine XS.iconst X18.here hx rfl (hb hby d4_42) ?_
      refine XS.iadd X18.here hx rfl (hb hby d4_43) rfl ?_
      exact hk
    obtain ⟨w23, hv_w23, st23⟩ := own_ldI X18 hx hZ rfl hC19 (j := (2 : Int32)) ⟨by decide, by decide⟩ (g := (mkF m 44 #[rv ob, rv va, rv vc, iv p3, iv (1 : Int32)] [(.int (2 : Int32)), (.ref vc), (.ref ob)])) rfl rfl (hb hby d4_44)
    rw [show w23 = (4 : Int32) from Value.int.inj (hv_w23.symm.trans rfl)] at st23
    have K23 : own_R p e below (T18.setTop (mkF m 45 #[rv ob, rv va, rv vc, iv p3, iv (1 : Int32)] [(.int (4 : Int32)), (.ref ob)])) S0 := fun t hk => K22 t (st23 _ hk)
    obtain ⟨cq24, kq24, q24a, q24b, q24c⟩ := isOf hZ rfl (own_pE Gt0)
    obtain ⟨_, _, ⟨T24, L24, k24, n24⟩, -, X24, ⟨Lc24, hQ24, l24, y24, z24⟩, st24⟩ := X18.virtualBack hx (y := (⟨"com/example/bitrun/bitrun/orc/intv2/Segments", "summarise", "(I)V"⟩ : MethodName)) (z := (⟨"com/example/bitrun/bitrun/orc/intv2/Segments", "summarise", "(I)V"⟩ : MethodName)) hown (mvT hZ (hw _ (List.mem_of_getElem? (i := 75) rfl))) (mvT hZ (hw _ (List.mem_of_getElem? (i := 76) rfl))) (notFace_of_selects (args := #[]) (mvT hZ (hw _ (List.mem_of_getElem? (i := 78) rfl)))) (mvT hZ (hw _ (List.mem_of_getElem? (i := 78) rfl))) (mvT hZ (hw _ (List.mem_of_getElem? (i := 77) rfl))) (by decide) (backOf (W := 0) (rm12 l Z a0 hw [] ob (4 : Int32) va vb vl vh vf vg vs kv kb kl kh kf kg ks fl nn nb VV (1 : Int32) ((VB.set (0 : Int32).toNatClampNeg (.int (0 : Int32))).set (1 : Int32).toNatClampNeg (.int (2 : Int32))) (VL.set (0 : Int32).toNatClampNeg (.long x11)) (VH.set (0 : Int32).toNatClampNeg (.long x12)) (VF.set (0 : Int32).toNatClampNeg (.long x13)) (VG.set (0 : Int32).toNatClampNeg (.long x14)) (VS.set (0 : Int32).toNatClampNeg (.int x15)) T18.heap n0 sz19 hO Gt0 (by omega) (2 : Int32) pb1_1 (by omega) (by intro _; omega)) hZ (hw _ (List.mem_of_getElem? (i := 79) rfl)) (hw _ (List.mem_of_getElem? (i := 4) rfl)) (by decide) (by decide)) q24a q24c (g := (mkF m 45 #[rv ob, rv va, rv vc, iv p3, iv (1 : Int32)] [(.int (4 : Int32)), (.ref ob)])) rfl (by rw [hml]; rfl) (Steps.refl _) (argsL := [(.int (4 : Int32))]) (rest := []) (lenOf (by decide +kernel : parseMethodDescriptor "(I)V" = some ⟨[.int], none⟩) rfl) rfl (by show 2 * 0 + _ ≤ _; exact Nat.le_of_eq rfl) (hb hby d4_45) (fun _ _ => ⟨rfl, rfl, (by decide : 0 + 6 + 0 + 0 + 0 ≤ _), (by decide : 0 + 24 + 0 + 0 + 0 ≤ _)⟩)
    dsimp only [Pt.U, Pt.locs, Pt.cells, Pt.slots] at X24 l24 y24 z24 st24 hQ24
    replace y24 := y24.symm; replace z24 := z24.symm; subst l24 y24 z24
    obtain ⟨rfl, Nq24, Kq24, x21, x22, x23, x24, x25, Gq24⟩ := hQ24
    have N24 := Fr.app N18 Nq24
    have K24 : own_R p e below (T24.setTop (mkF m 48 #[rv ob, rv va, rv vc, iv p3, iv (1 : Int32)] [])) S0 := fun t hk => K23 t (st24.trans hk)
    have sz25 := Nat.le_trans sz19 Kq24.1
    have hC25 := hC19.keep Kq24 (ninS (own_neN (by omega)) (ninS (own_neN (by omega)) (ninS (own_neN (by omega)) (ninS (own_neN (by omega)) (ninS (own_neN (by omega)) (ninS (own_neN (by omega)) (ninS (own_neN (by omega)) nin0)))))))
    have Gt1 : own_G Z T24.heap ob va vb vl vh vf vg vs kv kb kl kh kf kg ks fl nn nb VV (.ref va) (2 : Int32) (((VB.set (0 : Int32).toNatClampNeg (.int (0 : Int32))).set (1 : Int32).toNatClampNeg (.int (2 : Int32))).set (2 : Int32).toNatClampNeg (.int (4 : Int32))) ((VL.set (0 : Int32).toNatClampNeg (.long x11)).set (1 : Int32).toNatClampNeg (.long x21)) ((VH.set (0 : Int32).toNatClampNeg (.long x12)).set (1 : Int32).toNatClampNeg (.long x22)) ((VF.set (0 : Int32).toNatClampNeg (.long x13)).set (1 : Int32).toNatClampNeg (.long x23)) ((VG.set (0 : Int32).toNatClampNeg (.long x14)).set (1 : Int32).toNatClampNeg (.long x24)) ((VS.set (0 : Int32).toNatClampNeg (.int x15)).set (1 : Int32).toNatClampNeg (.int x25)) := Gq24
    have pb2_0 : (((VB.set (0 : Int32).toNatClampNeg (.int (0 : Int32))).set (1 : Int32).toNatClampNeg (.int (2 : Int32))).set (2 : Int32).toNatClampNeg (.int (4 : Int32))).getD (0 : Int32).toNatClampNeg (.int (0 : Int32)) = .int (0 : Int32) := (own_gs _ _ _ _ _ (by decide)).trans pb1_0
    have pb2_1 : (((VB.set (0 : Int32).toNatClampNeg (.int (0 : Int32))).set (1 : Int32).toNatClampNeg (.int (2 : Int32))).set (2 : Int32).toNatClampNeg (.int (4 : Int32))).getD (1 : Int32).toNatClampNeg (.int (0 : Int32)) = .int (2 : Int32) := (own_gs _ _ _ _ _ (by decide)).trans pb1_1
    have pb2_2 : (((VB.set (0 : Int32).toNatClampNeg (.int (0 : Int32))).set (1 : Int32).toNatClampNeg (.int (2 : Int32))).set (2 : Int32).toNatClampNeg (.int (4 : Int32))).getD (2 : Int32).toNatClampNeg (.int (0 : Int32)) = .int (4 : Int32) := own_ge _ _ _ _ (by rw [own_pL_vb Gold1]; exact own_cl _ _ (by omega))
    have K26 : own_R p e below (T24.setTop (mkF m 35 #[rv ob, rv va, rv vc, iv p3, iv (2 : Int32)] [(.int p3), (.int (2 : Int32))])) S0 := by
      intro t hk
      refine K24 t ?_
      show Steps p.tables e below (T24.setTop (mkF m 48 #[rv ob, rv va, rv vc, iv p3, iv (1 : Int32)] [])) _
      refine XS.iinc X24.here hx rfl (hb hby d4_48) rfl (l' := #[rv ob, rv va, rv vc, iv p3, iv (2 : Int32)]) rfl ?_
      refine XS.goto X24.here hx rfl (pc0 := 51) (pc' := 32) rfl (hb hby d4_51) (by decide) (by decide) ?_
      refine XS.iload X24.here hx rfl (hb hby d4_32) rfl ?_
      refine XS.iloadN X24.here hx rfl (hb hby d4_34) rfl ?_
      exact hk
    by_cases hc35 : (2 : Int32) < p3
    · have K27 : own_R p e below (T24.setTop (mkF m 38 #[rv ob, rv va, rv vc, iv p3, iv (2 : Int32)] [])) S0 := by
        intro t hk
        refine K26 t ?_
        show Steps p.tables e below (T24.setTop (mkF m 35 #[rv ob, rv va, rv vc, iv p3, iv (2 : Int32)] [(.int p3), (.int (2 : Int32))])) _
        refine XS.icmpNo X24.here hx rfl (hb hby d4_35) rfl (tlt hc35).2.1 ?_
        exact hk
      have y2 := Int32.lt_iff_toInt_lt.mp hc35
      clear hc35
      have Gold2 := Gt1
      have K28 : own_R p e below (T24.setTop (mkF m 44 #[rv ob, rv va, rv vc, iv p3, iv (2 : Int32)] [(.int (3 : Int32)), (.ref vc), (.ref ob)])) S0 := by
        intro t hk
        refine K27 t ?_
        show Steps p.tables e below (T24.setTop (mkF m 38 #[rv ob, rv va, rv vc, iv p3, iv (2 : Int32)] [])) _
        refine XS.aloadN X24.here hx rfl (hb hby d4_38) rfl rfl ?_
        refine XS.aloadN X24.here hx rfl (hb hby d4_39) rfl rfl ?_
        refine XS.iload X24.here hx rfl (hb hby d4_40) rfl ?_
        refine XS.iconst X24.here hx rfl (hb hby d4_42) ?_
        refine XS.iadd X24.here hx rfl (hb hby d4_43) rfl ?_
        exact hk
      obtain ⟨w29, hv_w29, st29⟩ := own_ldI X24 hx hZ rfl hC25 (j := (3 : Int32)) ⟨by decide, by decide⟩ (g := (mkF m 44 #[rv ob, rv va, rv vc, iv p3, iv (2 : Int32)] [(.int (3 : Int32)), (.ref vc), (.ref ob)])) rfl rfl (hb hby d4_44)
      rw [show w29 = (6 : Int32) from Value.int.inj (hv_w29.symm.trans rfl)] at st29
      have K29 : own_R p e below (T24.setTop (mkF m 45 #[rv ob, rv va, rv vc, iv p3, iv (2 : Int32)] [(.int (6 : Int32)), (.ref ob)])) S0 := fun t hk => K28 t (st29 _ hk)
      obtain ⟨cq30, kq30, q30a, q30b, q30c⟩ := isOf hZ rfl (own_pE Gt1)
      obtain ⟨_, _, ⟨T30, L30, k30, n30⟩, -, X30, ⟨Lc30, hQ30, l30, y30, z30⟩, st30⟩ := X24.virtualBack hx (y := (⟨"com/example/bitrun/bitrun/orc/intv2/Segments", "summarise", "(I)V"⟩ : MethodName)) (z := (⟨"com/example/bitrun/bitrun/orc/intv2/Segments", "summarise", "(I)V"⟩ : MethodName)) hown (mvT hZ (hw _ (List.mem_of_getElem? (i := 75) rfl))) (mvT hZ (hw _ (List.mem_of_getElem? (i := 76) rfl))) (notFace_of_selects (args := #[]) (mvT hZ (hw _ (List.mem_of_getElem? (i := 78) rfl)))) (mvT hZ (hw _ (List.mem_of_getElem? (i := 78) rfl))) (mvT hZ (hw _ (List.mem_of_getElem? (i := 77) rfl))) (by decide) (backOf (W := 0) (rm12 l Z a0 hw [] ob (6 : Int32) va vb vl vh vf vg vs kv kb kl kh kf kg ks fl nn nb VV (2 : Int32) (((VB.set (0 : Int32).toNatClampNeg (.int (0 : Int32))).set (1 : Int32).toNatClampNeg (.int (2 : Int32))).set (2 : Int32).toNatClampNeg (.int (4 : Int32))) ((VL.set (0 : Int32).toNatClampNeg (.long x11)).set (1 : Int32).toNatClampNeg (.long x21)) ((VH.set (0 : Int32).toNatClampNeg (.long x12)).set (1 : Int32).toNatClampNeg (.long x22)) ((VF.set (0 : Int32).toNatClampNeg (.long x13)).set (1 : Int32).toNatClampNeg (.long x23)) ((VG.set (0 : Int32).toNatClampNeg (.long x14)).set (1 : Int32).toNatClampNeg (.long x24)) ((VS.set (0 : Int32).toNatClampNeg (.int x15)).set (1 : Int32).toNatClampNeg (.int x25)) T24.heap n0 sz25 hO Gt1 (by omega) (4 : Int32) pb2_2 (by omega) (by intro _; omega)) hZ (hw _ (List.mem_of_getElem? (i := 79) rfl)) (hw _ (List.mem_of_getElem? (i := 4) rfl)) (by decide) (by decide)) q30a q30c (g := (mkF m 45 #[rv ob, rv va, rv vc, iv p3, iv (2 : Int32)] [(.int (6 : Int32)), (.ref ob)])) rfl (by rw [hml]; rfl) (Steps.refl _) (argsL := [(.int (6 : Int32))]) (rest := []) (lenOf (by decide +kernel : parseMethodDescriptor "(I)V" = some ⟨[.int], none⟩) rfl) rfl (by show 2 * 0 + _ ≤ _; exact Nat.le_of_eq rfl) (hb hby d4_45) (fun _ _ => ⟨rfl, rfl, (by decide : 0 + 6 + 0 + 0 + 0 + 0 ≤ _), (by decide : 0 + 24 + 0 + 0 + 0 + 0 ≤ _)⟩)
      dsimp only [Pt.U, Pt.locs, Pt.cells, Pt.slots] at X30 l30 y30 z30 st30 hQ30
      replace y30 := y30.symm; replace z30 := z30.symm; subst l30 y30 z30
      obtain ⟨rfl, Nq30, Kq30, x31, x32, x33, x34, x35, Gq30⟩ := hQ30
      have N30 := Fr.app N24 Nq30
      have K30 : own_R p e below (T30.setTop (mkF m 48 #[rv ob, rv va, rv vc, iv p3, iv (2 : Int32)] [])) S0 := fun t hk => K29 t (st30.trans hk)
      have sz31 := Nat.le_trans sz25 Kq30.1
      have hC31 := hC25.keep Kq30 (ninS (own_neN (by omega)) (ninS (own_neN (by omega)) (ninS (own_neN (by omega)) (ninS (own_neN (by omega)) (ninS (own_neN (by omega)) (ninS (own_neN (by omega)) (ninS (own_neN (by omega)) nin0)))))))
      have Gt2 : own_G Z T30.heap ob va vb vl vh vf vg vs kv kb kl kh kf kg ks fl nn nb VV (.ref va) (3 : Int32) ((((VB.set (0 : Int32).toNatClampNeg (.int (0 : Int32))).set (1 : Int32).toNatClampNeg (.int (2 : Int32))).set (2 : Int32).toNatClampNeg (.int (4 : Int32))).set (3 : Int32).toNatClampNeg (.int (6 : Int32))) (((VL.set (0 : Int32).toNatClampNeg (.long x11)).set (1 : Int32).toNatClampNeg (.long x21)).set (2 : Int32).toNatClampNeg (.long x31)) (((VH.set (0 : Int32).toNatClampNeg (.long x12)).set (1 : Int32).toNatClampNeg (.long x22)).set (2 : Int32).toNatClampNeg (.long x32)) (((VF.set (0 : Int32).toNatClampNeg (.long x13)).set (1 : Int32).toNatClampNeg (.long x23)).set (2 : Int32).toNatClampNeg (.long x33)) (((VG.set (0 : Int32).toNatClampNeg (.long x14)).set (1 : Int32).toNatClampNeg (.long x24)).set (2 : Int32).toNatClampNeg (.long x34)) (((VS.set (0 : Int32).toNatClampNeg (.int x15)).set (1 : Int32).toNatClampNeg (.int x25)).set (2 : Int32).toNatClampNeg (.int x35)) := Gq30
      have pb3_0 : ((((VB.set (0 : Int32).toNatClampNeg (.int (0 : Int32))).set (1 : Int32).toNatClampNeg (.int (2 : Int32))).set (2 : Int32).toNatClampNeg (.int (4 : Int32))).set (3 : Int32).toNatClampNeg (.int (6 : Int32))).getD (0 : Int32).toNatClampNeg (.int (0 : Int32)) = .int (0 : Int32) := (own_gs _ _ _ _ _ (by decide)).trans pb2_0
      have pb3_1 : ((((VB.set (0 : Int32).toNatClampNeg (.int (0 : Int32))).set (1 : Int32).toNatClampNeg (.int (2 : Int32))).set (2 : Int32).toNatClampNeg (.int (4 : Int32))).set (3 : Int32).toNatClampNeg (.int (6 : Int32))).getD (1 : Int32).toNatClampNeg (.int (0 : Int32)) = .int (2 : Int32) := (own_gs _ _ _ _ _ (by decide)).trans pb2_1
      have pb3_2 : ((((VB.set (0 : Int32).toNatClampNeg (.int (0 : Int32))).set (1 : Int32).toNatClampNeg (.int (2 : Int32))).set (2 : Int32).toNatClampNeg (.int (4 : Int32))).set (3 : Int32).toNatClampNeg (.int (6 : Int32))).getD (2 : Int32).toNatClampNeg (.int (0 : Int32)) = .int (4 : Int32) := (own_gs _ _ _ _ _ (by decide)).trans pb2_2
      have pb3_3 : ((((VB.set (0 : Int32).toNatClampNeg (.int (0 : Int32))).set (1 : Int32).toNatClampNeg (.int (2 : Int32))).set (2 : Int32).toNatClampNeg (.int (4 : Int32))).set (3 : Int32).toNatClampNeg (.int (6 : Int32))).getD (3 : Int32).toNatClampNeg (.int (0 : Int32)) = .int (6 : Int32) := own_ge _ _ _ _ (by rw [own_pL_vb Gold2]; exact own_cl _ _ (by omega))
      have K32 : own_R p e below (T30.setTop (mkF m 35 #[rv ob, rv va, rv vc, iv p3, iv (3 : Int32)] [(.int p3), (.int (3 : Int32))])) S0 := by
        intro t hk
        refine K30 t ?_
        show Steps p.tables e below (T30.setTop (mkF m 48 #[rv ob, rv va, rv vc, iv p3, iv (2 : Int32)] [])) _
        refine XS.iinc X30.here hx rfl (hb hby d4_48) rfl (l' := #[rv ob, rv va, rv vc, iv p3, iv (3 : Int32)]) rfl ?_
        refine XS.goto X30.here hx rfl (pc0 := 51) (pc' := 32) rfl (hb hby d4_51) (by decide) (by decide) ?_
        refine XS.iload X30.here hx rfl (hb hby d4_32) rfl ?_
        refine XS.iloadN X30.here hx rfl (hb hby d4_34) rfl ?_
        exact hk
      have hc35 : ¬ ((3 : Int32) < p3) := fun q => by have := Int32.lt_iff_toInt_lt.mp q; omega
      have K33 : own_R p e below (T30.setTop (mkF m 54 #[rv ob, rv va, rv vc, iv p3, iv (3 : Int32)] [])) S0 := by
        intro t hk
        refine K32 t ?_
        show Steps p.tables e below (T30.setTop (mkF m 35 #[rv ob, rv va, rv vc, iv p3, iv (3 : Int32)] [(.int p3), (.int (3 : Int32))])) _
        refine XS.icmpYes X30.here hx rfl (pc0 := 35) (pc' := 54) rfl (hb hby d4_35) rfl (flt hc35).2.1 (by decide) (by decide) ?_
        exact hk
      have hpt : p3 = (3 : Int32) := Int32.toInt_inj.mp (by omega)
      have hpn : p3.toNatClampNeg = 3 := by rw [np]; omega
      have BB : ∀ i, i ≤ p3.toNatClampNeg → ((((VB.set (0 : Int32).toNatClampNeg (.int (0 : Int32))).set (1 : Int32).toNatClampNeg (.int (2 : Int32))).set (2 : Int32).toNatClampNeg (.int (4 : Int32))).set (3 : Int32).toNatClampNeg (.int (6 : Int32))).getD i (.int (0 : Int32)) = .int (Int32.ofNat (2 * i)) := by
        intro i hi; rw [hpn] at hi
        match i, hi with
        | 0, _ => exact pb3_0
        | 1, _ => exact pb3_1
        | 2, _ => exact pb3_2
        | 3, _ => exact pb3_3
      have GG : ∃ vb vl vh vf vg vs kb kl kh kf kg ks VB VL VH VF VG VS, own_O n0 ob va vb vl vh vf vg vs p3 (p3 + (1 : Int32)) ∧ own_G Z T30.heap ob va vb vl vh vf vg vs kv kb kl kh kf kg ks fl p3 (p3 + (1 : Int32)) VV (.ref va) p3 VB VL VH VF VG VS ∧ ∀ i, i ≤ p3.toNatClampNeg → VB.getD i (.int (0 : Int32)) = .int (Int32.ofNat (2 * i)) := by
        refine ⟨vb, vl, vh, vf, vg, vs, kb, kl, kh, kf, kg, ks, ((((VB.set (0 : Int32).toNatClampNeg (.int (0 : Int32))).set (1 : Int32).toNatClampNeg (.int (2 : Int32))).set (2 : Int32).toNatClampNeg (.int (4 : Int32))).set (3 : Int32).toNatClampNeg (.int (6 : Int32))), (((VL.set (0 : Int32).toNatClampNeg (.long x11)).set (1 : Int32).toNatClampNeg (.long x21)).set (2 : Int32).toNatClampNeg (.long x31)), (((VH.set (0 : Int32).toNatClampNeg (.long x12)).set (1 : Int32).toNatClampNeg (.long x22)).set (2 : Int32).toNatClampNeg (.long x32)), (((VF.set (0 : Int32).toNatClampNeg (.long x13)).set (1 : Int32).toNatClampNeg (.long x23)).set (2 : Int32).toNatClampNeg (.long x33)), (((VG.set (0 : Int32).toNatClampNeg (.long x14)).set (1 : Int32).toNatClampNeg (.long x24)).set (2 : Int32).toNatClampNeg (.long x34)), (((VS.set (0 : Int32).toNatClampNeg (.int x15)).set (1 : Int32).toNatClampNeg (.int x25)).set (2 : Int32).toNatClampNeg (.int x35)), ?_, ?_, BB⟩
        · rw [← hnb, ← hnn]; exact hO
        · rw [← hnb]
          have r : own_G Z T30.heap ob va vb vl vh vf vg vs kv kb kl kh kf kg ks fl nn nb VV (.ref va) p3 ((((VB.set (0 : Int32).toNatClampNeg (.int (0 : Int32))).set (1 : Int32).toNatClampNeg (.int (2 : Int32))).set (2 : Int32).toNatClampNeg (.int (4 : Int32))).set (3 : Int32).toNatClampNeg (.int (6 : Int32))) (((VL.set (0 : Int32).toNatClampNeg (.long x11)).set (1 : Int32).toNatClampNeg (.long x21)).set (2 : Int32).toNatClampNeg (.long x31)) (((VH.set (0 : Int32).toNatClampNeg (.long x12)).set (1 : Int32).toNatClampNeg (.long x22)).set (2 : Int32).toNatClampNeg (.long x32)) (((VF.set (0 : Int32).toNatClampNeg (.long x13)).set (1 : Int32).toNatClampNeg (.long x23)).set (2 : Int32).toNatClampNeg (.long x33)) (((VG.set (0 : Int32).toNatClampNeg (.long x14)).set (1 : Int32).toNatClampNeg (.long x24)).set (2 : Int32).toNatClampNeg (.long x34)) (((VS.set (0 : Int32).toNatClampNeg (.int x15)).set (1 : Int32).toNatClampNeg (.int x25)).set (2 : Int32).toNatClampNeg (.int x35)) := by rw [hpt]; exact Gt2
          rw [hnn] at r; exact r
      have SZ : n0 ≤ T30.heap.size := sz31
      obtain ⟨fs, hr, hrun, hended, hW, hsame⟩ := X30.leave (v := none) (fun _ => rfl) Bd.notSynchronized
      exact ⟨_, _, K33 _ (X30.returnOut hx Bd.returns (hb hby d4_54) hr), hrun, hended, _, _, rfl, ⟨rfl, N30, SZ, GG⟩, ⟨_, rfl⟩, hW, hsame.mono (by decide) (by decide)⟩
    · have K34 : own_R p e below (T24.setTop (mkF m 54 #[rv ob, rv va, rv vc, iv p3, iv (2 : Int32)] [])) S0 := by
        intro t hk
        refine K26 t ?_
        show Steps p.tables e below (T24.setTop (mkF m 35 #[rv ob, rv va, rv vc, iv p3, iv (2 : Int32)] [(.int p3), (.int (2 : Int32))])) _
        refine XS.icmpYes X24.here hx rfl (pc0 := 35) (pc' := 54) rfl (hb hby d4_35) rfl (flt hc35).2.1 (by decide) (by decide) ?_
        exact hk
      have y2 : ¬ ((2 : Int32).toInt < p3.toInt) := fun q => hc35 (Int32.lt_iff_toInt_lt.mpr q)
      have hpt : p3 = (2 : Int32) := Int32.toInt_inj.mp (by omega)
      have hpn : p3.toNatClampNeg = 2 := by rw [np]; omega
      have BB : ∀ i, i ≤ p3.toNatClampNeg → (((VB.set (0 : Int32).toNatClampNeg (.int (0 : Int32))).set (1 : Int32).toNatClampNeg (.int (2 : Int32))).set (2 : Int32).toNatClampNeg (.int (4 : Int32))).getD i (.int (0 : Int32)) = .int (Int32.ofNat (2 * i)) := by
        intro i hi; rw [hpn] at hi
        match i, hi with
        | 0, _ => exact pb2_0
        | 1, _ => exact pb2_1
        | 2, _ => exact pb2_2
      have GG : ∃ vb vl vh vf vg vs kb kl kh kf kg ks VB VL VH VF VG VS, own_O n0 ob va vb vl vh vf vg vs p3 (p3 + (1 : Int32)) ∧ own_G Z T24.heap ob va vb vl vh vf vg vs kv kb kl kh kf kg ks fl p3 (p3 + (1 : Int32)) VV (.ref va) p3 VB VL VH VF VG VS ∧ ∀ i, i ≤ p3.toNatClampNeg → VB.getD i (.int (0 : Int32)) = .int (Int32.ofNat (2 * i)) := by
        refine ⟨vb, vl, vh, vf, vg, vs, kb, kl, kh, kf, kg, ks, (((VB.set (0 : Int32).toNatClampNeg (.int (0 : Int32))).set (1 : Int32).toNatClampNeg (.int (2 : Int32))).set (2 : Int32).toNatClampNeg (.int (4 : Int32))), ((VL.set (0 : Int32).toNatClampNeg (.long x11)).set (1 : Int32).toNatClampNeg (.long x21)), ((VH.set (0 : Int32).toNatClampNeg (.long x12)).set (1 : Int32).toNatClampNeg (.long x22)), ((VF.set (0 : Int32).toNatClampNeg (.long x13)).set (1 : Int32).toNatClampNeg (.long x23)), ((VG.set (0 : Int32).toNatClampNeg (.long x14)).set (1 : Int32).toNatClampNeg (.long x24)), ((VS.set (0 : Int32).toNatClampNeg (.int x15)).set (1 : Int32).toNatClampNeg (.int x25)), ?_, ?_, BB⟩
        · rw [← hnb, ← hnn]; exact hO
        · rw [← hnb]
          have r : own_G Z T24.heap ob va vb vl vh vf vg vs kv kb kl kh kf kg ks fl nn nb VV (.ref va) p3 (((VB.set (0 : Int32).toNatClampNeg (.int (0 : Int32))).set (1 : Int32).toNatClampNeg (.int (2 : Int32))).set (2 : Int32).toNatClampNeg (.int (4 : Int32))) ((VL.set (0 : Int32).toNatClampNeg (.long x11)).set (1 : Int32).toNatClampNeg (.long x21)) ((VH.set (0 : Int32).toNatClampNeg (.long x12)).set (1 : Int32).toNatClampNeg (.long x22)) ((VF.set (0 : Int32).toNatClampNeg (.long x13)).set (1 : Int32).toNatClampNeg (.long x23)) ((VG.set (0 : Int32).toNatClampNeg (.long x14)).set (1 : Int32).toNatClampNeg (.long x24)) ((VS.set (0 : Int32).toNatClampNeg (.int x15)).set (1 : Int32).toNatClampNeg (.int x25)) := by rw [hpt]; exact Gt1
          rw [hnn] at r; exact r
      have SZ : n0 ≤ T24.heap.size := sz25
      obtain ⟨fs, hr, hrun, hended, hW, hsame⟩ := X24.leave (v := none) (fun _ => rfl) Bd.notSynchronized
      exact ⟨_, _, K34 _ (X24.returnOut hx Bd.returns (hb hby d4_54) hr), hrun, hended, _, _, rfl, ⟨rfl, N24, SZ, GG⟩, ⟨_, rfl⟩, hW, hsame.mono (by decide) (by decide)⟩
  · have K35 : own_R p e below (T18.setTop (mkF m 54 #[rv ob, rv va, rv vc, iv p3, iv (1 : Int32)] [])) S0 := by
      intro t hk
      refine K20 t ?_
      show Steps p.tables e below (T18.setTop (mkF m 35 #[rv ob, rv va, rv vc, iv p3, iv (1 : Int32)] [(.int p3), (.int (1 : Int32))])) _
      refine XS.icmpYes X18.here hx rfl (pc0 := 35) (pc' := 54) rfl (hb hby d4_35) rfl (flt hc35).2.1 (by decide) (by decide) ?_
      exact hk
    have y1 : ¬ ((1 : Int32).toInt < p3.toInt) := fun q => hc35 (Int32.lt_iff_toInt_lt.mpr q)
    have hpt : p3 = (1 : Int32) := Int32.toInt_inj.mp (by omega)
    have hpn : p3.toNatClampNeg = 1 := by rw [np]; omega
    have BB : ∀ i, i ≤ p3.toNatClampNeg → ((VB.set (0 : Int32).toNatClampNeg (.int (0 : Int32))).set (1 : Int32).toNatClampNeg (.int (2 : Int32))).getD i (.int (0 : Int32)) = .int (Int32.ofNat (2 * i)) := by
      intro i hi; rw [hpn] at hi
      match i, hi with
      | 0, _ => exact pb1_0
      | 1, _ => exact pb1_1
    have GG : ∃ vb vl vh vf vg vs kb kl kh kf kg ks VB VL VH VF VG VS, own_O n0 ob va vb vl vh vf vg vs p3 (p3 + (1 : Int32)) ∧ own_G Z T18.heap ob va vb vl vh vf vg vs kv kb kl kh kf kg ks fl p3 (p3 + (1 : Int32)) VV (.ref va) p3 VB VL VH VF VG VS ∧ ∀ i, i ≤ p3.toNatClampNeg → VB.getD i (.int (0 : Int32)) = .int (Int32.ofNat (2 * i)) := by
      refine ⟨vb, vl, vh, vf, vg, vs, kb, kl, kh, kf, kg, ks, ((VB.set (0 : Int32).toNatClampNeg (.int (0 : Int32))).set (1 : Int32).toNatClampNeg (.int (2 : Int32))), (VL.set (0 : Int32).toNatClampNeg (.long x11)), (VH.set (0 : Int32).toNatClampNeg (.long x12)), (VF.set (0 : Int32).toNatClampNeg (.long x13)), (VG.set (0 : Int32).toNatClampNeg (.long x14)), (VS.set (0 : Int32).toNatClampNeg (.int x15)), ?_, ?_, BB⟩
      · rw [← hnb, ← hnn]; exact hO
      · rw [← hnb]
        have r : own_G Z T18.heap ob va vb vl vh vf vg vs kv kb kl kh kf kg ks fl nn nb VV (.ref va) p3 ((VB.set (0 : Int32).toNatClampNeg (.int (0 : Int32))).set (1 : Int32).toNatClampNeg (.int (2 : Int32))) (VL.set (0 : Int32).toNatClampNeg (.long x11)) (VH.set (0 : Int32).toNatClampNeg (.long x12)) (VF.set (0 : Int32).toNatClampNeg (.long x13)) (VG.set (0 : Int32).toNatClampNeg (.long x14)) (VS.set (0 : Int32).toNatClampNeg (.int x15)) := by rw [hpt]; exact Gt0
        rw [hnn] at r; exact r
    have SZ : n0 ≤ T18.heap.size := sz19
    obtain ⟨fs, hr, hrun, hended, hW, hsame⟩ := X18.leave (v := none) (fun _ => rfl) Bd.notSynchronized
    exact ⟨_, _, K35 _ (X18.returnOut hx Bd.returns (hb hby d4_54) hr), hrun, hended, _, _, rfl, ⟨rfl, N18, SZ, GG⟩, ⟨_, rfl⟩, hW, hsame.mono (by decide) (by decide)⟩
theorem own_exJ {Z : State} {h : Heap} {a : Addr} {k : ClassId} {z j : Int32} {vs : List Value} {dv : Value} (V : Arv Z h a k .long z vs dv) (hb : 0 ≤ j.toInt ∧ j.toInt < z.toInt) : ∃ w, vs.getD j.toNatClampNeg dv = .long w := by
  obtain ⟨c, A, q, S, M, H, G⟩ := V
  exact fit_J (G _ (by rw [S]; exact own_cl _ _ hb))
theorem own_exB {Z : State} {h : Heap} {a : Addr} {k : ClassId} {z j : Int32} {vs : List Value} {dv : Value} (V : Arv Z h a k .byte z vs dv) (hb : 0 ≤ j.toInt ∧ j.toInt < z.toInt) : ∃ w, vs.getD j.toNatClampNeg dv = .int w := by
  obtain ⟨c, A, q, S, M, H, G⟩ := V
  exact fit_I (G _ (by rw [S]; exact own_cl _ _ hb)) (by simp)
theorem own_two (j : Int32) (h : 0 ≤ j.toInt ∧ j.toInt < 1000) : Int32.ofNat (2 * j.toNatClampNeg) = (2 : Int32) * j := by
  apply Int32.toInt_inj.mp
  have e2 : (2 : Int32).toInt = 2 := by decide
  have e : j.toNatClampNeg = j.toInt.toNat := rfl
  rw [(Int32.toInt_mul 2 j).trans (Int.bmod_eq_of_le (by rw [e2]; omega) (by rw [e2]; omega)), e2, Int32.toInt_ofNat_small (by omega)]
  omega
def own_sg (p1 : Int64) (p2 : Int64) (p3 : Int64) (p4 : Int64) (p5 : Int64) (p6 : Int32) : Int32 := (if (p6 &&& (1 : Int32)) = (0 : Int32) then (0 : Int32) else (1 : Int32))
set_option maxRecDepth 65536 in
set_option maxHeartbeats 4000000 in
theorem own_sg_s {p : Program} {l : Launch} {e : Env} {R : Room} {s : State} {m : MethodId} {args : Array Value} {below : List Frame} {meth : Method} {c : Code} {T : State} {locs : List Loc} {cells slots : Nat} {Z : State} {a0 : Array Value} (X : Stand p l e R s m args below meth c T locs cells slots) (hx : p.tables.exec = Jvm.exec) (hby : c.code = code) (hown : s.vm.findClass "com/example/bitrun/bitrun/orc/intv2/SegmentsRestartAtPinLaw" = some m.cls) (hZ : Z.Warmed39 s.vm) (hw : ∀ d ∈ tables_1, d.before a0 Z = true) (p1 : Int64) (p2 : Int64) (p3 : Int64) (p4 : Int64) (p5 : Int64) (p6 : Int32) (v : Int32) (hv : own_sg p1 p2 p3 p4 p5 p6 = v) {target : State} (hk : Steps p.tables e below (T.setTop (mkF m 12 #[lv p1, .second, lv p2, .second, lv p3, .second, lv p4, .second, lv p5, .second, iv p6, .unset, .unset, .unset, .unset, .unset, .unset, .unset, .unset, .unset, .unset, .unset, .unset, .unset, .unset, .unset, .unset, .unset, .unset, .unset, .unset] [(.int v)])) target) :
    Steps p.tables e below (T.setTop (mkF m 0 #[lv p1, .second, lv p2, .second, lv p3, .second, lv p4, .second, lv p5, .second, iv p6, .unset, .unset, .unset, .unset, .unset, .unset, .unset, .unset, .unset, .unset, .unset, .unset, .unset, .unset, .unset, .unset, .unset, .unset, .unset, .unset] [])) target := by
  unfold own_sg at hv
  show Steps p.tables e below (T.setTop (mkF m 0 #[lv p1, .second, lv p2, .second, lv p3, .second, lv p4, .second, lv p5, .second, iv p6, .unset, .unset, .unset, .unset, .unset, .unset, .unset, .unset, .unset, .unset, .unset, .unset, .unset, .unset, .unset, .unset, .unset, .unset, .unset, .unset] [])) _
  refine XS.iload X.here hx rfl (hb hby at_0) rfl ?_
  show Steps p.tables e below (T.setTop (mkF m 2 #[lv p1, .second, lv p2, .second, lv p3, .second, lv p4, .second, lv p5, .second, iv p6, .unset, .unset, .unset, .unset, .unset, .unset, .unset, .unset, .unset, .unset, .unset, .unset, .unset, .unset, .unset, .unset, .unset, .unset, .unset, .unset] [(.int p6)])) _
  refine XS.iconst X.here hx rfl (hb hby at_2) ?_
  show Steps p.tables e below (T.setTop (mkF m 3 #[lv p1, .second, lv p2, .second, lv p3, .second, lv p4, .second, lv p5, .second, iv p6, .unset, .unset, .unset, .unset, .unset, .unset, .unset, .unset, .unset, .unset, .unset, .unset, .unset, .unset, .unset, .unset, .unset, .unset, .unset, .unset] [(.int (1 : Int32)), (.int p6)])) _
  refine XS.iand X.here hx rfl (hb hby at_3) rfl ?_
  show Steps p.tables e below (T.setTop (mkF m 4 #[lv p1, .second, lv p2, .second, lv p3, .second, lv p4, .second, lv p5, .second, iv p6, .unset, .unset, .unset, .unset, .unset, .unset, .unset, .unset, .unset, .unset, .unset, .unset, .unset, .unset, .unset, .unset, .unset, .unset, .unset, .unset] [(.int (p6 &&& (1 : Int32)))])) _
  by_cases hc4 : (p6 &&& (1 : Int32)) = (0 : Int32)
  · rw [if_pos hc4] at hv
    refine XS.ifYes X.here hx rfl (pc0 := 4) (pc' := 11) rfl (hb hby at_4) rfl ((if0 _ _).trans (teq hc4).1) (by decide) (by decide) ?_
    show Steps p.tables e below (T.setTop (mkF m 11 #[lv p1, .second, lv p2, .second, lv p3, .second, lv p4, .second, lv p5, .second, iv p6, .unset, .unset, .unset, .unset, .unset, .unset, .unset, .unset, .unset, .unset, .unset, .unset, .unset, .unset, .unset, .unset, .unset, .unset, .unset, .unset] [])) _
    refine XS.iconst X.here hx rfl (hb hby at_11) ?_
    show Steps p.tables e below (T.setTop (mkF m 12 #[lv p1, .second, lv p2, .second, lv p3, .second, lv p4, .second, lv p5, .second, iv p6, .unset, .unset, .unset, .unset, .unset, .unset, .unset, .unset, .unset, .unset, .unset, .unset, .unset, .unset, .unset, .unset, .unset, .unset, .unset, .unset] [(.int (0 : Int32))])) _
    subst hv
    exact hk
  · rw [if_neg hc4] at hv
    refine XS.ifNo X.here hx rfl (hb hby at_4) rfl ((if0 _ _).trans (feq hc4).1) ?_
    show Steps p.tables e below (T.setTop (mkF m 7 #[lv p1, .second, lv p2, .second, lv p3, .second, lv p4, .second, lv p5, .second, iv p6, .unset, .unset, .unset, .unset, .unset, .unset, .unset, .unset, .unset, .unset, .unset, .unset, .unset, .unset, .unset, .unset, .unset, .unset, .unset, .unset] [])) _
    refine XS.iconst X.here hx rfl (hb hby at_7) ?_
    show Steps p.tables e below (T.setTop (mkF m 8 #[lv p1, .second, lv p2, .second, lv p3, .second, lv p4, .second, lv p5, .second, iv p6, .unset, .unset, .unset, .unset, .unset, .unset, .unset, .unset, .unset, .unset, .unset, .unset, .unset, .unset, .unset, .unset, .unset, .unset, .unset, .unset] [(.int (1 : Int32))])) _
    refine XS.goto X.here hx rfl (pc0 := 8) (pc' := 12) rfl (hb hby at_8) (by decide) (by decide) ?_
    show Steps p.tables e below (T.setTop (mkF m 12 #[lv p1, .second, lv p2, .second, lv p3, .second, lv p4, .second, lv p5, .second, iv p6, .unset, .unset, .unset, .unset, .unset, .unset, .unset, .unset, .unset, .unset, .unset, .unset, .unset, .unset, .unset, .unset, .unset, .unset, .unset, .unset] [(.int (1 : Int32))])) _
    subst hv
    exact hk
set_option maxRecDepth 65536 in
set_option maxHeartbeats 40000000 in
theorem own_tail {p : Program} {l : Launch} {e : Env} {s : State} {m : MethodId} {args : Array Value} {below : List Frame} {meth : Method} {c : Code} {T : State} {locs : List Loc} {cells slots : Nat} {Z : State} {a0 : Array Value} {h0 : Heap} {n0 : Nat} {S0 : State} (X : Stand p l e room_1 s m args below meth c T locs cells slots) (hx : p.tables.exec = Jvm.exec) (hby : c.code = code) (hml : c.maxLocals = 31) (hown : s.vm.findClass "com/example/bitrun/bitrun/orc/intv2/SegmentsRestartAtPinLaw" = some m.cls) (hZ : Z.Warmed39 s.vm) (hw : ∀ d ∈ tables_1, d.before a0 Z = true) (hret : meth.sig.returnType = ret) (hlk : meth.locks = false) (p1 : Int64) (p2 : Int64) (p3 : Int64) (p4 : Int64) (p5 : Int64) (p6 : Int32) (sg : Int32) (mm : Int32) (nn : Int32) (jx : Int32) (va : Addr) (vc : Addr) (ob : Addr) (e0 : T.heap = h0) (Z0 : n0 ≤ h0.size) (N0 : Fr n0 locs) (hcb : cells ≤ 40) (hsb : slots ≤ 192) {vb vl vh vf vg vs : Addr} {kv kb kl kh kf kg ks : ClassId} {fl : Int64} {nb : Int32} {VV VB VL VH VF VG VS : List Value} (hO : own_O n0 ob va vb vl vh vf vg vs nn nb) (hG : own_G Z h0 ob va vb vl vh vf vg vs kv kb kl kh kf kg ks fl nn nb VV (.ref va) nn VB VL VH VF VG VS) (hnb : nb = nn + (1 : Int32)) (BB : ∀ i, i ≤ nn.toNatClampNeg → VB.getD i (.int (0 : Int32)) = .int (Int32.ofNat (2 * i))) (bn : 1 ≤ nn.toInt ∧ nn.toInt ≤ 3) (bj : 0 ≤ jx.toInt ∧ jx.toInt ≤ nn.toInt) (K0 : ∀ t, Steps p.tables e below (T.setTop (mkF m 119 #[lv p1, .second, lv p2, .second, lv p3, .second, lv p4, .second, lv p5, .second, iv p6, iv sg, iv mm, iv nn, iv jx, rv va, rv vc, rv ob, .unset, .unset, .unset, .unset, .unset, .unset, .unset, .unset, .unset, .unset, .unset, .unset, .unset] [])) t → Steps p.tables e below S0 t) :
    ∃ s₂ o, Steps p.tables e below S0 s₂ ∧ s₂.status = .running ∧ Ended s₂ below o ∧ (∃ v L, o = .returned v ∧ (v = some (.int (1 : Int32)) ∧ Fr n0 L) ∧ FrameEnd s o s₂ L 40 192) := by
  have bn1 := own_add1 nn (by omega)
  have szq := Z0
  have bl := own_sub1 nn (by omega)
  have bl2 : 0 ≤ (nn - (1 : Int32)).toInt ∧ (nn - (1 : Int32)).toInt < nn.toInt := by omega
  obtain ⟨x1, hx1⟩ := own_exJ (own_pV_vl hG) bl2
  obtain ⟨x2, hx2⟩ := own_exJ (own_pV_vh hG) bl2
  obtain ⟨x3, hx3⟩ := own_exJ (own_pV_vf hG) bl2
  obtain ⟨x4, hx4⟩ := own_exJ (own_pV_vg hG) bl2
  obtain ⟨x5, hx5⟩ := own_exB (own_pV_vs hG) bl2
  have K1 : own_R p e below (T.setTop (mkF m 129 #[lv p1, .second, lv p2, .second, lv p3, .second, lv p4, .second, lv p5, .second, iv p6, iv sg, iv mm, iv nn, iv jx, rv va, rv vc, rv ob, iv (nn - (1 : Int32)), .unset, .unset, .unset, .unset, .unset, .unset, .unset, .unset, .unset, .unset, .unset, .unset] [(.int (nn - (1 : Int32))), (.ref ob)])) S0 := by
    intro t hk
    refine K0 t ?_
    show Steps p.tables e below (T.setTop (mkF m 119 #[lv p1, .second, lv p2, .second, lv p3, .second, lv p4, .second, lv p5, .second, iv p6, iv sg, iv mm, iv nn, iv jx, rv va, rv vc, rv ob, .unset, .unset, .unset, .unset, .unset, .unset, .unset, .unset, .unset, .unset, .unset, .unset, .unset] [])) _
    refine XS.iload X.here hx rfl (hb hby at_119) rfl ?_
    refine XS.iconst X.here hx rfl (hb hby at_121) ?_
    refine XS.isub X.here hx rfl (hb hby at_122) rfl ?_
    refine XS.istore X.here hx rfl (hb hby at_123) rfl (l' := #[lv p1, .second, lv p2, .second, lv p3, .second, lv p4, .second, lv p5, .second, iv p6, iv sg, iv mm, iv nn, iv jx, rv va, rv vc, rv ob, iv (nn - (1 : Int32)), .unset, .unset, .unset, .unset, .unset, .unset, .unset, .unset, .unset, .unset, .unset, .unset]) rfl ?_
    refine XS.aload X.here hx rfl (hb hby at_125) rfl rfl ?_
    refine XS.iload X.here hx rfl (hb hby at_127) rfl ?_
    exact hk
  obtain ⟨cq2, kq2, q2a, q2b, q2c⟩ := isOf hZ e0 (own_pE hG)
  obtain ⟨_, _, ⟨T2, L2, k2, n2⟩, -, X2, ⟨Lc2, hQ2, l2, y2, z2⟩, st2⟩ := X.virtualBack hx (y := (⟨"com/example/bitrun/bitrun/orc/intv2/Segments", "lowest", "(I)J"⟩ : MethodName)) (z := (⟨"com/example/bitrun/bitrun/orc/intv2/Segments", "lowest", "(I)J"⟩ : MethodName)) hown (mvT hZ (hw _ (List.mem_of_getElem? (i := 114) rfl))) (mvT hZ (hw _ (List.mem_of_getElem? (i := 115) rfl))) (notFace_of_selects (args := #[]) (mvT hZ (hw _ (List.mem_of_getElem? (i := 117) rfl)))) (mvT hZ (hw _ (List.mem_of_getElem? (i := 117) rfl))) (mvT hZ (hw _ (List.mem_of_getElem? (i := 116) rfl))) (by decide) (backOf (W := 0) (rm21 l Z a0 hw [] ob (nn - (1 : Int32)) va vb vl vh vf vg vs _ kb kl kh kf kg ks fl nn nb _ nn VB VL VH VF VG VS x1 h0 n0 Z0 hO hG bl2 hx1) hZ (hw _ (List.mem_of_getElem? (i := 118) rfl)) (hw _ (List.mem_of_getElem? (i := 4) rfl)) (by decide) (by decide)) q2a q2c (g := (mkF m 129 #[lv p1, .second, lv p2, .second, lv p3, .second, lv p4, .second, lv p5, .second, iv p6, iv sg, iv mm, iv nn, iv jx, rv va, rv vc, rv ob, iv (nn - (1 : Int32)), .unset, .unset, .unset, .unset, .unset, .unset, .unset, .unset, .unset, .unset, .unset, .unset] [(.int (nn - (1 : Int32))), (.ref ob)])) rfl (by rw [hml]; rfl) (Steps.refl _) (argsL := [(.int (nn - (1 : Int32)))]) (rest := []) (lenOf (by decide +kernel : parseMethodDescriptor "(I)J" = some ⟨[.int], (some .long)⟩) rfl) rfl (by show 2 * 0 + _ ≤ _; exact Nat.le_of_eq rfl) (hb hby at_129) (fun _ _ => ⟨rfl, e0, (by show cells + 0 ≤ 40; omega), (by show slots + 0 ≤ 192; omega)⟩)
  dsimp only [Pt.U, Pt.locs, Pt.cells, Pt.slots] at X2 l2 y2 z2 st2 hQ2
  replace y2 := y2.symm; replace z2 := z2.symm; subst l2 y2 z2
  obtain ⟨rfl, Nq2, e2⟩ := hQ2
  have N2 := Fr.app N0 Nq2
  have K2 : own_R p e below (T2.setTop (mkF m 132 #[lv p1, .second, lv p2, .second, lv p3, .second, lv p4, .second, lv p5, .second, iv p6, iv sg, iv mm, iv nn, iv jx, rv va, rv vc, rv ob, iv (nn - (1 : Int32)), .unset, .unset, .unset, .unset, .unset, .unset, .unset, .unset, .unset, .unset, .unset, .unset] [(.long x1)])) S0 := fun t hk => K1 t (st2.trans hk)
  have K3 : own_R p e below (T2.setTop (mkF m 138 #[lv p1, .second, lv p2, .second, lv p3, .second, lv p4, .second, lv p5, .second, iv p6, iv sg, iv mm, iv nn, iv jx, rv va, rv vc, rv ob, iv (nn - (1 : Int32)), lv x1, .second, .unset, .unset, .unset, .unset, .unset, .unset, .unset, .unset, .unset, .unset] [(.int (nn - (1 : Int32))), (.ref ob)])) S0 := by
    intro t hk
    refine K2 t ?_
    show Steps p.tables e below (T2.setTop (mkF m 132 #[lv p1, .second, lv p2, .second, lv p3, .second, lv p4, .second, lv p5, .second, iv p6, iv sg, iv mm, iv nn, iv jx, rv va, rv vc, rv ob, iv (nn - (1 : Int32)), .unset, .unset, .unset, .unset, .unset, .unset, .unset, .unset, .unset, .unset, .unset, .unset] [(.long x1)])) _
    refine XS.lstore X2.here hx rfl (hb hby at_132) rfl (l' := #[lv p1, .second, lv p2, .second, lv p3, .second, lv p4, .second, lv p5, .second, iv p6, iv sg, iv mm, iv nn, iv jx, rv va, rv vc, rv ob, iv (nn - (1 : Int32)), lv x1, .second, .unset, .unset, .unset, .unset, .unset, .unset, .unset, .unset, .unset, .unset]) rfl ?_
    refine XS.aload X2.here hx rfl (hb hby at_134) rfl rfl ?_
    refine XS.iload X2.here hx rfl (hb hby at_136) rfl ?_
    exact hk
  obtain ⟨cq4, kq4, q4a, q4b, q4c⟩ := isOf hZ e2 (own_pE hG)
  obtain ⟨_, _, ⟨T4, L4, k4, n4⟩, -, X4, ⟨Lc4, hQ4, l4, y4, z4⟩, st4⟩ := X2.virtualBack hx (y := (⟨"com/example/bitrun/bitrun/orc/intv2/Segments", "highest", "(I)J"⟩ : MethodName)) (z := (⟨"com/example/bitrun/bitrun/orc/intv2/Segments", "highest", "(I)J"⟩ : MethodName)) hown (mvT hZ (hw _ (List.mem_of_getElem? (i := 119) rfl))) (mvT hZ (hw _ (List.mem_of_getElem? (i := 120) rfl))) (notFace_of_selects (args := #[]) (mvT hZ (hw _ (List.mem_of_getElem? (i := 122) rfl)))) (mvT hZ (hw _ (List.mem_of_getElem? (i := 122) rfl))) (mvT hZ (hw _ (List.mem_of_getElem? (i := 121) rfl))) (by decide) (backOf (W := 0) (rm22 l Z a0 hw [] ob (nn - (1 : Int32)) va vb vl vh vf vg vs _ kb kl kh kf kg ks fl nn nb _ nn VB VL VH VF VG VS x2 h0 n0 Z0 hO hG bl2 hx2) hZ (hw _ (List.mem_of_getElem? (i := 123) rfl)) (hw _ (List.mem_of_getElem? (i := 4) rfl)) (by decide) (by decide)) q4a q4c (g := (mkF m 138 #[lv p1, .second, lv p2, .second, lv p3, .second, lv p4, .second, lv p5, .second, iv p6, iv sg, iv mm, iv nn, iv jx, rv va, rv vc, rv ob, iv (nn - (1 : Int32)), lv x1, .second, .unset, .unset, .unset, .unset, .unset, .unset, .unset, .unset, .unset, .unset] [(.int (nn - (1 : Int32))), (.ref ob)])) rfl (by rw [hml]; rfl) (Steps.refl _) (argsL := [(.int (nn - (1 : Int32)))]) (rest := []) (lenOf (by decide +kernel : parseMethodDescriptor "(I)J" = some ⟨[.int], (some .long)⟩) rfl) rfl (by show 2 * 0 + _ ≤ _; exact Nat.le_of_eq rfl) (hb hby at_138) (fun _ _ => ⟨rfl, e2, (by show cells + 0 + 0 ≤ 40; omega), (by show slots + 0 + 0 ≤ 192; omega)⟩)
  dsimp only [Pt.U, Pt.locs, Pt.cells, Pt.slots] at X4 l4 y4 z4 st4 hQ4
  replace y4 := y4.symm; replace z4 := z4.symm; subst l4 y4 z4
  obtain ⟨rfl, Nq4, e4⟩ := hQ4
  have N4 := Fr.app N2 Nq4
  have K4 : own_R p e below (T4.setTop (mkF m 141 #[lv p1, .second, lv p2, .second, lv p3, .second, lv p4, .second, lv p5, .second, iv p6, iv sg, iv mm, iv nn, iv jx, rv va, rv vc, rv ob, iv (nn - (1 : Int32)), lv x1, .second, .unset, .unset, .unset, .unset, .unset, .unset, .unset, .unset, .unset, .unset] [(.long x2)])) S0 := fun t hk => K3 t (st4.trans hk)
  have K5 : own_R p e below (T4.setTop (mkF m 147 #[lv p1, .second, lv p2, .second, lv p3, .second, lv p4, .second, lv p5, .second, iv p6, iv sg, iv mm, iv nn, iv jx, rv va, rv vc, rv ob, iv (nn - (1 : Int32)), lv x1, .second, lv x2, .second, .unset, .unset, .unset, .unset, .unset, .unset, .unset, .unset] [(.int (nn - (1 : Int32))), (.ref ob)])) S0 := by
    intro t hk
    refine K4 t ?_
    show Steps p.tables e below (T4.setTop (mkF m 141 #[lv p1, .second, lv p2, .second, lv p3, .second, lv p4, .second, lv p5, .second, iv p6, iv sg, iv mm, iv nn, iv jx, rv va, rv vc, rv ob, iv (nn - (1 : Int32)), lv x1, .second, .unset, .unset, .unset, .unset, .unset, .unset, .unset, .unset, .unset, .unset] [(.long x2)])) _
    refine XS.lstore X4.here hx rfl (hb hby at_141) rfl (l' := #[lv p1, .second, lv p2, .second, lv p3, .second, lv p4, .second, lv p5, .second, iv p6, iv sg, iv mm, iv nn, iv jx, rv va, rv vc, rv ob, iv (nn - (1 : Int32)), lv x1, .second, lv x2, .second, .unset, .unset, .unset, .unset, .unset, .unset, .unset, .unset]) rfl ?_
    refine XS.aload X4.here hx rfl (hb hby at_143) rfl rfl ?_
    refine XS.iload X4.here hx rfl (hb hby at_145) rfl ?_
    exact hk
  obtain ⟨cq6, kq6, q6a, q6b, q6c⟩ := isOf hZ e4 (own_pE hG)
  obtain ⟨_, _, ⟨T6, L6, k6, n6⟩, -, X6, ⟨Lc6, hQ6, l6, y6, z6⟩, st6⟩ := X4.virtualBack hx (y := (⟨"com/example/bitrun/bitrun/orc/intv2/Segments", "firstStep", "(I)J"⟩ : MethodName)) (z := (⟨"com/example/bitrun/bitrun/orc/intv2/Segments", "firstStep", "(I)J"⟩ : MethodName)) hown (mvT hZ (hw _ (List.mem_of_getElem? (i := 124) rfl))) (mvT hZ (hw _ (List.mem_of_getElem? (i := 125) rfl))) (notFace_of_selects (args := #[]) (mvT hZ (hw _ (List.mem_of_getElem? (i := 127) rfl)))) (mvT hZ (hw _ (List.mem_of_getElem? (i := 127) rfl))) (mvT hZ (hw _ (List.mem_of_getElem? (i := 126) rfl))) (by decide) (backOf (W := 0) (rm23 l Z a0 hw [] ob (nn - (1 : Int32)) va vb vl vh vf vg vs _ kb kl kh kf kg ks fl nn nb _ nn VB VL VH VF VG VS x3 h0 n0 Z0 hO hG bl2 hx3) hZ (hw _ (List.mem_of_getElem? (i := 128) rfl)) (hw _ (List.mem_of_getElem? (i := 4) rfl)) (by decide) (by decide)) q6a q6c (g := (mkF m 147 #[lv p1, .second, lv p2, .second, lv p3, .second, lv p4, .second, lv p5, .second, iv p6, iv sg, iv mm, iv nn, iv jx, rv va, rv vc, rv ob, iv (nn - (1 : Int32)), lv x1, .second, lv x2, .second, .unset, .unset, .unset, .unset, .unset, .unset, .unset, .unset] [(.int (nn - (1 : Int32))), (.ref ob)])) rfl (by rw [hml]; rfl) (Steps.refl _) (argsL := [(.int (nn - (1 : Int32)))]) (rest := []) (lenOf (by decide +kernel : parseMethodDescriptor "(I)J" = some ⟨[.int], (some .long)⟩) rfl) rfl (by show 2 * 0 + _ ≤ _; exact Nat.le_of_eq rfl) (hb hby at_147) (fun _ _ => ⟨rfl, e4, (by show cells + 0 + 0 + 0 ≤ 40; omega), (by show slots + 0 + 0 + 0 ≤ 192; omega)⟩)
  dsimp only [Pt.U, Pt.locs, Pt.cells, Pt.slots] at X6 l6 y6 z6 st6 hQ6
  replace y6 := y6.symm; replace z6 := z6.symm; subst l6 y6 z6
  obtain ⟨rfl, Nq6, e6⟩ := hQ6
  have N6 := Fr.app N4 Nq6
  have K6 : own_R p e below (T6.setTop (mkF m 150 #[lv p1, .second, lv p2, .second, lv p3, .second, lv p4, .second, lv p5, .second, iv p6, iv sg, iv mm, iv nn, iv jx, rv va, rv vc, rv ob, iv (nn - (1 : Int32)), lv x1, .second, lv x2, .second, .unset, .unset, .unset, .unset, .unset, .unset, .unset, .unset] [(.long x3)])) S0 := fun t hk => K5 t (st6.trans hk)
  have K7 : own_R p e below (T6.setTop (mkF m 156 #[lv p1, .second, lv p2, .second, lv p3, .second, lv p4, .second, lv p5, .second, iv p6, iv sg, iv mm, iv nn, iv jx, rv va, rv vc, rv ob, iv (nn - (1 : Int32)), lv x1, .second, lv x2, .second, lv x3, .second, .unset, .unset, .unset, .unset, .unset, .unset] [(.int (nn - (1 : Int32))), (.ref ob)])) S0 := by
    intro t hk
    refine K6 t ?_
    show Steps p.tables e below (T6.setTop (mkF m 150 #[lv p1, .second, lv p2, .second, lv p3, .second, lv p4, .second, lv p5, .second, iv p6, iv sg, iv mm, iv nn, iv jx, rv va, rv vc, rv ob, iv (nn - (1 : Int32)), lv x1, .second, lv x2, .second, .unset, .unset, .unset, .unset, .unset, .unset, .unset, .unset] [(.long x3)])) _
    refine XS.lstore X6.here hx rfl (hb hby at_150) rfl (l' := #[lv p1, .second, lv p2, .second, lv p3, .second, lv p4, .second, lv p5, .second, iv p6, iv sg, iv mm, iv nn, iv jx, rv va, rv vc, rv ob, iv (nn - (1 : Int32)), lv x1, .second, lv x2, .second, lv x3, .second, .unset, .unset, .unset, .unset, .unset, .unset]) rfl ?_
    refine XS.aload X6.here hx rfl (hb hby at_152) rfl rfl ?_
    refine XS.iload X6.here hx rfl (hb hby at_154) rfl ?_
    exact hk
  obtain ⟨cq8, kq8, q8a, q8b, q8c⟩ := isOf hZ e6 (own_pE hG)
  obtain ⟨_, _, ⟨T8, L8, k8, n8⟩, -, X8, ⟨Lc8, hQ8, l8, y8, z8⟩, st8⟩ := X6.virtualBack hx (y := (⟨"com/example/bitrun/bitrun/orc/intv2/Segments", "magnitudes", "(I)J"⟩ : MethodName)) (z := (⟨"com/example/bitrun/bitrun/orc/intv2/Segments", "magnitudes", "(I)J"⟩ : MethodName)) hown (mvT hZ (hw _ (List.mem_of_getElem? (i := 129) rfl))) (mvT hZ (hw _ (List.mem_of_getElem? (i := 130) rfl))) (notFace_of_selects (args := #[]) (mvT hZ (hw _ (List.mem_of_getElem? (i := 132) rfl)))) (mvT hZ (hw _ (List.mem_of_getElem? (i := 132) rfl))) (mvT hZ (hw _ (List.mem_of_getElem? (i := 131) rfl))) (by decide) (backOf (W := 0) (rm24 l Z a0 hw [] ob (nn - (1 : Int32)) va vb vl vh vf vg vs _ kb kl kh kf kg ks fl nn nb _ nn VB VL VH VF VG VS x4 h0 n0 Z0 hO hG bl2 hx4) hZ (hw _ (List.mem_of_getElem? (i := 133) rfl)) (hw _ (List.mem_of_getElem? (i := 4) rfl)) (by decide) (by decide)) q8a q8c (g := (mkF m 156 #[lv p1, .second, lv p2, .second, lv p3, .second, lv p4, .second, lv p5, .second, iv p6, iv sg, iv mm, iv nn, iv jx, rv va, rv vc, rv ob, iv (nn - (1 : Int32)), lv x1, .second, lv x2, .second, lv x3, .second, .unset, .unset, .unset, .unset, .unset, .unset] [(.int (nn - (1 : Int32))), (.ref ob)])) rfl (by rw [hml]; rfl) (Steps.refl _) (argsL := [(.int (nn - (1 : Int32)))]) (rest := []) (lenOf (by decide +kernel : parseMethodDescriptor "(I)J" = some ⟨[.int], (some .long)⟩) rfl) rfl (by show 2 * 0 + _ ≤ _; exact Nat.le_of_eq rfl) (hb hby at_156) (fun _ _ => ⟨rfl, e6, (by show cells + 0 + 0 + 0 + 0 ≤ 40; omega), (by show slots + 0 + 0 + 0 + 0 ≤ 192; omega)⟩)
  dsimp only [Pt.U, Pt.locs, Pt.cells, Pt.slots] at X8 l8 y8 z8 st8 hQ8
  replace y8 := y8.symm; replace z8 := z8.symm; subst l8 y8 z8
  obtain ⟨rfl, Nq8, e8⟩ := hQ8
  have N8 := Fr.app N6 Nq8
  have K8 : own_R p e below (T8.setTop (mkF m 159 #[lv p1, .second, lv p2, .second, lv p3, .second, lv p4, .second, lv p5, .second, iv p6, iv sg, iv mm, iv nn, iv jx, rv va, rv vc, rv ob, iv (nn - (1 : Int32)), lv x1, .second, lv x2, .second, lv x3, .second, .unset, .unset, .unset, .unset, .unset, .unset] [(.long x4)])) S0 := fun t hk => K7 t (st8.trans hk)
  have K9 : own_R p e below (T8.setTop (mkF m 165 #[lv p1, .second, lv p2, .second, lv p3, .second, lv p4, .second, lv p5, .second, iv p6, iv sg, iv mm, iv nn, iv jx, rv va, rv vc, rv ob, iv (nn - (1 : Int32)), lv x1, .second, lv x2, .second, lv x3, .second, lv x4, .second, .unset, .unset, .unset, .unset] [(.int (nn - (1 : Int32))), (.ref ob)])) S0 := by
    intro t hk
    refine K8 t ?_
    show Steps p.tables e below (T8.setTop (mkF m 159 #[lv p1, .second, lv p2, .second, lv p3, .second, lv p4, .second, lv p5, .second, iv p6, iv sg, iv mm, iv nn, iv jx, rv va, rv vc, rv ob, iv (nn - (1 : Int32)), lv x1, .second, lv x2, .second, lv x3, .second, .unset, .unset, .unset, .unset, .unset, .unset] [(.long x4)])) _
    refine XS.lstore X8.here hx rfl (hb hby at_159) rfl (l' := #[lv p1, .second, lv p2, .second, lv p3, .second, lv p4, .second, lv p5, .second, iv p6, iv sg, iv mm, iv nn, iv jx, rv va, rv vc, rv ob, iv (nn - (1 : Int32)), lv x1, .second, lv x2, .second, lv x3, .second, lv x4, .second, .unset, .unset, .unset, .unset]) rfl ?_
    refine XS.aload X8.here hx rfl (hb hby at_161) rfl rfl ?_
    refine XS.iload X8.here hx rfl (hb hby at_163) rfl ?_
    exact hk
  obtain ⟨cq10, kq10, q10a, q10b, q10c⟩ := isOf hZ e8 (own_pE hG)
  obtain ⟨_, _, ⟨T10, L10, k10, n10⟩, -, X10, ⟨Lc10, hQ10, l10, y10, z10⟩, st10⟩ := X8.virtualBack hx (y := (⟨"com/example/bitrun/bitrun/orc/intv2/Segments", "steps", "(I)I"⟩ : MethodName)) (z := (⟨"com/example/bitrun/bitrun/orc/intv2/Segments", "steps", "(I)I"⟩ : MethodName)) hown (mvT hZ (hw _ (List.mem_of_getElem? (i := 134) rfl))) (mvT hZ (hw _ (List.mem_of_getElem? (i := 135) rfl))) (notFace_of_selects (args := #[]) (mvT hZ (hw _ (List.mem_of_getElem? (i := 137) rfl)))) (mvT hZ (hw _ (List.mem_of_getElem? (i := 137) rfl))) (mvT hZ (hw _ (List.mem_of_getElem? (i := 136) rfl))) (by decide) (backOf (W := 0) (rm25 l Z a0 hw [] ob (nn - (1 : Int32)) va vb vl vh vf vg vs _ kb kl kh kf kg ks fl nn nb _ nn VB VL VH VF VG VS x5 h0 n0 Z0 hO hG bl2 hx5) hZ (hw _ (List.mem_of_getElem? (i := 138) rfl)) (hw _ (List.mem_of_getElem? (i := 4) rfl)) (by decide) (by decide)) q10a q10c (g := (mkF m 165 #[lv p1, .second, lv p2, .second, lv p3, .second, lv p4, .second, lv p5, .second, iv p6, iv sg, iv mm, iv nn, iv jx, rv va, rv vc, rv ob, iv (nn - (1 : Int32)), lv x1, .second, lv x2, .second, lv x3, .second, lv x4, .second, .unset, .unset, .unset, .unset] [(.int (nn - (1 : Int32))), (.ref ob)])) rfl (by rw [hml]; rfl) (Steps.refl _) (argsL := [(.int (nn - (1 : Int32)))]) (rest := []) (lenOf (by decide +kernel : parseMethodDescriptor "(I)I" = some ⟨[.int], (some .int)⟩) rfl) rfl (by show 2 * 0 + _ ≤ _; exact Nat.le_of_eq rfl) (hb hby at_165) (fun _ _ => ⟨rfl, e8, (by show cells + 0 + 0 + 0 + 0 + 0 ≤ 40; omega), (by show slots + 0 + 0 + 0 + 0 + 0 ≤ 192; omega)⟩)
  dsimp only [Pt.U, Pt.locs, Pt.cells, Pt.slots] at X10 l10 y10 z10 st10 hQ10
  replace y10 := y10.symm; replace z10 := z10.symm; subst l10 y10 z10
  obtain ⟨rfl, Nq10, e10⟩ := hQ10
  have N10 := Fr.app N8 Nq10
  have K10 : own_R p e below (T10.setTop (mkF m 168 #[lv p1, .second, lv p2, .second, lv p3, .second, lv p4, .second, lv p5, .second, iv p6, iv sg, iv mm, iv nn, iv jx, rv va, rv vc, rv ob, iv (nn - (1 : Int32)), lv x1, .second, lv x2, .second, lv x3, .second, lv x4, .second, .unset, .unset, .unset, .unset] [(.int x5)])) S0 := fun t hk => K9 t (st10.trans hk)
  have K11 : own_R p e below (T10.setTop (mkF m 174 #[lv p1, .second, lv p2, .second, lv p3, .second, lv p4, .second, lv p5, .second, iv p6, iv sg, iv mm, iv nn, iv jx, rv va, rv vc, rv ob, iv (nn - (1 : Int32)), lv x1, .second, lv x2, .second, lv x3, .second, lv x4, .second, iv x5, .unset, .unset, .unset] [(.int jx), (.ref ob)])) S0 := by
    intro t hk
    refine K10 t ?_
    show Steps p.tables e below (T10.setTop (mkF m 168 #[lv p1, .second, lv p2, .second, lv p3, .second, lv p4, .second, lv p5, .second, iv p6, iv sg, iv mm, iv nn, iv jx, rv va, rv vc, rv ob, iv (nn - (1 : Int32)), lv x1, .second, lv x2, .second, lv x3, .second, lv x4, .second, .unset, .unset, .unset, .unset] [(.int x5)])) _
    refine XS.istore X10.here hx rfl (hb hby at_168) rfl (l' := #[lv p1, .second, lv p2, .second, lv p3, .second, lv p4, .second, lv p5, .second, iv p6, iv sg, iv mm, iv nn, iv jx, rv va, rv vc, rv ob, iv (nn - (1 : Int32)), lv x1, .second, lv x2, .second, lv x3, .second, lv x4, .second, iv x5, .unset, .unset, .unset]) rfl ?_
    refine XS.aload X10.here hx rfl (hb hby at_170) rfl rfl ?_
    refine XS.iload X10.here hx rfl (hb hby at_172) rfl ?_
    exact hk
  obtain ⟨cq12, kq12, q12a, q12b, q12c⟩ := isOf hZ e10 (own_pE hG)
  obtain ⟨_, _, ⟨T12, L12, k12, n12⟩, -, X12, ⟨Lc12, hQ12, l12, y12, z12⟩, st12⟩ := X10.virtualBack hx (y := (⟨"com/example/bitrun/bitrun/orc/intv2/Segments", "restartAt", "(I)V"⟩ : MethodName)) (z := (⟨"com/example/bitrun/bitrun/orc/intv2/Segments", "restartAt", "(I)V"⟩ : MethodName)) hown (mvT hZ (hw _ (List.mem_of_getElem? (i := 139) rfl))) (mvT hZ (hw _ (List.mem_of_getElem? (i := 140) rfl))) (notFace_of_selects (args := #[]) (mvT hZ (hw _ (List.mem_of_getElem? (i := 142) rfl)))) (mvT hZ (hw _ (List.mem_of_getElem? (i := 142) rfl))) (mvT hZ (hw _ (List.mem_of_getElem? (i := 141) rfl))) (by decide) (backOf (W := 0) (rm26 l Z a0 hw [] ob jx va vb vl vh vf vg vs _ kb kl kh kf kg ks fl nn nb _ nn VB VL VH VF VG VS h0 n0 Z0 hO hG ⟨by omega, Int.le_refl _⟩ bj) hZ (hw _ (List.mem_of_getElem? (i := 143) rfl)) (hw _ (List.mem_of_getElem? (i := 4) rfl)) (by decide) (by decide)) q12a q12c (g := (mkF m 174 #[lv p1, .second, lv p2, .second, lv p3, .second, lv p4, .second, lv p5, .second, iv p6, iv sg, iv mm, iv nn, iv jx, rv va, rv vc, rv ob, iv (nn - (1 : Int32)), lv x1, .second, lv x2, .second, lv x3, .second, lv x4, .second, iv x5, .unset, .unset, .unset] [(.int jx), (.ref ob)])) rfl (by rw [hml]; rfl) (Steps.refl _) (argsL := [(.int jx)]) (rest := []) (lenOf (by decide +kernel : parseMethodDescriptor "(I)V" = some ⟨[.int], none⟩) rfl) rfl (by show 2 * 0 + _ ≤ _; exact Nat.le_of_eq rfl) (hb hby at_174) (fun _ _ => ⟨rfl, e10, (by show cells + 0 + 0 + 0 + 0 + 0 + 0 ≤ 40; omega), (by show slots + 0 + 0 + 0 + 0 + 0 + 0 ≤ 192; omega)⟩)
  dsimp only [Pt.U, Pt.locs, Pt.cells, Pt.slots] at X12 l12 y12 z12 st12 hQ12
  replace y12 := y12.symm; replace z12 := z12.symm; subst l12 y12 z12
  obtain ⟨rfl, Nq12, Kq12, WB, WL, WH, WF, WG, WT, hG2, R0, R1, RR⟩ := hQ12
  have N12 := Fr.app N10 Nq12
  have K12 : own_R p e below (T12.setTop (mkF m 177 #[lv p1, .second, lv p2, .second, lv p3, .second, lv p4, .second, lv p5, .second, iv p6, iv sg, iv mm, iv nn, iv jx, rv va, rv vc, rv ob, iv (nn - (1 : Int32)), lv x1, .second, lv x2, .second, lv x3, .second, lv x4, .second, iv x5, .unset, .unset, .unset] [])) S0 := fun t hk => K11 t (st12.trans hk)
  have szr := Nat.le_trans szq Kq12.1
  have ek : (nn - jx).toInt = nn.toInt - jx.toInt := (Int32.toInt_sub nn jx).trans (Int.bmod_eq_of_le (by omega) (by omega))
  have e00 : (0 : Int32).toInt = 0 := by decide
  have enb : nb.toInt = nn.toInt + 1 := by rw [hnb]; exact bn1
  have jn : jx.toNatClampNeg ≤ nn.toNatClampNeg := by show jx.toInt.toNat ≤ nn.toInt.toNat; omega
  have K13 : own_R p e below (T12.setTop (mkF m 186 #[lv p1, .second, lv p2, .second, lv p3, .second, lv p4, .second, lv p5, .second, iv p6, iv sg, iv mm, iv nn, iv jx, rv va, rv vc, rv ob, iv (nn - (1 : Int32)), lv x1, .second, lv x2, .second, lv x3, .second, lv x4, .second, iv x5, iv (nn - jx), .unset, .unset] [(.ref ob)])) S0 := by
    intro t hk
    refine K12 t ?_
    show Steps p.tables e below (T12.setTop (mkF m 177 #[lv p1, .second, lv p2, .second, lv p3, .second, lv p4, .second, lv p5, .second, iv p6, iv sg, iv mm, iv nn, iv jx, rv va, rv vc, rv ob, iv (nn - (1 : Int32)), lv x1, .second, lv x2, .second, lv x3, .second, lv x4, .second, iv x5, .unset, .unset, .unset] [])) _
    refine XS.iload X12.here hx rfl (hb hby at_177) rfl ?_
    refine XS.iload X12.here hx rfl (hb hby at_179) rfl ?_
    refine XS.isub X12.here hx rfl (hb hby at_181) rfl ?_
    refine XS.istore X12.here hx rfl (hb hby at_182) rfl (l' := #[lv p1, .second, lv p2, .second, lv p3, .second, lv p4, .second, lv p5, .second, iv p6, iv sg, iv mm, iv nn, iv jx, rv va, rv vc, rv ob, iv (nn - (1 : Int32)), lv x1, .second, lv x2, .second, lv x3, .second, lv x4, .second, iv x5, iv (nn - jx), .unset, .unset]) rfl ?_
    refine XS.aload X12.here hx rfl (hb hby at_184) rfl rfl ?_
    exact hk
  obtain ⟨cq14, kq14, q14a, q14b, q14c⟩ := isOf hZ rfl (own_pE hG2)
  obtain ⟨_, _, ⟨T14, L14, k14, n14⟩, -, X14, ⟨Lc14, hQ14, l14, y14, z14⟩, st14⟩ := X12.virtualBack hx (y := (⟨"com/example/bitrun/bitrun/orc/intv2/Segments", "count", "()I"⟩ : MethodName)) (z := (⟨"com/example/bitrun/bitrun/orc/intv2/Segments", "count", "()I"⟩ : MethodName)) hown (mvT hZ (hw _ (List.mem_of_getElem? (i := 144) rfl))) (mvT hZ (hw _ (List.mem_of_getElem? (i := 145) rfl))) (notFace_of_selects (args := #[]) (mvT hZ (hw _ (List.mem_of_getElem? (i := 147) rfl)))) (mvT hZ (hw _ (List.mem_of_getElem? (i := 147) rfl))) (mvT hZ (hw _ (List.mem_of_getElem? (i := 146) rfl))) (by decide) (backOf (W := 0) (rm27 l Z a0 hw [] ob va vb vl vh vf vg vs _ kb kl kh kf kg ks fl nn nb _ (nn - jx) WB WL WH WF WG WT T12.heap n0 szr hO hG2) hZ (hw _ (List.mem_of_getElem? (i := 148) rfl)) (hw _ (List.mem_of_getElem? (i := 4) rfl)) (by decide) (by decide)) q14a q14c (g := (mkF m 186 #[lv p1, .second, lv p2, .second, lv p3, .second, lv p4, .second, lv p5, .second, iv p6, iv sg, iv mm, iv nn, iv jx, rv va, rv vc, rv ob, iv (nn - (1 : Int32)), lv x1, .second, lv x2, .second, lv x3, .second, lv x4, .second, iv x5, iv (nn - jx), .unset, .unset] [(.ref ob)])) rfl (by rw [hml]; rfl) (Steps.refl _) (argsL := []) (rest := []) (lenOf (by decide +kernel : parseMethodDescriptor "()I" = some ⟨[], (some .int)⟩) rfl) rfl (by show 2 * 0 + _ ≤ _; exact Nat.le_of_eq rfl) (hb hby at_186) (fun _ _ => ⟨rfl, rfl, (by show cells + 0 + 0 + 0 + 0 + 0 + 0 + 0 ≤ 40; omega), (by show slots + 0 + 0 + 0 + 0 + 0 + 0 + 0 ≤ 192; omega)⟩)
  dsimp only [Pt.U, Pt.locs, Pt.cells, Pt.slots] at X14 l14 y14 z14 st14 hQ14
  replace y14 := y14.symm; replace z14 := z14.symm; subst l14 y14 z14
  obtain ⟨rfl, Nq14, e14⟩ := hQ14
  have N14 := Fr.app N12 Nq14
  have K14 : own_R p e below (T14.setTop (mkF m 189 #[lv p1, .second, lv p2, .second, lv p3, .second, lv p4, .second, lv p5, .second, iv p6, iv sg, iv mm, iv nn, iv jx, rv va, rv vc, rv ob, iv (nn - (1 : Int32)), lv x1, .second, lv x2, .second, lv x3, .second, lv x4, .second, iv x5, iv (nn - jx), .unset, .unset] [(.int (nn - jx))])) S0 := fun t hk => K13 t (st14.trans hk)
  have K15 : own_R p e below (T14.setTop (mkF m 191 #[lv p1, .second, lv p2, .second, lv p3, .second, lv p4, .second, lv p5, .second, iv p6, iv sg, iv mm, iv nn, iv jx, rv va, rv vc, rv ob, iv (nn - (1 : Int32)), lv x1, .second, lv x2, .second, lv x3, .second, lv x4, .second, iv x5, iv (nn - jx), .unset, .unset] [(.int (nn - jx)), (.int (nn - jx))])) S0 := by
    intro t hk
    refine K14 t ?_
    show Steps p.tables e below (T14.setTop (mkF m 189 #[lv p1, .second, lv p2, .second, lv p3, .second, lv p4, .second, lv p5, .second, iv p6, iv sg, iv mm, iv nn, iv jx, rv va, rv vc, rv ob, iv (nn - (1 : Int32)), lv x1, .second, lv x2, .second, lv x3, .second, lv x4, .second, iv x5, iv (nn - jx), .unset, .unset] [(.int (nn - jx))])) _
    refine XS.iload X14.here hx rfl (hb hby at_189) rfl ?_
    exact hk
  have hc191 : (nn - jx) = (nn - jx) := rfl
  have K16 : own_R p e below (T14.setTop (mkF m 194 #[lv p1, .second, lv p2, .second, lv p3, .second, lv p4, .second, lv p5, .second, iv p6, iv sg, iv mm, iv nn, iv jx, rv va, rv vc, rv ob, iv (nn - (1 : Int32)), lv x1, .second, lv x2, .second, lv x3, .second, lv x4, .second, iv x5, iv (nn - jx), .unset, .unset] [])) S0 := by
    intro t hk
    refine K15 t ?_
    show Steps p.tables e below (T14.setTop (mkF m 191 #[lv p1, .second, lv p2, .second, lv p3, .second, lv p4, .second, lv p5, .second, iv p6, iv sg, iv mm, iv nn, iv jx, rv va, rv vc, rv ob, iv (nn - (1 : Int32)), lv x1, .second, lv x2, .second, lv x3, .second, lv x4, .second, iv x5, iv (nn - jx), .unset, .unset] [(.int (nn - jx)), (.int (nn - jx))])) _
    refine XS.icmpNo X14.here hx rfl (hb hby at_191) rfl (teq hc191).2 ?_
    exact hk
  have K17 : own_R p e below (T14.setTop (mkF m 197 #[lv p1, .second, lv p2, .second, lv p3, .second, lv p4, .second, lv p5, .second, iv p6, iv sg, iv mm, iv nn, iv jx, rv va, rv vc, rv ob, iv (nn - (1 : Int32)), lv x1, .second, lv x2, .second, lv x3, .second, lv x4, .second, iv x5, iv (nn - jx), .unset, .unset] [(.int (0 : Int32)), (.ref ob)])) S0 := by
    intro t hk
    refine K16 t ?_
    show Steps p.tables e below (T14.setTop (mkF m 194 #[lv p1, .second, lv p2, .second, lv p3, .second, lv p4, .second, lv p5, .second, iv p6, iv sg, iv mm, iv nn, iv jx, rv va, rv vc, rv ob, iv (nn - (1 : Int32)), lv x1, .second, lv x2, .second, lv x3, .second, lv x4, .second, iv x5, iv (nn - jx), .unset, .unset] [])) _
    refine XS.aload X14.here hx rfl (hb hby at_194) rfl rfl ?_
    refine XS.iconst X14.here hx rfl (hb hby at_196) ?_
    exact hk
  obtain ⟨cq18, kq18, q18a, q18b, q18c⟩ := isOf hZ e14 (own_pE hG2)
  obtain ⟨_, _, ⟨T18, L18, k18, n18⟩, -, X18, ⟨Lc18, hQ18, l18, y18, z18⟩, st18⟩ := X14.virtualBack hx (y := (⟨"com/example/bitrun/bitrun/orc/intv2/Segments", "bound", "(I)I"⟩ : MethodName)) (z := (⟨"com/example/bitrun/bitrun/orc/intv2/Segments", "bound", "(I)I"⟩ : MethodName)) hown (mvT hZ (hw _ (List.mem_of_getElem? (i := 149) rfl))) (mvT hZ (hw _ (List.mem_of_getElem? (i := 150) rfl))) (notFace_of_selects (args := #[]) (mvT hZ (hw _ (List.mem_of_getElem? (i := 152) rfl)))) (mvT hZ (hw _ (List.mem_of_getElem? (i := 152) rfl))) (mvT hZ (hw _ (List.mem_of_getElem? (i := 151) rfl))) (by decide) (backOf (W := 0) (rm28 l Z a0 hw [] ob (0 : Int32) va vb vl vh vf vg vs _ kb kl kh kf kg ks fl nn nb _ (nn - jx) WB WL WH WF WG WT (Int32.ofNat (2 * jx.toNatClampNeg)) T12.heap n0 szr hO hG2 (by omega) (R0.trans (BB _ jn))) hZ (hw _ (List.mem_of_getElem? (i := 153) rfl)) (hw _ (List.mem_of_getElem? (i := 4) rfl)) (by decide) (by decide)) q18a q18c (g := (mkF m 197 #[lv p1, .second, lv p2, .second, lv p3, .second, lv p4, .second, lv p5, .second, iv p6, iv sg, iv mm, iv nn, iv jx, rv va, rv vc, rv ob, iv (nn - (1 : Int32)), lv x1, .second, lv x2, .second, lv x3, .second, lv x4, .second, iv x5, iv (nn - jx), .unset, .unset] [(.int (0 : Int32)), (.ref ob)])) rfl (by rw [hml]; rfl) (Steps.refl _) (argsL := [(.int (0 : Int32))]) (rest := []) (lenOf (by decide +kernel : parseMethodDescriptor "(I)I" = some ⟨[.int], (some .int)⟩) rfl) rfl (by show 2 * 0 + _ ≤ _; exact Nat.le_of_eq rfl) (hb hby at_197) (fun _ _ => ⟨rfl, e14, (by show cells + 0 + 0 + 0 + 0 + 0 + 0 + 0 + 0 ≤ 40; omega), (by show slots + 0 + 0 + 0 + 0 + 0 + 0 + 0 + 0 ≤ 192; omega)⟩)
  dsimp only [Pt.U, Pt.locs, Pt.cells, Pt.slots] at X18 l18 y18 z18 st18 hQ18
  replace y18 := y18.symm; replace z18 := z18.symm; subst l18 y18 z18
  obtain ⟨rfl, Nq18, e18⟩ := hQ18
  have N18 := Fr.app N14 Nq18
  have K18 : own_R p e below (T18.setTop (mkF m 200 #[lv p1, .second, lv p2, .second, lv p3, .second, lv p4, .second, lv p5, .second, iv p6, iv sg, iv mm, iv nn, iv jx, rv va, rv vc, rv ob, iv (nn - (1 : Int32)), lv x1, .second, lv x2, .second, lv x3, .second, lv x4, .second, iv x5, iv (nn - jx), .unset, .unset] [(.int (Int32.ofNat (2 * jx.toNatClampNeg)))])) S0 := fun t hk => K17 t (st18.trans hk)
  have K19 : own_R p e below (T18.setTop (mkF m 204 #[lv p1, .second, lv p2, .second, lv p3, .second, lv p4, .second, lv p5, .second, iv p6, iv sg, iv mm, iv nn, iv jx, rv va, rv vc, rv ob, iv (nn - (1 : Int32)), lv x1, .second, lv x2, .second, lv x3, .second, lv x4, .second, iv x5, iv (nn - jx), .unset, .unset] [(.int ((2 : Int32) * jx)), (.int (Int32.ofNat (2 * jx.toNatClampNeg)))])) S0 := by
    intro t hk
    refine K18 t ?_
    show Steps p.tables e below (T18.setTop (mkF m 200 #[lv p1, .second, lv p2, .second, lv p3, .second, lv p4, .second, lv p5, .second, iv p6, iv sg, iv mm, iv nn, iv jx, rv va, rv vc, rv ob, iv (nn - (1 : Int32)), lv x1, .second, lv x2, .second, lv x3, .second, lv x4, .second, iv x5, iv (nn - jx), .unset, .unset] [(.int (Int32.ofNat (2 * jx.toNatClampNeg)))])) _
    refine XS.iconst X18.here hx rfl (hb hby at_200) ?_
    refine XS.iload X18.here hx rfl (hb hby at_201) rfl ?_
    refine XS.imul X18.here hx rfl (hb hby at_203) rfl ?_
    exact hk
  have hc204 : (Int32.ofNat (2 * jx.toNatClampNeg)) = ((2 : Int32) * jx) := own_two jx (by omega)
  have K20 : own_R p e below (T18.setTop (mkF m 207 #[lv p1, .second, lv p2, .second, lv p3, .second, lv p4, .second, lv p5, .second, iv p6, iv sg, iv mm, iv nn, iv jx, rv va, rv vc, rv ob, iv (nn - (1 : Int32)), lv x1, .second, lv x2, .second, lv x3, .second, lv x4, .second, iv x5, iv (nn - jx), .unset, .unset] [])) S0 := by
    intro t hk
    refine K19 t ?_
    show Steps p.tables e below (T18.setTop (mkF m 204 #[lv p1, .second, lv p2, .second, lv p3, .second, lv p4, .second, lv p5, .second, iv p6, iv sg, iv mm, iv nn, iv jx, rv va, rv vc, rv ob, iv (nn - (1 : Int32)), lv x1, .second, lv x2, .second, lv x3, .second, lv x4, .second, iv x5, iv (nn - jx), .unset, .unset] [(.int ((2 : Int32) * jx)), (.int (Int32.ofNat (2 * jx.toNatClampNeg)))])) _
    refine XS.icmpNo X18.here hx rfl (hb hby at_204) rfl (teq hc204).2 ?_
    exact hk
  have K21 : own_R p e below (T18.setTop (mkF m 211 #[lv p1, .second, lv p2, .second, lv p3, .second, lv p4, .second, lv p5, .second, iv p6, iv sg, iv mm, iv nn, iv jx, rv va, rv vc, rv ob, iv (nn - (1 : Int32)), lv x1, .second, lv x2, .second, lv x3, .second, lv x4, .second, iv x5, iv (nn - jx), .unset, .unset] [(.int (nn - jx)), (.ref ob)])) S0 := by
    intro t hk
    refine K20 t ?_
    show Steps p.tables e below (T18.setTop (mkF m 207 #[lv p1, .second, lv p2, .second, lv p3, .second, lv p4, .second, lv p5, .second, iv p6, iv sg, iv mm, iv nn, iv jx, rv va, rv vc, rv ob, iv (nn - (1 : Int32)), lv x1, .second, lv x2, .second, lv x3, .second, lv x4, .second, iv x5, iv (nn - jx), .unset, .unset] [])) _
    refine XS.aload X18.here hx rfl (hb hby at_207) rfl rfl ?_
    refine XS.iload X18.here hx rfl (hb hby at_209) rfl ?_
    exact hk
  obtain ⟨cq22, kq22, q22a, q22b, q22c⟩ := isOf hZ e18 (own_pE hG2)
  obtain ⟨_, _, ⟨T22, L22, k22, n22⟩, -, X22, ⟨Lc22, hQ22, l22, y22, z22⟩, st22⟩ := X18.virtualBack hx (y := (⟨"com/example/bitrun/bitrun/orc/intv2/Segments", "bound", "(I)I"⟩ : MethodName)) (z := (⟨"com/example/bitrun/bitrun/orc/intv2/Segments", "bound", "(I)I"⟩ : MethodName)) hown (mvT hZ (hw _ (List.mem_of_getElem? (i := 149) rfl))) (mvT hZ (hw _ (List.mem_of_getElem? (i := 150) rfl))) (notFace_of_selects (args := #[]) (mvT hZ (hw _ (List.mem_of_getElem? (i := 152) rfl)))) (mvT hZ (hw _ (List.mem_of_getElem? (i := 152) rfl))) (mvT hZ (hw _ (List.mem_of_getElem? (i := 151) rfl))) (by decide) (backOf (W := 0) (rm28 l Z a0 hw [] ob (nn - jx) va vb vl vh vf vg vs _ kb kl kh kf kg ks fl nn nb _ (nn - jx) WB WL WH WF WG WT (Int32.ofNat (2 * nn.toNatClampNeg)) T12.heap n0 szr hO hG2 (by omega) (R1.trans (BB _ (Nat.le_refl _)))) hZ (hw _ (List.mem_of_getElem? (i := 153) rfl)) (hw _ (List.mem_of_getElem? (i := 4) rfl)) (by decide) (by decide)) q22a q22c (g := (mkF m 211 #[lv p1, .second, lv p2, .second, lv p3, .second, lv p4, .second, lv p5, .second, iv p6, iv sg, iv mm, iv nn, iv jx, rv va, rv vc, rv ob, iv (nn - (1 : Int32)), lv x1, .second, lv x2, .second, lv x3, .second, lv x4, .second, iv x5, iv (nn - jx), .unset, .unset] [(.int (nn - jx)), (.ref ob)])) rfl (by rw [hml]; rfl) (Steps.refl _) (argsL := [(.int (nn - jx))]) (rest := []) (lenOf (by decide +kernel : parseMethodDescriptor "(I)I" = some ⟨[.int], (some .int)⟩) rfl) rfl (by show 2 * 0 + _ ≤ _; exact Nat.le_of_eq rfl) (hb hby at_211) (fun _ _ => ⟨rfl, e18, (by show cells + 0 + 0 + 0 + 0 + 0 + 0 + 0 + 0 + 0 ≤ 40; omega), (by show slots + 0 + 0 + 0 + 0 + 0 + 0 + 0 + 0 + 0 ≤ 192; omega)⟩)
  dsimp only [Pt.U, Pt.locs, Pt.cells, Pt.slots] at X22 l22 y22 z22 st22 hQ22
  replace y22 := y22.symm; replace z22 := z22.symm; subst l22 y22 z22
  obtain ⟨rfl, Nq22, e22⟩ := hQ22
  have N22 := Fr.app N18 Nq22
  have K22 : own_R p e below (T22.setTop (mkF m 214 #[lv p1, .second, lv p2, .second, lv p3, .second, lv p4, .second, lv p5, .second, iv p6, iv sg, iv mm, iv nn, iv jx, rv va, rv vc, rv ob, iv (nn - (1 : Int32)), lv x1, .second, lv x2, .second, lv x3, .second, lv x4, .second, iv x5, iv (nn - jx), .unset, .unset] [(.int (Int32.ofNat (2 * nn.toNatClampNeg)))])) S0 := fun t hk => K21 t (st22.trans hk)
  have K23 : own_R p e below (T22.setTop (mkF m 218 #[lv p1, .second, lv p2, .second, lv p3, .second, lv p4, .second, lv p5, .second, iv p6, iv sg, iv mm, iv nn, iv jx, rv va, rv vc, rv ob, iv (nn - (1 : Int32)), lv x1, .second, lv x2, .second, lv x3, .second, lv x4, .second, iv x5, iv (nn - jx), .unset, .unset] [(.int ((2 : Int32) * nn)), (.int (Int32.ofNat (2 * nn.toNatClampNeg)))])) S0 := by
    intro t hk
    refine K22 t ?_
    show Steps p.tables e below (T22.setTop (mkF m 214 #[lv p1, .second, lv p2, .second, lv p3, .second, lv p4, .second, lv p5, .second, iv p6, iv sg, iv mm, iv nn, iv jx, rv va, rv vc, rv ob, iv (nn - (1 : Int32)), lv x1, .second, lv x2, .second, lv x3, .second, lv x4, .second, iv x5, iv (nn - jx), .unset, .unset] [(.int (Int32.ofNat (2 * nn.toNatClampNeg)))])) _
    refine XS.iconst X22.here hx rfl (hb hby at_214) ?_
    refine XS.iload X22.here hx rfl (hb hby at_215) rfl ?_
    refine XS.imul X22.here hx rfl (hb hby at_217) rfl ?_
    exact hk
  have hc218 : (Int32.ofNat (2 * nn.toNatClampNeg)) = ((2 : Int32) * nn) := own_two nn (by omega)
  have K24 : own_R p e below (T22.setTop (mkF m 221 #[lv p1, .second, lv p2, .second, lv p3, .second, lv p4, .second, lv p5, .second, iv p6, iv sg, iv mm, iv nn, iv jx, rv va, rv vc, rv ob, iv (nn - (1 : Int32)), lv x1, .second, lv x2, .second, lv x3, .second, lv x4, .second, iv x5, iv (nn - jx), .unset, .unset] [])) S0 := by
    intro t hk
    refine K23 t ?_
    show Steps p.tables e below (T22.setTop (mkF m 218 #[lv p1, .second, lv p2, .second, lv p3, .second, lv p4, .second, lv p5, .second, iv p6, iv sg, iv mm, iv nn, iv jx, rv va, rv vc, rv ob, iv (nn - (1 : Int32)), lv x1, .second, lv x2, .second, lv x3, .second, lv x4, .second, iv x5, iv (nn - jx), .unset, .unset] [(.int ((2 : Int32) * nn)), (.int (Int32.ofNat (2 * nn.toNatClampNeg)))])) _
    refine XS.icmpNo X22.here hx rfl (hb hby at_218) rfl (teq hc218).2 ?_
    exact hk
  have K25 : own_R p e below (T22.setTop (mkF m 230 #[lv p1, .second, lv p2, .second, lv p3, .second, lv p4, .second, lv p5, .second, iv p6, iv sg, iv mm, iv nn, iv jx, rv va, rv vc, rv ob, iv (nn - (1 : Int32)), lv x1, .second, lv x2, .second, lv x3, .second, lv x4, .second, iv x5, iv (nn - jx), iv (1 : Int32), .unset] [(.int (nn - jx))])) S0 := by
    intro t hk
    refine K24 t ?_
    show Steps p.tables e below (T22.setTop (mkF m 221 #[lv p1, .second, lv p2, .second, lv p3, .second, lv p4, .second, lv p5, .second, iv p6, iv sg, iv mm, iv nn, iv jx, rv va, rv vc, rv ob, iv (nn - (1 : Int32)), lv x1, .second, lv x2, .second, lv x3, .second, lv x4, .second, iv x5, iv (nn - jx), .unset, .unset] [])) _
    refine XS.iconst X22.here hx rfl (hb hby at_221) ?_
    refine XS.goto X22.here hx rfl (pc0 := 222) (pc' := 226) rfl (hb hby at_222) (by decide) (by decide) ?_
    refine XS.istore X22.here hx rfl (hb hby at_226) rfl (l' := #[lv p1, .second, lv p2, .second, lv p3, .second, lv p4, .second, lv p5, .second, iv p6, iv sg, iv mm, iv nn, iv jx, rv va, rv vc, rv ob, iv (nn - (1 : Int32)), lv x1, .second, lv x2, .second, lv x3, .second, lv x4, .second, iv x5, iv (nn - jx), iv (1 : Int32), .unset]) rfl ?_
    refine XS.iload X22.here hx rfl (hb hby at_228) rfl ?_
    exact hk
  by_cases hc230 : (0 : Int32) < (nn - jx)
  · have K26 : own_R p e below (T22.setTop (mkF m 233 #[lv p1, .second, lv p2, .second, lv p3, .second, lv p4, .second, lv p5, .second, iv p6, iv sg, iv mm, iv nn, iv jx, rv va, rv vc, rv ob, iv (nn - (1 : Int32)), lv x1, .second, lv x2, .second, lv x3, .second, lv x4, .second, iv x5, iv (nn - jx), iv (1 : Int32), .unset] [])) S0 := by
      intro t hk
      refine K25 t ?_
      show Steps p.tables e below (T22.setTop (mkF m 230 #[lv p1, .second, lv p2, .second, lv p3, .second, lv p4, .second, lv p5, .second, iv p6, iv sg, iv mm, iv nn, iv jx, rv va, rv vc, rv ob, iv (nn - (1 : Int32)), lv x1, .second, lv x2, .second, lv x3, .second, lv x4, .second, iv x5, iv (nn - jx), iv (1 : Int32), .unset] [(.int (nn - jx))])) _
      refine XS.ifNo X22.here hx rfl (hb hby at_230) rfl ((if0 _ _).trans (tlt hc230).2.2.2) ?_
      exact hk
    have y0 := Int32.lt_iff_toInt_lt.mp hc230
    obtain ⟨r1, r2, r3, r4, r5⟩ := RR (by omega)
    have bk := own_sub1 (nn - jx) (by omega)
    have bk2 : 0 ≤ ((nn - jx) - (1 : Int32)).toInt ∧ ((nn - jx) - (1 : Int32)).toInt < nn.toInt := by omega
    have K27 : own_R p e below (T22.setTop (mkF m 241 #[lv p1, .second, lv p2, .second, lv p3, .second, lv p4, .second, lv p5, .second, iv p6, iv sg, iv mm, iv nn, iv jx, rv va, rv vc, rv ob, iv (nn - (1 : Int32)), lv x1, .second, lv x2, .second, lv x3, .second, lv x4, .second, iv x5, iv (nn - jx), iv (1 : Int32), iv ((nn - jx) - (1 : Int32))] [(.int (1 : Int32))])) S0 := by
      intro t hk
      refine K26 t ?_
      show Steps p.tables e below (T22.setTop (mkF m 233 #[lv p1, .second, lv p2, .second, lv p3, .second, lv p4, .second, lv p5, .second, iv p6, iv sg, iv mm, iv nn, iv jx, rv va, rv vc, rv ob, iv (nn - (1 : Int32)), lv x1, .second, lv x2, .second, lv x3, .second, lv x4, .second, iv x5, iv (nn - jx), iv (1 : Int32), .unset] [])) _
      refine XS.iload X22.here hx rfl (hb hby at_233) rfl ?_
      refine XS.iconst X22.here hx rfl (hb hby at_235) ?_
      refine XS.isub X22.here hx rfl (hb hby at_236) rfl ?_
      refine XS.istore X22.here hx rfl (hb hby at_237) rfl (l' := #[lv p1, .second, lv p2, .second, lv p3, .second, lv p4, .second, lv p5, .second, iv p6, iv sg, iv mm, iv nn, iv jx, rv va, rv vc, rv ob, iv (nn - (1 : Int32)), lv x1, .second, lv x2, .second, lv x3, .second, lv x4, .second, iv x5, iv (nn - jx), iv (1 : Int32), iv ((nn - jx) - (1 : Int32))]) rfl ?_
      refine XS.iload X22.here hx rfl (hb hby at_239) rfl ?_
      exact hk
    have hc241 : ¬ ((1 : Int32) = (0 : Int32)) := by decide
    have K28 : own_R p e below (T22.setTop (mkF m 244 #[lv p1, .second, lv p2, .second, lv p3, .second, lv p4, .second, lv p5, .second, iv p6, iv sg, iv mm, iv nn, iv jx, rv va, rv vc, rv ob, iv (nn - (1 : Int32)), lv x1, .second, lv x2, .second, lv x3, .second, lv x4, .second, iv x5, iv (nn - jx), iv (1 : Int32), iv ((nn - jx) - (1 : Int32))] [])) S0 := by
      intro t hk
      refine K27 t ?_
      show Steps p.tables e below (T22.setTop (mkF m 241 #[lv p1, .second, lv p2, .second, lv p3, .second, lv p4, .second, lv p5, .second, iv p6, iv sg, iv mm, iv nn, iv jx, rv va, rv vc, rv ob, iv (nn - (1 : Int32)), lv x1, .second, lv x2, .second, lv x3, .second, lv x4, .second, iv x5, iv (nn - jx), iv (1 : Int32), iv ((nn - jx) - (1 : Int32))] [(.int (1 : Int32))])) _
      refine XS.ifNo X22.here hx rfl (hb hby at_241) rfl ((if0 _ _).trans (feq hc241).1) ?_
      exact hk
    have K29 : own_R p e below (T22.setTop (mkF m 248 #[lv p1, .second, lv p2, .second, lv p3, .second, lv p4, .second, lv p5, .second, iv p6, iv sg, iv mm, iv nn, iv jx, rv va, rv vc, rv ob, iv (nn - (1 : Int32)), lv x1, .second, lv x2, .second, lv x3, .second, lv x4, .second, iv x5, iv (nn - jx), iv (1 : Int32), iv ((nn - jx) - (1 : Int32))] [(.int ((nn - jx) - (1 : Int32))), (.ref ob)])) S0 := by
      intro t hk
      refine K28 t ?_
      show Steps p.tables e below (T22.setTop (mkF m 244 #[lv p1, .second, lv p2, .second, lv p3, .second, lv p4, .second, lv p5, .second, iv p6, iv sg, iv mm, iv nn, iv jx, rv va, rv vc, rv ob, iv (nn - (1 : Int32)), lv x1, .second, lv x2, .second, lv x3, .second, lv x4, .second, iv x5, iv (nn - jx), iv (1 : Int32), iv ((nn - jx) - (1 : Int32))] [])) _
      refine XS.aload X22.here hx rfl (hb hby at_244) rfl rfl ?_
      refine XS.iload X22.here hx rfl (hb hby at_246) rfl ?_
      exact hk
    obtain ⟨cq30, kq30, q30a, q30b, q30c⟩ := isOf hZ e22 (own_pE hG2)
    obtain ⟨_, _, ⟨T30, L30, k30, n30⟩, -, X30, ⟨Lc30, hQ30, l30, y30, z30⟩, st30⟩ := X22.virtualBack hx (y := (⟨"com/example/bitrun/bitrun/orc/intv2/Segments", "lowest", "(I)J"⟩ : MethodName)) (z := (⟨"com/example/bitrun/bitrun/orc/intv2/Segments", "lowest", "(I)J"⟩ : MethodName)) hown (mvT hZ (hw _ (List.mem_of_getElem? (i := 114) rfl))) (mvT hZ (hw _ (List.mem_of_getElem? (i := 115) rfl))) (notFace_of_selects (args := #[]) (mvT hZ (hw _ (List.mem_of_getElem? (i := 117) rfl)))) (mvT hZ (hw _ (List.mem_of_getElem? (i := 117) rfl))) (mvT hZ (hw _ (List.mem_of_getElem? (i := 116) rfl))) (by decide) (backOf (W := 0) (rm21 l Z a0 hw [] ob ((nn - jx) - (1 : Int32)) va vb vl vh vf vg vs _ kb kl kh kf kg ks fl nn nb _ (nn - jx) WB WL WH WF WG WT x1 T12.heap n0 szr hO hG2 bk2 (r1.trans hx1)) hZ (hw _ (List.mem_of_getElem? (i := 118) rfl)) (hw _ (List.mem_of_getElem? (i := 4) rfl)) (by decide) (by decide)) q30a q30c (g := (mkF m 248 #[lv p1, .second, lv p2, .second, lv p3, .second, lv p4, .second, lv p5, .second, iv p6, iv sg, iv mm, iv nn, iv jx, rv va, rv vc, rv ob, iv (nn - (1 : Int32)), lv x1, .second, lv x2, .second, lv x3, .second, lv x4, .second, iv x5, iv (nn - jx), iv (1 : Int32), iv ((nn - jx) - (1 : Int32))] [(.int ((nn - jx) - (1 : Int32))), (.ref ob)])) rfl (by rw [hml]; rfl) (Steps.refl _) (argsL := [(.int ((nn - jx) - (1 : Int32)))]) (rest := []) (lenOf (by decide +kernel : parseMethodDescriptor "(I)J" = some ⟨[.int], (some .long)⟩) rfl) rfl (by show 2 * 0 + _ ≤ _; exact Nat.le_of_eq rfl) (hb hby at_248) (fun _ _ => ⟨rfl, e22, (by show cells + 0 + 0 + 0 + 0 + 0 + 0 + 0 + 0 + 0 + 0 ≤ 40; omega), (by show slots + 0 + 0 + 0 + 0 + 0 + 0 + 0 + 0 + 0 + 0 ≤ 192; omega)⟩)
    dsimp only [Pt.U, Pt.locs, Pt.cells, Pt.slots] at X30 l30 y30 z30 st30 hQ30
    replace y30 := y30.symm; replace z30 := z30.symm; subst l30 y30 z30
    obtain ⟨rfl, Nq30, e30⟩ := hQ30
    have N30 := Fr.app N22 Nq30
    have K30 : own_R p e below (T30.setTop (mkF m 251 #[lv p1, .second, lv p2, .second, lv p3, .second, lv p4, .second, lv p5, .second, iv p6, iv sg, iv mm, iv nn, iv jx, rv va, rv vc, rv ob, iv (nn - (1 : Int32)), lv x1, .second, lv x2, .second, lv x3, .second, lv x4, .second, iv x5, iv (nn - jx), iv (1 : Int32), iv ((nn - jx) - (1 : Int32))] [(.long x1)])) S0 := fun t hk => K29 t (st30.trans hk)
    have K31 : own_R p e below (T30.setTop (mkF m 254 #[lv p1, .second, lv p2, .second, lv p3, .second, lv p4, .second, lv p5, .second, iv p6, iv sg, iv mm, iv nn, iv jx, rv va, rv vc, rv ob, iv (nn - (1 : Int32)), lv x1, .second, lv x2, .second, lv x3, .second, lv x4, .second, iv x5, iv (nn - jx), iv (1 : Int32), iv ((nn - jx) - (1 : Int32))] [(.int (lcmpW x1 x1))])) S0 := by
      intro t hk
      refine K30 t ?_
      show Steps p.tables e below (T30.setTop (mkF m 251 #[lv p1, .second, lv p2, .second, lv p3, .second, lv p4, .second, lv p5, .second, iv p6, iv sg, iv mm, iv nn, iv jx, rv va, rv vc, rv ob, iv (nn - (1 : Int32)), lv x1, .second, lv x2, .second, lv x3, .second, lv x4, .second, iv x5, iv (nn - jx), iv (1 : Int32), iv ((nn - jx) - (1 : Int32))] [(.long x1)])) _
      refine XS.lload X30.here hx rfl (hb hby at_251) rfl ?_
      refine XS.lcmp X30.here hx rfl (hb hby at_253) rfl ?_
      exact hk
    have hc254 : x1 = x1 := rfl
    have K32 : own_R p e below (T30.setTop (mkF m 257 #[lv p1, .second, lv p2, .second, lv p3, .second, lv p4, .second, lv p5, .second, iv p6, iv sg, iv mm, iv nn, iv jx, rv va, rv vc, rv ob, iv (nn - (1 : Int32)), lv x1, .second, lv x2, .second, lv x3, .second, lv x4, .second, iv x5, iv (nn - jx), iv (1 : Int32), iv ((nn - jx) - (1 : Int32))] [])) S0 := by
      intro t hk
      refine K31 t ?_
      show Steps p.tables e below (T30.setTop (mkF m 254 #[lv p1, .second, lv p2, .second, lv p3, .second, lv p4, .second, lv p5, .second, iv p6, iv sg, iv mm, iv nn, iv jx, rv va, rv vc, rv ob, iv (nn - (1 : Int32)), lv x1, .second, lv x2, .second, lv x3, .second, lv x4, .second, iv x5, iv (nn - jx), iv (1 : Int32), iv ((nn - jx) - (1 : Int32))] [(.int (lcmpW x1 x1))])) _
      refine XS.ifNo X30.here hx rfl (hb hby at_254) rfl ((if0 _ _).trans (teq ((lw_eq _ _).mpr hc254)).2) ?_
      exact hk
    have K33 : own_R p e below (T30.setTop (mkF m 261 #[lv p1, .second, lv p2, .second, lv p3, .second, lv p4, .second, lv p5, .second, iv p6, iv sg, iv mm, iv nn, iv jx, rv va, rv vc, rv ob, iv (nn - (1 : Int32)), lv x1, .second, lv x2, .second, lv x3, .second, lv x4, .second, iv x5, iv (nn - jx), iv (1 : Int32), iv ((nn - jx) - (1 : Int32))] [(.int ((nn - jx) - (1 : Int32))), (.ref ob)])) S0 := by
      intro t hk
      refine K32 t ?_
      show Steps p.tables e below (T30.setTop (mkF m 257 #[lv p1, .second, lv p2, .second, lv p3, .second, lv p4, .second, lv p5, .second, iv p6, iv sg, iv mm, iv nn, iv jx, rv va, rv vc, rv ob, iv (nn - (1 : Int32)), lv x1, .second, lv x2, .second, lv x3, .second, lv x4, .second, iv x5, iv (nn - jx), iv (1 : Int32), iv ((nn - jx) - (1 : Int32))] [])) _
      refine XS.aload X30.here hx rfl (hb hby at_257) rfl rfl ?_
      refine XS.iload X30.here hx rfl (hb hby at_259) rfl ?_
      exact hk
    obtain ⟨cq34, kq34, q34a, q34b, q34c⟩ := isOf hZ e30 (own_pE hG2)
    obtain ⟨_, _, ⟨T34, L34, k34, n34⟩, -, X34, ⟨Lc34, hQ34, l34, y34, z34⟩, st34⟩ := X30.virtualBack hx (y := (⟨"com/example/bitrun/bitrun/orc/intv2/Segments", "highest", "(I)J"⟩ : MethodName)) (z := (⟨"com/example/bitrun/bitrun/orc/intv2/Segments", "highest", "(I)J"⟩ : MethodName)) hown (mvT hZ (hw _ (List.mem_of_getElem? (i := 119) rfl))) (mvT hZ (hw _ (List.mem_of_getElem? (i := 120) rfl))) (notFace_of_selects (args := #[]) (mvT hZ (hw _ (List.mem_of_getElem? (i := 122) rfl)))) (mvT hZ (hw _ (List.mem_of_getElem? (i := 122) rfl))) (mvT hZ (hw _ (List.mem_of_getElem? (i := 121) rfl))) (by decide) (backOf (W := 0) (rm22 l Z a0 hw [] ob ((nn - jx) - (1 : Int32)) va vb vl vh vf vg vs _ kb kl kh kf kg ks fl nn nb _ (nn - jx) WB WL WH WF WG WT x2 T12.heap n0 szr hO hG2 bk2 (r2.trans hx2)) hZ (hw _ (List.mem_of_getElem? (i := 123) rfl)) (hw _ (List.mem_of_getElem? (i := 4) rfl)) (by decide) (by decide)) q34a q34c (g := (mkF m 261 #[lv p1, .second, lv p2, .second, lv p3, .second, lv p4, .second, lv p5, .second, iv p6, iv sg, iv mm, iv nn, iv jx, rv va, rv vc, rv ob, iv (nn - (1 : Int32)), lv x1, .second, lv x2, .second, lv x3, .second, lv x4, .second, iv x5, iv (nn - jx), iv (1 : Int32), iv ((nn - jx) - (1 : Int32))] [(.int ((nn - jx) - (1 : Int32))), (.ref ob)])) rfl (by rw [hml]; rfl) (Steps.refl _) (argsL := [(.int ((nn - jx) - (1 : Int32)))]) (rest := []) (lenOf (by decide +kernel : parseMethodDescriptor "(I)J" = some ⟨[.int], (some .long)⟩) rfl) rfl (by show 2 * 0 + _ ≤ _; exact Nat.le_of_eq rfl) (hb hby at_261) (fun _ _ => ⟨rfl, e30, (by show cells + 0 + 0 + 0 + 0 + 0 + 0 + 0 + 0 + 0 + 0 + 0 ≤ 40; omega), (by show slots + 0 + 0 + 0 + 0 + 0 + 0 + 0 + 0 + 0 + 0 + 0 ≤ 192; omega)⟩)
    dsimp only [Pt.U, Pt.locs, Pt.cells, Pt.slots] at X34 l34 y34 z34 st34 hQ34
    replace y34 := y34.symm; replace z34 := z34.symm; subst l34 y34 z34
    obtain ⟨rfl, Nq34, e34⟩ := hQ34
    have N34 := Fr.app N30 Nq34
    have K34 : own_R p e below (T34.setTop (mkF m 264 #[lv p1, .second, lv p2, .second, lv p3, .second, lv p4, .second, lv p5, .second, iv p6, iv sg, iv mm, iv nn, iv jx, rv va, rv vc, rv ob, iv (nn - (1 : Int32)), lv x1, .second, lv x2, .second, lv x3, .second, lv x4, .second, iv x5, iv (nn - jx), iv (1 : Int32), iv ((nn - jx) - (1 : Int32))] [(.long x2)])) S0 := fun t hk => K33 t (st34.trans hk)
    have K35 : own_R p e below (T34.setTop (mkF m 267 #[lv p1, .second, lv p2, .second, lv p3, .second, lv p4, .second, lv p5, .second, iv p6, iv sg, iv mm, iv nn, iv jx, rv va, rv vc, rv ob, iv (nn - (1 : Int32)), lv x1, .second, lv x2, .second, lv x3, .second, lv x4, .second, iv x5, iv (nn - jx), iv (1 : Int32), iv ((nn - jx) - (1 : Int32))] [(.int (lcmpW x2 x2))])) S0 := by
      intro t hk
      refine K34 t ?_
      show Steps p.tables e below (T34.setTop (mkF m 264 #[lv p1, .second, lv p2, .second, lv p3, .second, lv p4, .second, lv p5, .second, iv p6, iv sg, iv mm, iv nn, iv jx, rv va, rv vc, rv ob, iv (nn - (1 : Int32)), lv x1, .second, lv x2, .second, lv x3, .second, lv x4, .second, iv x5, iv (nn - jx), iv (1 : Int32), iv ((nn - jx) - (1 : Int32))] [(.long x2)])) _
      refine XS.lload X34.here hx rfl (hb hby at_264) rfl ?_
      refine XS.lcmp X34.here hx rfl (hb hby at_266) rfl ?_
      exact hk
    have hc267 : x2 = x2 := rfl
    have K36 : own_R p e below (T34.setTop (mkF m 270 #[lv p1, .second, lv p2, .second, lv p3, .second, lv p4, .second, lv p5, .second, iv p6, iv sg, iv mm, iv nn, iv jx, rv va, rv vc, rv ob, iv (nn - (1 : Int32)), lv x1, .second, lv x2, .second, lv x3, .second, lv x4, .second, iv x5, iv (nn - jx), iv (1 : Int32), iv ((nn - jx) - (1 : Int32))] [])) S0 := by
      intro t hk
      refine K35 t ?_
      show Steps p.tables e below (T34.setTop (mkF m 267 #[lv p1, .second, lv p2, .second, lv p3, .second, lv p4, .second, lv p5, .second, iv p6, iv sg, iv mm, iv nn, iv jx, rv va, rv vc, rv ob, iv (nn - (1 : Int32)), lv x1, .second, lv x2, .second, lv x3, .second, lv x4, .second, iv x5, iv (nn - jx), iv (1 : Int32), iv ((nn - jx) - (1 : Int32))] [(.int (lcmpW x2 x2))])) _
      refine XS.ifNo X34.here hx rfl (hb hby at_267) rfl ((if0 _ _).trans (teq ((lw_eq _ _).mpr hc267)).2) ?_
      exact hk
    have K37 : own_R p e below (T34.setTop (mkF m 274 #[lv p1, .second, lv p2, .second, lv p3, .second, lv p4, .second, lv p5, .second, iv p6, iv sg, iv mm, iv nn, iv jx, rv va, rv vc, rv ob, iv (nn - (1 : Int32)), lv x1, .second, lv x2, .second, lv x3, .second, lv x4, .second, iv x5, iv (nn - jx), iv (1 : Int32), iv ((nn - jx) - (1 : Int32))] [(.int ((nn - jx) - (1 : Int32))), (.ref ob)])) S0 := by
      intro t hk
      refine K36 t ?_
      show Steps p.tables e below (T34.setTop (mkF m 270 #[lv p1, .second, lv p2, .second, lv p3, .second, lv p4, .second, lv p5, .second, iv p6, iv sg, iv mm, iv nn, iv jx, rv va, rv vc, rv ob, iv (nn - (1 : Int32)), lv x1, .second, lv x2, .second, lv x3, .second, lv x4, .second, iv x5, iv (nn - jx), iv (1 : Int32), iv ((nn - jx) - (1 : Int32))] [])) _
      refine XS.aload X34.here hx rfl (hb hby at_270) rfl rfl ?_
      refine XS.iload X34.here hx rfl (hb hby at_272) rfl ?_
      exact hk
    obtain ⟨cq38, kq38, q38a, q38b, q38c⟩ := isOf hZ e34 (own_pE hG2)
    obtain ⟨_, _, ⟨T38, L38, k38, n38⟩, -, X38, ⟨Lc38, hQ38, l38, y38, z38⟩, st38⟩ := X34.virtualBack hx (y := (⟨"com/example/bitrun/bitrun/orc/intv2/Segments", "firstStep", "(I)J"⟩ : MethodName)) (z := (⟨"com/example/bitrun/bitrun/orc/intv2/Segments", "firstStep", "(I)J"⟩ : MethodName)) hown (mvT hZ (hw _ (List.mem_of_getElem? (i := 124) rfl))) (mvT hZ (hw _ (List.mem_of_getElem? (i := 125) rfl))) (notFace_of_selects (args := #[]) (mvT hZ (hw _ (List.mem_of_getElem? (i := 127) rfl)))) (mvT hZ (hw _ (List.mem_of_getElem? (i := 127) rfl))) (mvT hZ (hw _ (List.mem_of_getElem? (i := 126) rfl))) (by decide) (backOf (W := 0) (rm23 l Z a0 hw [] ob ((nn - jx) - (1 : Int32)) va vb vl vh vf vg vs _ kb kl kh kf kg ks fl nn nb _ (nn - jx) WB WL WH WF WG WT x3 T12.heap n0 szr hO hG2 bk2 (r3.trans hx3)) hZ (hw _ (List.mem_of_getElem? (i := 128) rfl)) (hw _ (List.mem_of_getElem? (i := 4) rfl)) (by decide) (by decide)) q38a q38c (g := (mkF m 274 #[lv p1, .second, lv p2, .second, lv p3, .second, lv p4, .second, lv p5, .second, iv p6, iv sg, iv mm, iv nn, iv jx, rv va, rv vc, rv ob, iv (nn - (1 : Int32)), lv x1, .second, lv x2, .second, lv x3, .second, lv x4, .second, iv x5, iv (nn - jx), iv (1 : Int32), iv ((nn - jx) - (1 : Int32))] [(.int ((nn - jx) - (1 : Int32))), (.ref ob)])) rfl (by rw [hml]; rfl) (Steps.refl _) (argsL := [(.int ((nn - jx) - (1 : Int32)))]) (rest := []) (lenOf (by decide +kernel : parseMethodDescriptor "(I)J" = some ⟨[.int], (some .long)⟩) rfl) rfl (by show 2 * 0 + _ ≤ _; exact Nat.le_of_eq rfl) (hb hby at_274) (fun _ _ => ⟨rfl, e34, (by show cells + 0 + 0 + 0 + 0 + 0 + 0 + 0 + 0 + 0 + 0 + 0 + 0 ≤ 40; omega), (by show slots + 0 + 0 + 0 + 0 + 0 + 0 + 0 + 0 + 0 + 0 + 0 + 0 ≤ 192; omega)⟩)
    dsimp only [Pt.U, Pt.locs, Pt.cells, Pt.slots] at X38 l38 y38 z38 st38 hQ38
    replace y38 := y38.symm; replace z38 := z38.symm; subst l38 y38 z38
    obtain ⟨rfl, Nq38, e38⟩ := hQ38
    have N38 := Fr.app N34 Nq38
    have K38 : own_R p e below (T38.setTop (mkF m 277 #[lv p1, .second, lv p2, .second, lv p3, .second, lv p4, .second, lv p5, .second, iv p6, iv sg, iv mm, iv nn, iv jx, rv va, rv vc, rv ob, iv (nn - (1 : Int32)), lv x1, .second, lv x2, .second, lv x3, .second, lv x4, .second, iv x5, iv (nn - jx), iv (1 : Int32), iv ((nn - jx) - (1 : Int32))] [(.long x3)])) S0 := fun t hk => K37 t (st38.trans hk)
    have K39 : own_R p e below (T38.setTop (mkF m 280 #[lv p1, .second, lv p2, .second, lv p3, .second, lv p4, .second, lv p5, .second, iv p6, iv sg, iv mm, iv nn, iv jx, rv va, rv vc, rv ob, iv (nn - (1 : Int32)), lv x1, .second, lv x2, .second, lv x3, .second, lv x4, .second, iv x5, iv (nn - jx), iv (1 : Int32), iv ((nn - jx) - (1 : Int32))] [(.int (lcmpW x3 x3))])) S0 := by
      intro t hk
      refine K38 t ?_
      show Steps p.tables e below (T38.setTop (mkF m 277 #[lv p1, .second, lv p2, .second, lv p3, .second, lv p4, .second, lv p5, .second, iv p6, iv sg, iv mm, iv nn, iv jx, rv va, rv vc, rv ob, iv (nn - (1 : Int32)), lv x1, .second, lv x2, .second, lv x3, .second, lv x4, .second, iv x5, iv (nn - jx), iv (1 : Int32), iv ((nn - jx) - (1 : Int32))] [(.long x3)])) _
      refine XS.lload X38.here hx rfl (hb hby at_277) rfl ?_
      refine XS.lcmp X38.here hx rfl (hb hby at_279) rfl ?_
      exact hk
    have hc280 : x3 = x3 := rfl
    have K40 : own_R p e below (T38.setTop (mkF m 283 #[lv p1, .second, lv p2, .second, lv p3, .second, lv p4, .second, lv p5, .second, iv p6, iv sg, iv mm, iv nn, iv jx, rv va, rv vc, rv ob, iv (nn - (1 : Int32)), lv x1, .second, lv x2, .second, lv x3, .second, lv x4, .second, iv x5, iv (nn - jx), iv (1 : Int32), iv ((nn - jx) - (1 : Int32))] [])) S0 := by
      intro t hk
      refine K39 t ?_
      show Steps p.tables e below (T38.setTop (mkF m 280 #[lv p1, .second, lv p2, .second, lv p3, .second, lv p4, .second, lv p5, .second, iv p6, iv sg, iv mm, iv nn, iv jx, rv va, rv vc, rv ob, iv (nn - (1 : Int32)), lv x1, .second, lv x2, .second, lv x3, .second, lv x4, .second, iv x5, iv (nn - jx), iv (1 : Int32), iv ((nn - jx) - (1 : Int32))] [(.int (lcmpW x3 x3))])) _
      refine XS.ifNo X38.here hx rfl (hb hby at_280) rfl ((if0 _ _).trans (teq ((lw_eq _ _).mpr hc280)).2) ?_
      exact hk
    have K41 : own_R p e below (T38.setTop (mkF m 287 #[lv p1, .second, lv p2, .second, lv p3, .second, lv p4, .second, lv p5, .second, iv p6, iv sg, iv mm, iv nn, iv jx, rv va, rv vc, rv ob, iv (nn - (1 : Int32)), lv x1, .second, lv x2, .second, lv x3, .second, lv x4, .second, iv x5, iv (nn - jx), iv (1 : Int32), iv ((nn - jx) - (1 : Int32))] [(.int ((nn - jx) - (1 : Int32))), (.ref ob)])) S0 := by
      intro t hk
      refine K40 t ?_
      show Steps p.tables e below (T38.setTop (mkF m 283 #[lv p1, .second, lv p2, .second, lv p3, .second, lv p4, .second, lv p5, .second, iv p6, iv sg, iv mm, iv nn, iv jx, rv va, rv vc, rv ob, iv (nn - (1 : Int32)), lv x1, .second, lv x2, .second, lv x3, .second, lv x4, .second, iv x5, iv (nn - jx), iv (1 : Int32), iv ((nn - jx) - (1 : Int32))] [])) _
      refine XS.aload X38.here hx rfl (hb hby at_283) rfl rfl ?_
      refine XS.iload X38.here hx rfl (hb hby at_285) rfl ?_
      exact hk
    obtain ⟨cq42, kq42, q42a, q42b, q42c⟩ := isOf hZ e38 (own_pE hG2)
    obtain ⟨_, _, ⟨T42, L42, k42, n42⟩, -, X42, ⟨Lc42, hQ42, l42, y42, z42⟩, st42⟩ := X38.virtualBack hx (y := (⟨"com/example/bitrun/bitrun/orc/intv2/Segments", "magnitudes", "(I)J"⟩ : MethodName)) (z := (⟨"com/example/bitrun/bitrun/orc/intv2/Segments", "magnitudes", "(I)J"⟩ : MethodName)) hown (mvT hZ (hw _ (List.mem_of_getElem? (i := 129) rfl))) (mvT hZ (hw _ (List.mem_of_getElem? (i := 130) rfl))) (notFace_of_selects (args := #[]) (mvT hZ (hw _ (List.mem_of_getElem? (i := 132) rfl)))) (mvT hZ (hw _ (List.mem_of_getElem? (i := 132) rfl))) (mvT hZ (hw _ (List.mem_of_getElem? (i := 131) rfl))) (by decide) (backOf (W := 0) (rm24 l Z a0 hw [] ob ((nn - jx) - (1 : Int32)) va vb vl vh vf vg vs _ kb kl kh kf kg ks fl nn nb _ (nn - jx) WB WL WH WF WG WT x4 T12.heap n0 szr hO hG2 bk2 (r4.trans hx4)) hZ (hw _ (List.mem_of_getElem? (i := 133) rfl)) (hw _ (List.mem_of_getElem? (i := 4) rfl)) (by decide) (by decide)) q42a q42c (g := (mkF m 287 #[lv p1, .second, lv p2, .second, lv p3, .second, lv p4, .second, lv p5, .second, iv p6, iv sg, iv mm, iv nn, iv jx, rv va, rv vc, rv ob, iv (nn - (1 : Int32)), lv x1, .second, lv x2, .second, lv x3, .second, lv x4, .second, iv x5, iv (nn - jx), iv (1 : Int32), iv ((nn - jx) - (1 : Int32))] [(.int ((nn - jx) - (1 : Int32))), (.ref ob)])) rfl (by rw [hml]; rfl) (Steps.refl _) (argsL := [(.int ((nn - jx) - (1 : Int32)))]) (rest := []) (lenOf (by decide +kernel : parseMethodDescriptor "(I)J" = some ⟨[.int], (some .long)⟩) rfl) rfl (by show 2 * 0 + _ ≤ _; exact Nat.le_of_eq rfl) (hb hby at_287) (fun _ _ => ⟨rfl, e38, (by show cells + 0 + 0 + 0 + 0 + 0 + 0 + 0 + 0 + 0 + 0 + 0 + 0 + 0 ≤ 40; omega), (by show slots + 0 + 0 + 0 + 0 + 0 + 0 + 0 + 0 + 0 + 0 + 0 + 0 + 0 ≤ 192; omega)⟩)
    dsimp only [Pt.U, Pt.locs, Pt.cells, Pt.slots] at X42 l42 y42 z42 st42 hQ42
    replace y42 := y42.symm; replace z42 := z42.symm; subst l42 y42 z42
    obtain ⟨rfl, Nq42, e42⟩ := hQ42
    have N42 := Fr.app N38 Nq42
    have K42 : own_R p e below (T42.setTop (mkF m 290 #[lv p1, .second, lv p2, .second, lv p3, .second, lv p4, .second, lv p5, .second, iv p6, iv sg, iv mm, iv nn, iv jx, rv va, rv vc, rv ob, iv (nn - (1 : Int32)), lv x1, .second, lv x2, .second, lv x3, .second, lv x4, .second, iv x5, iv (nn - jx), iv (1 : Int32), iv ((nn - jx) - (1 : Int32))] [(.long x4)])) S0 := fun t hk => K41 t (st42.trans hk)
    have K43 : own_R p e below (T42.setTop (mkF m 293 #[lv p1, .second, lv p2, .second, lv p3, .second, lv p4, .second, lv p5, .second, iv p6, iv sg, iv mm, iv nn, iv jx, rv va, rv vc, rv ob, iv (nn - (1 : Int32)), lv x1, .second, lv x2, .second, lv x3, .second, lv x4, .second, iv x5, iv (nn - jx), iv (1 : Int32), iv ((nn - jx) - (1 : Int32))] [(.int (lcmpW x4 x4))])) S0 := by
      intro t hk
      refine K42 t ?_
      show Steps p.tables e below (T42.setTop (mkF m 290 #[lv p1, .second, lv p2, .second, lv p3, .second, lv p4, .second, lv p5, .second, iv p6, iv sg, iv mm, iv nn, iv jx, rv va, rv vc, rv ob, iv (nn - (1 : Int32)), lv x1, .second, lv x2, .second, lv x3, .second, lv x4, .second, iv x5, iv (nn - jx), iv (1 : Int32), iv ((nn - jx) - (1 : Int32))] [(.long x4)])) _
      refine XS.lload X42.here hx rfl (hb hby at_290) rfl ?_
      refine XS.lcmp X42.here hx rfl (hb hby at_292) rfl ?_
      exact hk
    have hc293 : x4 = x4 := rfl
    have K44 : own_R p e below (T42.setTop (mkF m 296 #[lv p1, .second, lv p2, .second, lv p3, .second, lv p4, .second, lv p5, .second, iv p6, iv sg, iv mm, iv nn, iv jx, rv va, rv vc, rv ob, iv (nn - (1 : Int32)), lv x1, .second, lv x2, .second, lv x3, .second, lv x4, .second, iv x5, iv (nn - jx), iv (1 : Int32), iv ((nn - jx) - (1 : Int32))] [])) S0 := by
      intro t hk
      refine K43 t ?_
      show Steps p.tables e below (T42.setTop (mkF m 293 #[lv p1, .second, lv p2, .second, lv p3, .second, lv p4, .second, lv p5, .second, iv p6, iv sg, iv mm, iv nn, iv jx, rv va, rv vc, rv ob, iv (nn - (1 : Int32)), lv x1, .second, lv x2, .second, lv x3, .second, lv x4, .second, iv x5, iv (nn - jx), iv (1 : Int32), iv ((nn - jx) - (1 : Int32))] [(.int (lcmpW x4 x4))])) _
      refine XS.ifNo X42.here hx rfl (hb hby at_293) rfl ((if0 _ _).trans (teq ((lw_eq _ _).mpr hc293)).2) ?_
      exact hk
    have K45 : own_R p e below (T42.setTop (mkF m 300 #[lv p1, .second, lv p2, .second, lv p3, .second, lv p4, .second, lv p5, .second, iv p6, iv sg, iv mm, iv nn, iv jx, rv va, rv vc, rv ob, iv (nn - (1 : Int32)), lv x1, .second, lv x2, .second, lv x3, .second, lv x4, .second, iv x5, iv (nn - jx), iv (1 : Int32), iv ((nn - jx) - (1 : Int32))] [(.int ((nn - jx) - (1 : Int32))), (.ref ob)])) S0 := by
      intro t hk
      refine K44 t ?_
      show Steps p.tables e below (T42.setTop (mkF m 296 #[lv p1, .second, lv p2, .second, lv p3, .second, lv p4, .second, lv p5, .second, iv p6, iv sg, iv mm, iv nn, iv jx, rv va, rv vc, rv ob, iv (nn - (1 : Int32)), lv x1, .second, lv x2, .second, lv x3, .second, lv x4, .second, iv x5, iv (nn - jx), iv (1 : Int32), iv ((nn - jx) - (1 : Int32))] [])) _
      refine XS.aload X42.here hx rfl (hb hby at_296) rfl rfl ?_
      refine XS.iload X42.here hx rfl (hb hby at_298) rfl ?_
      exact hk
    obtain ⟨cq46, kq46, q46a, q46b, q46c⟩ := isOf hZ e42 (own_pE hG2)
    obtain ⟨_, _, ⟨T46, L46, k46, n46⟩, -, X46, ⟨Lc46, hQ46, l46, y46, z46⟩, st46⟩ := X42.virtualBack hx (y := (⟨"com/example/bitrun/bitrun/orc/intv2/Segments", "steps", "(I)I"⟩ : MethodName)) (z := (⟨"com/example/bitrun/bitrun/orc/intv2/Segments", "steps", "(I)I"⟩ : MethodName)) hown (mvT hZ (hw _ (List.mem_of_getElem? (i := 134) rfl))) (mvT hZ (hw _ (List.mem_of_getElem? (i := 135) rfl))) (notFace_of_selects (args := #[]) (mvT hZ (hw _ (List.mem_of_getElem? (i := 137) rfl)))) (mvT hZ (hw _ (List.mem_of_getElem? (i := 137) rfl))) (mvT hZ (hw _ (List.mem_of_getElem? (i := 136) rfl))) (by decide) (backOf (W := 0) (rm25 l Z a0 hw [] ob ((nn - jx) - (1 : Int32)) va vb vl vh vf vg vs _ kb kl kh kf kg ks fl nn nb _ (nn - jx) WB WL WH WF WG WT x5 T12.heap n0 szr hO hG2 bk2 (r5.trans hx5)) hZ (hw _ (List.mem_of_getElem? (i := 138) rfl)) (hw _ (List.mem_of_getElem? (i := 4) rfl)) (by decide) (by decide)) q46a q46c (g := (mkF m 300 #[lv p1, .second, lv p2, .second, lv p3, .second, lv p4, .second, lv p5, .second, iv p6, iv sg, iv mm, iv nn, iv jx, rv va, rv vc, rv ob, iv (nn - (1 : Int32)), lv x1, .second, lv x2, .second, lv x3, .second, lv x4, .second, iv x5, iv (nn - jx), iv (1 : Int32), iv ((nn - jx) - (1 : Int32))] [(.int ((nn - jx) - (1 : Int32))), (.ref ob)])) rfl (by rw [hml]; rfl) (Steps.refl _) (argsL := [(.int ((nn - jx) - (1 : Int32)))]) (rest := []) (lenOf (by decide +kernel : parseMethodDescriptor "(I)I" = some ⟨[.int], (some .int)⟩) rfl) rfl (by show 2 * 0 + _ ≤ _; exact Nat.le_of_eq rfl) (hb hby at_300) (fun _ _ => ⟨rfl, e42, (by show cells + 0 + 0 + 0 + 0 + 0 + 0 + 0 + 0 + 0 + 0 + 0 + 0 + 0 + 0 ≤ 40; omega), (by show slots + 0 + 0 + 0 + 0 + 0 + 0 + 0 + 0 + 0 + 0 + 0 + 0 + 0 + 0 ≤ 192; omega)⟩)
    dsimp only [Pt.U, Pt.locs, Pt.cells, Pt.slots] at X46 l46 y46 z46 st46 hQ46
    replace y46 := y46.symm; replace z46 := z46.symm; subst l46 y46 z46
    obtain ⟨rfl, Nq46, e46⟩ := hQ46
    have N46 := Fr.app N42 Nq46
    have K46 : own_R p e below (T46.setTop (mkF m 303 #[lv p1, .second, lv p2, .second, lv p3, .second, lv p4, .second, lv p5, .second, iv p6, iv sg, iv mm, iv nn, iv jx, rv va, rv vc, rv ob, iv (nn - (1 : Int32)), lv x1, .second, lv x2, .second, lv x3, .second, lv x4, .second, iv x5, iv (nn - jx), iv (1 : Int32), iv ((nn - jx) - (1 : Int32))] [(.int x5)])) S0 := fun t hk => K45 t (st46.trans hk)
    have K47 : own_R p e below (T46.setTop (mkF m 305 #[lv p1, .second, lv p2, .second, lv p3, .second, lv p4, .second, lv p5, .second, iv p6, iv sg, iv mm, iv nn, iv jx, rv va, rv vc, rv ob, iv (nn - (1 : Int32)), lv x1, .second, lv x2, .second, lv x3, .second, lv x4, .second, iv x5, iv (nn - jx), iv (1 : Int32), iv ((nn - jx) - (1 : Int32))] [(.int x5), (.int x5)])) S0 := by
      intro t hk
      refine K46 t ?_
      show Steps p.tables e below (T46.setTop (mkF m 303 #[lv p1, .second, lv p2, .second, lv p3, .second, lv p4, .second, lv p5, .second, iv p6, iv sg, iv mm, iv nn, iv jx, rv va, rv vc, rv ob, iv (nn - (1 : Int32)), lv x1, .second, lv x2, .second, lv x3, .second, lv x4, .second, iv x5, iv (nn - jx), iv (1 : Int32), iv ((nn - jx) - (1 : Int32))] [(.int x5)])) _
      refine XS.iload X46.here hx rfl (hb hby at_303) rfl ?_
      exact hk
    have hc305 : x5 = x5 := rfl
    have K48 : own_R p e below (T46.setTop (mkF m 308 #[lv p1, .second, lv p2, .second, lv p3, .second, lv p4, .second, lv p5, .second, iv p6, iv sg, iv mm, iv nn, iv jx, rv va, rv vc, rv ob, iv (nn - (1 : Int32)), lv x1, .second, lv x2, .second, lv x3, .second, lv x4, .second, iv x5, iv (nn - jx), iv (1 : Int32), iv ((nn - jx) - (1 : Int32))] [])) S0 := by
      intro t hk
      refine K47 t ?_
      show Steps p.tables e below (T46.setTop (mkF m 305 #[lv p1, .second, lv p2, .second, lv p3, .second, lv p4, .second, lv p5, .second, iv p6, iv sg, iv mm, iv nn, iv jx, rv va, rv vc, rv ob, iv (nn - (1 : Int32)), lv x1, .second, lv x2, .second, lv x3, .second, lv x4, .second, iv x5, iv (nn - jx), iv (1 : Int32), iv ((nn - jx) - (1 : Int32))] [(.int x5), (.int x5)])) _
      refine XS.icmpNo X46.here hx rfl (hb hby at_305) rfl (teq hc305).2 ?_
      exact hk
    have K49 : own_R p e below (T46.setTop (mkF m 317 #[lv p1, .second, lv p2, .second, lv p3, .second, lv p4, .second, lv p5, .second, iv p6, iv sg, iv mm, iv nn, iv jx, rv va, rv vc, rv ob, iv (nn - (1 : Int32)), lv x1, .second, lv x2, .second, lv x3, .second, lv x4, .second, iv x5, iv (nn - jx), iv (1 : Int32), iv ((nn - jx) - (1 : Int32))] [(.int (1 : Int32))])) S0 := by
      intro t hk
      refine K48 t ?_
      show Steps p.tables e below (T46.setTop (mkF m 308 #[lv p1, .second, lv p2, .second, lv p3, .second, lv p4, .second, lv p5, .second, iv p6, iv sg, iv mm, iv nn, iv jx, rv va, rv vc, rv ob, iv (nn - (1 : Int32)), lv x1, .second, lv x2, .second, lv x3, .second, lv x4, .second, iv x5, iv (nn - jx), iv (1 : Int32), iv ((nn - jx) - (1 : Int32))] [])) _
      refine XS.iconst X46.here hx rfl (hb hby at_308) ?_
      refine XS.goto X46.here hx rfl (pc0 := 309) (pc' := 313) rfl (hb hby at_309) (by decide) (by decide) ?_
      refine XS.istore X46.here hx rfl (hb hby at_313) rfl (l' := #[lv p1, .second, lv p2, .second, lv p3, .second, lv p4, .second, lv p5, .second, iv p6, iv sg, iv mm, iv nn, iv jx, rv va, rv vc, rv ob, iv (nn - (1 : Int32)), lv x1, .second, lv x2, .second, lv x3, .second, lv x4, .second, iv x5, iv (nn - jx), iv (1 : Int32), iv ((nn - jx) - (1 : Int32))]) rfl ?_
      refine XS.iload X46.here hx rfl (hb hby at_315) rfl ?_
      exact hk
    obtain ⟨fs, hr, hrun, hended, hW, hsame⟩ := X46.leave (v := some (.int (1 : Int32))) (fun h => by rw [(hret.trans (rfl : ret = some .boolean))] at h; cases h) hlk
    exact ⟨_, _, K49 _ (retN X46 hx (t := .boolean) (hret.trans (rfl : ret = some .boolean)) (by simp) (hb hby at_317) hr), hrun, hended, _, _, rfl, ⟨rfl, N46⟩, ⟨_, rfl⟩, hW, hsame.mono hcb hsb⟩
  · have K50 : own_R p e below (T22.setTop (mkF m 315 #[lv p1, .second, lv p2, .second, lv p3, .second, lv p4, .second, lv p5, .second, iv p6, iv sg, iv mm, iv nn, iv jx, rv va, rv vc, rv ob, iv (nn - (1 : Int32)), lv x1, .second, lv x2, .second, lv x3, .second, lv x4, .second, iv x5, iv (nn - jx), iv (1 : Int32), .unset] [])) S0 := by
      intro t hk
      refine K25 t ?_
      show Steps p.tables e below (T22.setTop (mkF m 230 #[lv p1, .second, lv p2, .second, lv p3, .second, lv p4, .second, lv p5, .second, iv p6, iv sg, iv mm, iv nn, iv jx, rv va, rv vc, rv ob, iv (nn - (1 : Int32)), lv x1, .second, lv x2, .second, lv x3, .second, lv x4, .second, iv x5, iv (nn - jx), iv (1 : Int32), .unset] [(.int (nn - jx))])) _
      refine XS.ifYes X22.here hx rfl (pc0 := 230) (pc' := 315) rfl (hb hby at_230) rfl ((if0 _ _).trans (flt hc230).2.2.2) (by decide) (by decide) ?_
      exact hk
    have K51 : own_R p e below (T22.setTop (mkF m 317 #[lv p1, .second, lv p2, .second, lv p3, .second, lv p4, .second, lv p5, .second, iv p6, iv sg, iv mm, iv nn, iv jx, rv va, rv vc, rv ob, iv (nn - (1 : Int32)), lv x1, .second, lv x2, .second, lv x3, .second, lv x4, .second, iv x5, iv (nn - jx), iv (1 : Int32), .unset] [(.int (1 : Int32))])) S0 := by
      intro t hk
      refine K50 t ?_
      show Steps p.tables e below (T22.setTop (mkF m 315 #[lv p1, .second, lv p2, .second, lv p3, .second, lv p4, .second, lv p5, .second, iv p6, iv sg, iv mm, iv nn, iv jx, rv va, rv vc, rv ob, iv (nn - (1 : Int32)), lv x1, .second, lv x2, .second, lv x3, .second, lv x4, .second, iv x5, iv (nn - jx), iv (1 : Int32), .unset] [])) _
      refine XS.iload X22.here hx rfl (hb hby at_315) rfl ?_
      exact hk
    obtain ⟨fs, hr, hrun, hended, hW, hsame⟩ := X22.leave (v := some (.int (1 : Int32))) (fun h => by rw [(hret.trans (rfl : ret = some .boolean))] at h; cases h) hlk
    exact ⟨_, _, K51 _ (retN X22 hx (t := .boolean) (hret.trans (rfl : ret = some .boolean)) (by simp) (hb hby at_317) hr), hrun, hended, _, _, rfl, ⟨rfl, N22⟩, ⟨_, rfl⟩, hW, hsame.mono hcb hsb⟩
theorem ef_0 (m : MethodId) (x0 : Int64) (x1 : Int64) (x2 : Int64) (x3 : Int64) (x4 : Int64) (x5 : Int32) : entryFrame m #[(.long x0), (.long x1), (.long x2), (.long x3), (.long x4), (.int x5)] maxLocals = mkF m 0 #[lv x0, .second, lv x1, .second, lv x2, .second, lv x3, .second, lv x4, .second, iv x5, .unset, .unset, .unset, .unset, .unset, .unset, .unset, .unset, .unset, .unset, .unset, .unset, .unset, .unset, .unset, .unset, .unset, .unset, .unset, .unset] [] := by first | (simp [entryFrame, mkF, argsToLocals, Value.category, maxLocals]; done) | rfl
theorem pn_0 : plainName "com/example/bitrun/bitrun/orc/intv2/SegmentsRestartAtPinLaw" = true := by first | (simp [plainName, overriddenIn]; done) | decide +kernel
def Q_rm0 (Z : State) (p1 : Int64) (p2 : Int64) (p3 : Int64) (p4 : Int64) (p5 : Int64) (p6 : Int32)  (h0 : Heap) (n0 : Nat) (v : Option Value) (h : Heap) (L : List Loc) : Prop := v = some (.int (1 : Int32)) ∧ Fr n0 L
set_option maxRecDepth 65536 in
set_option maxHeartbeats 40000000 in
theorem rm0 (l : Launch) (Z : State) (a0 : Array Value) (hw : ∀ d ∈ tables_1, d.before a0 Z = true) (ws : List Jvm.Cond) (p1 : Int64) (p2 : Int64) (p3 : Int64) (p4 : Int64) (p5 : Int64) (p6 : Int32)  (h0 : Heap) (n0 : Nat) (Z0 : n0 ≤ h0.size)  :
    MetFree l x (head1 (Jvm.Cond.code x code maxLocals ret :: ws) room_1) (fun a U => a = #[(.long p1), (.long p2), (.long p3), (.long p4), (.long p5), (.int p6)] ∧ Z.Warmed39 U.vm ∧ U.heap = h0) (fun _ _ _ _ _ => True) (fun _ U o U' => ∃ v L, o = .returned v ∧ Q_rm0 Z p1 p2 p3 p4 p5 p6  h0 n0 v U'.heap L ∧ FrameEnd U o U' L 40 192) := by
  refine MetFree.of_bodySF (plainFor_of_name pn_0) hisR ?_
  intro p e s m args below meth c s₁ Bd hml0 hP hK
  obtain ⟨rfl, hZ, hh⟩ := hP
  have hx := Bd.exec
  have hby := Bd.bytes
  have hml : c.maxLocals = 31 := hml0
  have hown : s.vm.findClass "com/example/bitrun/bitrun/orc/intv2/SegmentsRestartAtPinLaw" = some m.cls := findClass_of_methodNamed Bd.named
  have hnm := (name_of_methodNamed Bd.named Bd.method).1
  have X0 : Stand p l e room_1 s m #[(.long p1), (.long p2), (.long p3), (.long p4), (.long p5), (.int p6)] below meth c s₁ [] 0 0 := Stand.of_body Bd
  have e0 : s₁.heap = h0 := by rw [← hh, Bd.state]; rfl
  have N0 := Fr.nil n0
  have pre0 : ∀ t, Steps p.tables e below (s₁.setTop (mkF m 0 #[lv p1, .second, lv p2, .second, lv p3, .second, lv p4, .second, lv p5, .second, iv p6, .unset, .unset, .unset, .unset, .unset, .unset, .unset, .unset, .unset, .unset, .unset, .unset, .unset, .unset, .unset, .unset, .unset, .unset, .unset, .unset] [])) t → Steps p.tables e below (s₁.setTop (entryFrame m #[(.long p1), (.long p2), (.long p3), (.long p4), (.long p5), (.int p6)] maxLocals)) t := fun t k => castTop (ef_0 m p1 p2 p3 p4 p5 p6) k
  obtain ⟨S0, hS0⟩ : ∃ z, z = (s₁.setTop (entryFrame m #[(.long p1), (.long p2), (.long p3), (.long p4), (.long p5), (.int p6)] maxLocals)) := ⟨_, rfl⟩
  rw [← hS0] at pre0 ⊢
  have K0 : own_R p e below (s₁.setTop (mkF m 0 #[lv p1, .second, lv p2, .second, lv p3, .second, lv p4, .second, lv p5, .second, iv p6, .unset, .unset, .unset, .unset, .unset, .unset, .unset, .unset, .unset, .unset, .unset, .unset, .unset, .unset, .unset, .unset, .unset, .unset, .unset, .unset] [])) S0 := pre0
  have K1 : own_R p e below (s₁.setTop (mkF m 12 #[lv p1, .second, lv p2, .second, lv p3, .second, lv p4, .second, lv p5, .second, iv p6, .unset, .unset, .unset, .unset, .unset, .unset, .unset, .unset, .unset, .unset, .unset, .unset, .unset, .unset, .unset, .unset, .unset, .unset, .unset, .unset] [(.int (own_sg p1 p2 p3 p4 p5 p6))])) S0 := fun t hk => K0 t (own_sg_s X0 hx hby hown hZ hw p1 p2 p3 p4 p5 p6 _ rfl hk)
  obtain ⟨sg, hsg⟩ : ∃ z_, z_ = (own_sg p1 p2 p3 p4 p5 p6) := ⟨_, rfl⟩
  have K2 : own_R p e below (s₁.setTop (mkF m 12 #[lv p1, .second, lv p2, .second, lv p3, .second, lv p4, .second, lv p5, .second, iv p6, .unset, .unset, .unset, .unset, .unset, .unset, .unset, .unset, .unset, .unset, .unset, .unset, .unset, .unset, .unset, .unset, .unset, .unset, .unset, .unset] [(.int sg)])) S0 := by rw [hsg]; exact K1
  have K3 : own_R p e below (s₁.setTop (mkF m 18 #[lv p1, .second, lv p2, .second, lv p3, .second, lv p4, .second, lv p5, .second, iv p6, iv sg, .unset, .unset, .unset, .unset, .unset, .unset, .unset, .unset, .unset, .unset, .unset, .unset, .unset, .unset, .unset, .unset, .unset, .unset, .unset] [(.int ((p6.toUInt32 >>> ((1 : Int32) &&& 31).toUInt32).toInt32))])) S0 := by
    intro t hk
    refine K2 t ?_
    show Steps p.tables e below (s₁.setTop (mkF m 12 #[lv p1, .second, lv p2, .second, lv p3, .second, lv p4, .second, lv p5, .second, iv p6, .unset, .unset, .unset, .unset, .unset, .unset, .unset, .unset, .unset, .unset, .unset, .unset, .unset, .unset, .unset, .unset, .unset, .unset, .unset, .unset] [(.int sg)])) _
    refine XS.istore X0.here hx rfl (hb hby at_12) rfl (l' := #[lv p1, .second, lv p2, .second, lv p3, .second, lv p4, .second, lv p5, .second, iv p6, iv sg, .unset, .unset, .unset, .unset, .unset, .unset, .unset, .unset, .unset, .unset, .unset, .unset, .unset, .unset, .unset, .unset, .unset, .unset, .unset]) rfl ?_
    refine XS.iload X0.here hx rfl (hb hby at_14) rfl ?_
    refine XS.iconst X0.here hx rfl (hb hby at_16) ?_
    refine XS.iushr X0.here hx rfl (hb hby at_17) rfl ?_
    exact hk
  obtain ⟨mm, hmm⟩ : ∃ z_, z_ = ((p6.toUInt32 >>> ((1 : Int32) &&& 31).toUInt32).toInt32) := ⟨_, rfl⟩
  have K4 : own_R p e below (s₁.setTop (mkF m 18 #[lv p1, .second, lv p2, .second, lv p3, .second, lv p4, .second, lv p5, .second, iv p6, iv sg, .unset, .unset, .unset, .unset, .unset, .unset, .unset, .unset, .unset, .unset, .unset, .unset, .unset, .unset, .unset, .unset, .unset, .unset, .unset] [(.int mm)])) S0 := by rw [hmm]; exact K3
  have bm : 0 ≤ mm.toInt := by
    rw [hmm, c_iushr p6 (1 : Int32) 1 (by decide) (by decide)]
    exact Int.ediv_nonneg (Int.emod_nonneg _ (by decide)) (by decide)
  have K5 : own_R p e below (s₁.setTop (mkF m 26 #[lv p1, .second, lv p2, .second, lv p3, .second, lv p4, .second, lv p5, .second, iv p6, iv sg, iv mm, .unset, .unset, .unset, .unset, .unset, .unset, .unset, .unset, .unset, .unset, .unset, .unset, .unset, .unset, .unset, .unset, .unset, .unset] [(.int ((1 : Int32) + (mm % (3 : Int32))))])) S0 := by
    intro t hk
    refine K4 t ?_
    show Steps p.tables e below (s₁.setTop (mkF m 18 #[lv p1, .second, lv p2, .second, lv p3, .second, lv p4, .second, lv p5, .second, iv p6, iv sg, .unset, .unset, .unset, .unset, .unset, .unset, .unset, .unset, .unset, .unset, .unset, .unset, .unset, .unset, .unset, .unset, .unset, .unset, .unset] [(.int mm)])) _
    refine XS.istore X0.here hx rfl (hb hby at_18) rfl (l' := #[lv p1, .second, lv p2, .second, lv p3, .second, lv p4, .second, lv p5, .second, iv p6, iv sg, iv mm, .unset, .unset, .unset, .unset, .unset, .unset, .unset, .unset, .unset, .unset, .unset, .unset, .unset, .unset, .unset, .unset, .unset, .unset]) rfl ?_
    refine XS.iconst X0.here hx rfl (hb hby at_20) ?_
    refine XS.iload X0.here hx rfl (hb hby at_21) rfl ?_
    refine XS.iconst X0.here hx rfl (hb hby at_23) ?_
    show Steps p.tables e below (s₁.setTop (mkF m 24 #[lv p1, .second, lv p2, .second, lv p3, .second, lv p4, .second, lv p5, .second, iv p6, iv sg, iv mm, .unset, .unset, .unset, .unset, .unset, .unset, .unset, .unset, .unset, .unset, .unset, .unset, .unset, .unset, .unset, .unset, .unset, .unset] [(.int (3 : Int32)), (.int mm), (.int (1 : Int32))])) _
    refine XS.irem X0.here hx rfl (hb hby at_24) rfl (by decide) ?_
    rw [Jvm.irem_eq_mod mm (3 : Int32)]
    show Steps p.tables e below (s₁.setTop (mkF m 25 #[lv p1, .second, lv p2, .second, lv p3, .second, lv p4, .second, lv p5, .second, iv p6, iv sg, iv mm, .unset, .unset, .unset, .unset, .unset, .unset, .unset, .unset, .unset, .unset, .unset, .unset, .unset, .unset, .unset, .unset, .unset, .unset] [(.int (mm % (3 : Int32))), (.int (1 : Int32))])) _
    refine XS.iadd X0.here hx rfl (hb hby at_25) rfl ?_
    exact hk
  obtain ⟨nn, hnn⟩ : ∃ z_, z_ = ((1 : Int32) + (mm % (3 : Int32))) := ⟨_, rfl⟩
  have K6 : own_R p e below (s₁.setTop (mkF m 26 #[lv p1, .second, lv p2, .second, lv p3, .second, lv p4, .second, lv p5, .second, iv p6, iv sg, iv mm, .unset, .unset, .unset, .unset, .unset, .unset, .unset, .unset, .unset, .unset, .unset, .unset, .unset, .unset, .unset, .unset, .unset, .unset] [(.int nn)])) S0 := by rw [hnn]; exact K5
  have bn : 1 ≤ nn.toInt ∧ nn.toInt ≤ 3 := by
    have e1 : (1 : Int32).toInt = 1 := by decide
    have r := (c_irem mm (3 : Int32) 3 (by decide)).1 bm
    rw [hnn, (Int32.toInt_add _ _).trans (Int.bmod_eq_of_le (by rw [r, e1]; omega) (by rw [r, e1]; omega)), r, e1]
    omega
  have bn1 := own_add1 nn (by omega)
  have hnz36 : (nn + (1 : Int32)) ≠ 0 := fun q => by have q0 : (0 : Int32).toInt = 0 := (by decide); rw [q] at bn1; omega
  have K7 : own_R p e below (s₁.setTop (mkF m 37 #[lv p1, .second, lv p2, .second, lv p3, .second, lv p4, .second, lv p5, .second, iv p6, iv sg, iv mm, iv nn, .unset, .unset, .unset, .unset, .unset, .unset, .unset, .unset, .unset, .unset, .unset, .unset, .unset, .unset, .unset, .unset, .unset] [(.int ((mm / (3 : Int32)) % (nn + (1 : Int32))))])) S0 := by
    intro t hk
    refine K6 t ?_
    show Steps p.tables e below (s₁.setTop (mkF m 26 #[lv p1, .second, lv p2, .second, lv p3, .second, lv p4, .second, lv p5, .second, iv p6, iv sg, iv mm, .unset, .unset, .unset, .unset, .unset, .unset, .unset, .unset, .unset, .unset, .unset, .unset, .unset, .unset, .unset, .unset, .unset, .unset] [(.int nn)])) _
    refine XS.istore X0.here hx rfl (hb hby at_26) rfl (l' := #[lv p1, .second, lv p2, .second, lv p3, .second, lv p4, .second, lv p5, .second, iv p6, iv sg, iv mm, iv nn, .unset, .unset, .unset, .unset, .unset, .unset, .unset, .unset, .unset, .unset, .unset, .unset, .unset, .unset, .unset, .unset, .unset]) rfl ?_
    refine XS.iload X0.here hx rfl (hb hby at_28) rfl ?_
    refine XS.iconst X0.here hx rfl (hb hby at_30) ?_
    refine XS.idiv X0.here hx rfl (hb hby at_31) rfl (by decide) ?_
    refine XS.iload X0.here hx rfl (hb hby at_32) rfl ?_
    refine XS.iconst X0.here hx rfl (hb hby at_34) ?_
    refine XS.iadd X0.here hx rfl (hb hby at_35) rfl ?_
    show Steps p.tables e below (s₁.setTop (mkF m 36 #[lv p1, .second, lv p2, .second, lv p3, .second, lv p4, .second, lv p5, .second, iv p6, iv sg, iv mm, iv nn, .unset, .unset, .unset, .unset, .unset, .unset, .unset, .unset, .unset, .unset, .unset, .unset, .unset, .unset, .unset, .unset, .unset] [(.int (nn + (1 : Int32))), (.int (mm / (3 : Int32)))])) _
    refine XS.irem X0.here hx rfl (hb hby at_36) rfl hnz36 ?_
    rw [Jvm.irem_eq_mod (mm / (3 : Int32)) (nn + (1 : Int32))]
    show Steps p.tables e below (s₁.setTop (mkF m 37 #[lv p1, .second, lv p2, .second, lv p3, .second, lv p4, .second, lv p5, .second, iv p6, iv sg, iv mm, iv nn, .unset, .unset, .unset, .unset, .unset, .unset, .unset, .unset, .unset, .unset, .unset, .unset, .unset, .unset, .unset, .unset, .unset] [(.int ((mm / (3 : Int32)) % (nn + (1 : Int32))))])) _
    exact hk
  obtain ⟨jx, hjx⟩ : ∃ z_, z_ = ((mm / (3 : Int32)) % (nn + (1 : Int32))) := ⟨_, rfl⟩
  have K8 : own_R p e below (s₁.setTop (mkF m 37 #[lv p1, .second, lv p2, .second, lv p3, .second, lv p4, .second, lv p5, .second, iv p6, iv sg, iv mm, iv nn, .unset, .unset, .unset, .unset, .unset, .unset, .unset, .unset, .unset, .unset, .unset, .unset, .unset, .unset, .unset, .unset, .unset] [(.int jx)])) S0 := by rw [hjx]; exact K7
  have bj : 0 ≤ jx.toInt ∧ jx.toInt ≤ nn.toInt := by
    have r := (c_idiv mm (3 : Int32) 3 (by decide) (by decide)).1 bm
    have r0 : 0 ≤ (mm / (3 : Int32)).toInt := by rw [r]; exact Int.ediv_nonneg bm (by decide)
    have r2 := (c_irem (mm / (3 : Int32)) (nn + (1 : Int32)) _ bn1).1 r0
    have z1 := Int.emod_nonneg (mm / (3 : Int32)).toInt (show nn.toInt + 1 ≠ 0 by omega)
    have z2 := Int.emod_lt_of_pos (mm / (3 : Int32)).toInt (show 0 < nn.toInt + 1 by omega)
    rw [hjx, r2]; omega
  have K9 : own_R p e below (s₁.setTop (mkF m 41 #[lv p1, .second, lv p2, .second, lv p3, .second, lv p4, .second, lv p5, .second, iv p6, iv sg, iv mm, iv nn, iv jx, .unset, .unset, .unset, .unset, .unset, .unset, .unset, .unset, .unset, .unset, .unset, .unset, .unset, .unset, .unset, .unset] [(.int (6 : Int32))])) S0 := by
    intro t hk
    refine K8 t ?_
    show Steps p.tables e below (s₁.setTop (mkF m 37 #[lv p1, .second, lv p2, .second, lv p3, .second, lv p4, .second, lv p5, .second, iv p6, iv sg, iv mm, iv nn, .unset, .unset, .unset, .unset, .unset, .unset, .unset, .unset, .unset, .unset, .unset, .unset, .unset, .unset, .unset, .unset, .unset] [(.int jx)])) _
    refine XS.istore X0.here hx rfl (hb hby at_37) rfl (l' := #[lv p1, .second, lv p2, .second, lv p3, .second, lv p4, .second, lv p5, .second, iv p6, iv sg, iv mm, iv nn, iv jx, .unset, .unset, .unset, .unset, .unset, .unset, .unset, .unset, .unset, .unset, .unset, .unset, .unset, .unset, .unset, .unset]) rfl ?_
    refine XS.bipush X0.here hx rfl (hb hby at_39) ?_
    exact hk
  obtain ⟨T10, h10, c10, X10, e10, E10, A10, st10⟩ := newP X0 hx hZ (hw _ (List.mem_of_getElem? (i := 0) rfl)) e0 (g := (mkF m 41 #[lv p1, .second, lv p2, .second, lv p3, .second, lv p4, .second, lv p5, .second, iv p6, iv sg, iv mm, iv nn, iv jx, .unset, .unset, .unset, .unset, .unset, .unset, .unset, .unset, .unset, .unset, .unset, .unset, .unset, .unset, .unset, .unset] [(.int (6 : Int32))])) rfl (hb hby at_41) rfl (by decide) (cap := 6) (by decide) (by decide) (by decide) (by decide)
  obtain ⟨va, g10⟩ : ∃ z, z = h0.size := ⟨_, rfl⟩
  rw [← g10] at A10 st10
  have V10 : Arv Z h10 va c10 .long (6 : Int32) [(.long (0 : Int64)), (.long (0 : Int64)), (.long (0 : Int64)), (.long (0 : Int64)), (.long (0 : Int64)), (.long (0 : Int64))] (.long (0 : Int64)) := (Arv.new A10 (by decide)).pad (pad_rep [] (.long (0 : Int64)) 6)
  have gb10 : n0 ≤ va := Nat.le_trans Z0 (Nat.le_of_eq g10.symm)
  have K10 : own_R p e below (T10.setTop (mkF m 43 #[lv p1, .second, lv p2, .second, lv p3, .second, lv p4, .second, lv p5, .second, iv p6, iv sg, iv mm, iv nn, iv jx, .unset, .unset, .unset, .unset, .unset, .unset, .unset, .unset, .unset, .unset, .unset, .unset, .unset, .unset, .unset, .unset] [(.ref va)])) S0 := fun t hk => K9 t (st10 _ hk)
  have sz10 : n0 ≤ h10.size := Nat.le_trans Z0 E10.1
  have K11 : own_R p e below (T10.setTop (mkF m 46 #[lv p1, .second, lv p2, .second, lv p3, .second, lv p4, .second, lv p5, .second, iv p6, iv sg, iv mm, iv nn, iv jx, .unset, .unset, .unset, .unset, .unset, .unset, .unset, .unset, .unset, .unset, .unset, .unset, .unset, .unset, .unset, .unset] [(.long p1), (.int (0 : Int32)), (.ref va), (.ref va)])) S0 := by
    intro t hk
    refine K10 t ?_
    show Steps p.tables e below (T10.setTop (mkF m 43 #[lv p1, .second, lv p2, .second, lv p3, .second, lv p4, .second, lv p5, .second, iv p6, iv sg, iv mm, iv nn, iv jx, .unset, .unset, .unset, .unset, .unset, .unset, .unset, .unset, .unset, .unset, .unset, .unset, .unset, .unset, .unset, .unset] [(.ref va)])) _
    refine XS.dup X10.here hx rfl (hb hby at_43) rfl rfl ?_
    refine XS.iconst X10.here hx rfl (hb hby at_44) ?_
    refine XS.lloadN X10.here hx rfl (hb hby at_45) rfl ?_
    exact hk
  obtain ⟨T12, h12, X12, e12, W12, V12', st12⟩ := own_stJ X10 hx hZ e10 V10 (j := (0 : Int32)) 0 rfl ⟨by decide, by decide⟩ (Nat.le_of_ble_eq_true rfl) (g := (mkF m 46 #[lv p1, .second, lv p2, .second, lv p3, .second, lv p4, .second, lv p5, .second, iv p6, iv sg, iv mm, iv nn, iv jx, .unset, .unset, .unset, .unset, .unset, .unset, .unset, .unset, .unset, .unset, .unset, .unset, .unset, .unset, .unset, .unset] [(.long p1), (.int (0 : Int32)), (.ref va), (.ref va)])) rfl rfl (hb hby at_46)
  have V12 : Arv Z h12 va c10 .long (6 : Int32) [(.long p1), (.long (0 : Int64)), (.long (0 : Int64)), (.long (0 : Int64)), (.long (0 : Int64)), (.long (0 : Int64))] (.long (0 : Int64)) := V12'
  have N12 := Fr.snoc X12 N0 gb10
  have sz12 : n0 ≤ h12.size := Nat.le_trans sz10 (Keep.of_wr W12).1
  have K12 : own_R p e below (T12.setTop (mkF m 47 #[lv p1, .second, lv p2, .second, lv p3, .second, lv p4, .second, lv p5, .second, iv p6, iv sg, iv mm, iv nn, iv jx, .unset, .unset, .unset, .unset, .unset, .unset, .unset, .unset, .unset, .unset, .unset, .unset, .unset, .unset, .unset, .unset] [(.ref va)])) S0 := fun t hk => K11 t (st12 _ hk)
  have K13 : own_R p e below (T12.setTop (mkF m 50 #[lv p1, .second, lv p2, .second, lv p3, .second, lv p4, .second, lv p5, .second, iv p6, iv sg, iv mm, iv nn, iv jx, .unset, .unset, .unset, .unset, .unset, .unset, .unset, .unset, .unset, .unset, .unset, .unset, .unset, .unset, .unset, .unset] [(.long p2), (.int (1 : Int32)), (.ref va), (.ref va)])) S0 := by
    intro t hk
    refine K12 t ?_
    show Steps p.tables e below (T12.setTop (mkF m 47 #[lv p1, .second, lv p2, .second, lv p3, .second, lv p4, .second, lv p5, .second, iv p6, iv sg, iv mm, iv nn, iv jx, .unset, .unset, .unset, .unset, .unset, .unset, .unset, .unset, .unset, .unset, .unset, .unset, .unset, .unset, .unset, .unset] [(.ref va)])) _
    refine XS.dup X12.here hx rfl (hb hby at_47) rfl rfl ?_
    refine XS.iconst X12.here hx rfl (hb hby at_48) ?_
    refine XS.lloadN X12.here hx rfl (hb hby at_49) rfl ?_
    exact hk
  obtain ⟨T14, h14, X14, e14, W14, V14', st14⟩ := own_stJ X12 hx hZ e12 V12 (j := (1 : Int32)) 1 rfl ⟨by decide, by decide⟩ (Nat.le_of_ble_eq_true rfl) (g := (mkF m 50 #[lv p1, .second, lv p2, .second, lv p3, .second, lv p4, .second, lv p5, .second, iv p6, iv sg, iv mm, iv nn, iv jx, .unset, .unset, .unset, .unset, .unset, .unset, .unset, .unset, .unset, .unset, .unset, .unset, .unset, .unset, .unset, .unset] [(.long p2), (.int (1 : Int32)), (.ref va), (.ref va)])) rfl rfl (hb hby at_50)
  have V14 : Arv Z h14 va c10 .long (6 : Int32) [(.long p1), (.long p2), (.long (0 : Int64)), (.long (0 : Int64)), (.long (0 : Int64)), (.long (0 : Int64))] (.long (0 : Int64)) := V14'
  have N14 := Fr.snoc X14 N12 gb10
  have sz14 : n0 ≤ h14.size := Nat.le_trans sz12 (Keep.of_wr W14).1
  have K14 : own_R p e below (T14.setTop (mkF m 51 #[lv p1, .second, lv p2, .second, lv p3, .second, lv p4, .second, lv p5, .second, iv p6, iv sg, iv mm, iv nn, iv jx, .unset, .unset, .unset, .unset, .unset, .unset, .unset, .unset, .unset, .unset, .unset, .unset, .unset, .unset, .unset, .unset] [(.ref va)])) S0 := fun t hk => K13 t (st14 _ hk)
  have K15 : own_R p e below (T14.setTop (mkF m 55 #[lv p1, .second, lv p2, .second, lv p3, .second, lv p4, .second, lv p5, .second, iv p6, iv sg, iv mm, iv nn, iv jx, .unset, .unset, .unset, .unset, .unset, .unset, .unset, .unset, .unset, .unset, .unset, .unset, .unset, .unset, .unset, .unset] [(.long p3), (.int (2 : Int32)), (.ref va), (.ref va)])) S0 := by
    intro t hk
    refine K14 t ?_
    show Steps p.tables e below (T14.setTop (mkF m 51 #[lv p1, .second, lv p2, .second, lv p3, .second, lv p4, .second, lv p5, .second, iv p6, iv sg, iv mm, iv nn, iv jx, .unset, .unset, .unset, .unset, .unset, .unset, .unset, .unset, .unset, .unset, .unset, .unset, .unset, .unset, .unset, .unset] [(.ref va)])) _
    refine XS.dup X14.here hx rfl (hb hby at_51) rfl rfl ?_
    refine XS.iconst X14.here hx rfl (hb hby at_52) ?_
    refine XS.lload X14.here hx rfl (hb hby at_53) rfl ?_
    exact hk
  obtain ⟨T16, h16, X16, e16, W16, V16', st16⟩ := own_stJ X14 hx hZ e14 V14 (j := (2 : Int32)) 2 rfl ⟨by decide, by decide⟩ (Nat.le_of_ble_eq_true rfl) (g := (mkF m 55 #[lv p1, .second, lv p2, .second, lv p3, .second, lv p4, .second, lv p5, .second, iv p6, iv sg, iv mm, iv nn, iv jx, .unset, .unset, .unset, .unset, .unset, .unset, .unset, .unset, .unset, .unset, .unset, .unset, .unset, .unset, .unset, .unset] [(.long p3), (.int (2 : Int32)), (.ref va), (.ref va)])) rfl rfl (hb hby at_55)
  have V16 : Arv Z h16 va c10 .long (6 : Int32) [(.long p1), (.long p2), (.long p3), (.long (0 : Int64)), (.long (0 : Int64)), (.long (0 : Int64))] (.long (0 : Int64)) := V16'
  have N16 := Fr.snoc X16 N14 gb10
  have sz16 : n0 ≤ h16.size := Nat.le_trans sz14 (Keep.of_wr W16).1
  have K16 : own_R p e below (T16.setTop (mkF m 56 #[lv p1, .second, lv p2, .second, lv p3, .second, lv p4, .second, lv p5, .second, iv p6, iv sg, iv mm, iv nn, iv jx, .unset, .unset, .unset, .unset, .unset, .unset, .unset, .unset, .unset, .unset, .unset, .unset, .unset, .unset, .unset, .unset] [(.ref va)])) S0 := fun t hk => K15 t (st16 _ hk)
  have K17 : own_R p e below (T16.setTop (mkF m 60 #[lv p1, .second, lv p2, .second, lv p3, .second, lv p4, .second, lv p5, .second, iv p6, iv sg, iv mm, iv nn, iv jx, .unset, .unset, .unset, .unset, .unset, .unset, .unset, .unset, .unset, .unset, .unset, .unset, .unset, .unset, .unset, .unset] [(.long p4), (.int (3 : Int32)), (.ref va), (.ref va)])) S0 := by
    intro t hk
    refine K16 t ?_
    show Steps p.tables e below (T16.setTop (mkF m 56 #[lv p1, .second, lv p2, .second, lv p3, .second, lv p4, .second, lv p5, .second, iv p6, iv sg, iv mm, iv nn, iv jx, .unset, .unset, .unset, .unset, .unset, .unset, .unset, .unset, .unset, .unset, .unset, .unset, .unset, .unset, .unset, .unset] [(.ref va)])) _
    refine XS.dup X16.here hx rfl (hb hby at_56) rfl rfl ?_
    refine XS.iconst X16.here hx rfl (hb hby at_57) ?_
    refine XS.lload X16.here hx rfl (hb hby at_58) rfl ?_
    exact hk
  obtain ⟨T18, h18, X18, e18, W18, V18', st18⟩ := own_stJ X16 hx hZ e16 V16 (j := (3 : Int32)) 3 rfl ⟨by decide, by decide⟩ (Nat.le_of_ble_eq_true rfl) (g := (mkF m 60 #[lv p1, .second, lv p2, .second, lv p3, .second, lv p4, .second, lv p5, .second, iv p6, iv sg, iv mm, iv nn, iv jx, .unset, .unset, .unset, .unset, .unset, .unset, .unset, .unset, .unset, .unset, .unset, .unset, .unset, .unset, .unset, .unset] [(.long p4), (.int (3 : Int32)), (.ref va), (.ref va)])) rfl rfl (hb hby at_60)
  have V18 : Arv Z h18 va c10 .long (6 : Int32) [(.long p1), (.long p2), (.long p3), (.long p4), (.long (0 : Int64)), (.long (0 : Int64))] (.long (0 : Int64)) := V18'
  have N18 := Fr.snoc X18 N16 gb10
  have sz18 : n0 ≤ h18.size := Nat.le_trans sz16 (Keep.of_wr W18).1
  have K18 : own_R p e below (T18.setTop (mkF m 61 #[lv p1, .second, lv p2, .second, lv p3, .second, lv p4, .second, lv p5, .second, iv p6, iv sg, iv mm, iv nn, iv jx, .unset, .unset, .unset, .unset, .unset, .unset, .unset, .unset, .unset, .unset, .unset, .unset, .unset, .unset, .unset, .unset] [(.ref va)])) S0 := fun t hk => K17 t (st18 _ hk)
  have K19 : own_R p e below (T18.setTop (mkF m 65 #[lv p1, .second, lv p2, .second, lv p3, .second, lv p4, .second, lv p5, .second, iv p6, iv sg, iv mm, iv nn, iv jx, .unset, .unset, .unset, .unset, .unset, .unset, .unset, .unset, .unset, .unset, .unset, .unset, .unset, .unset, .unset, .unset] [(.long p5), (.int (4 : Int32)), (.ref va), (.ref va)])) S0 := by
    intro t hk
    refine K18 t ?_
    show Steps p.tables e below (T18.setTop (mkF m 61 #[lv p1, .second, lv p2, .second, lv p3, .second, lv p4, .second, lv p5, .second, iv p6, iv sg, iv mm, iv nn, iv jx, .unset, .unset, .unset, .unset, .unset, .unset, .unset, .unset, .unset, .unset, .unset, .unset, .unset, .unset, .unset, .unset] [(.ref va)])) _
    refine XS.dup X18.here hx rfl (hb hby at_61) rfl rfl ?_
    refine XS.iconst X18.here hx rfl (hb hby at_62) ?_
    refine XS.lload X18.here hx rfl (hb hby at_63) rfl ?_
    exact hk
  obtain ⟨T20, h20, X20, e20, W20, V20', st20⟩ := own_stJ X18 hx hZ e18 V18 (j := (4 : Int32)) 4 rfl ⟨by decide, by decide⟩ (Nat.le_of_ble_eq_true rfl) (g := (mkF m 65 #[lv p1, .second, lv p2, .second, lv p3, .second, lv p4, .second, lv p5, .second, iv p6, iv sg, iv mm, iv nn, iv jx, .unset, .unset, .unset, .unset, .unset, .unset, .unset, .unset, .unset, .unset, .unset, .unset, .unset, .unset, .unset, .unset] [(.long p5), (.int (4 : Int32)), (.ref va), (.ref va)])) rfl rfl (hb hby at_65)
  have V20 : Arv Z h20 va c10 .long (6 : Int32) [(.long p1), (.long p2), (.long p3), (.long p4), (.long p5), (.long (0 : Int64))] (.long (0 : Int64)) := V20'
  have N20 := Fr.snoc X20 N18 gb10
  have sz20 : n0 ≤ h20.size := Nat.le_trans sz18 (Keep.of_wr W20).1
  have K20 : own_R p e below (T20.setTop (mkF m 66 #[lv p1, .second, lv p2, .second, lv p3, .second, lv p4, .second, lv p5, .second, iv p6, iv sg, iv mm, iv nn, iv jx, .unset, .unset, .unset, .unset, .unset, .unset, .unset, .unset, .unset, .unset, .unset, .unset, .unset, .unset, .unset, .unset] [(.ref va)])) S0 := fun t hk => K19 t (st20 _ hk)
  have K21 : own_R p e below (T20.setTop (mkF m 72 #[lv p1, .second, lv p2, .second, lv p3, .second, lv p4, .second, lv p5, .second, iv p6, iv sg, iv mm, iv nn, iv jx, .unset, .unset, .unset, .unset, .unset, .unset, .unset, .unset, .unset, .unset, .unset, .unset, .unset, .unset, .unset, .unset] [(.long (p2 - p4)), (.int (5 : Int32)), (.ref va), (.ref va)])) S0 := by
    intro t hk
    refine K20 t ?_
    show Steps p.tables e below (T20.setTop (mkF m 66 #[lv p1, .second, lv p2, .second, lv p3, .second, lv p4, .second, lv p5, .second, iv p6, iv sg, iv mm, iv nn, iv jx, .unset, .unset, .unset, .unset, .unset, .unset, .unset, .unset, .unset, .unset, .unset, .unset, .unset, .unset, .unset, .unset] [(.ref va)])) _
    refine XS.dup X20.here hx rfl (hb hby at_66) rfl rfl ?_
    refine XS.iconst X20.here hx rfl (hb hby at_67) ?_
    refine XS.lloadN X20.here hx rfl (hb hby at_68) rfl ?_
    refine XS.lload X20.here hx rfl (hb hby at_69) rfl ?_
    refine XS.lsub X20.here hx rfl (hb hby at_71) rfl ?_
    exact hk
  obtain ⟨T22, h22, X22, e22, W22, V22', st22⟩ := own_stJ X20 hx hZ e20 V20 (j := (5 : Int32)) 5 rfl ⟨by decide, by decide⟩ (Nat.le_of_ble_eq_true rfl) (g := (mkF m 72 #[lv p1, .second, lv p2, .second, lv p3, .second, lv p4, .second, lv p5, .second, iv p6, iv sg, iv mm, iv nn, iv jx, .unset, .unset, .unset, .unset, .unset, .unset, .unset, .unset, .unset, .unset, .unset, .unset, .unset, .unset, .unset, .unset] [(.long (p2 - p4)), (.int (5 : Int32)), (.ref va), (.ref va)])) rfl rfl (hb hby at_72)
  have V22 : Arv Z h22 va c10 .long (6 : Int32) [(.long p1), (.long p2), (.long p3), (.long p4), (.long p5), (.long (p2 - p4))] (.long (0 : Int64)) := V22'
  have N22 := Fr.snoc X22 N20 gb10
  have sz22 : n0 ≤ h22.size := Nat.le_trans sz20 (Keep.of_wr W22).1
  have K22 : own_R p e below (T22.setTop (mkF m 73 #[lv p1, .second, lv p2, .second, lv p3, .second, lv p4, .second, lv p5, .second, iv p6, iv sg, iv mm, iv nn, iv jx, .unset, .unset, .unset, .unset, .unset, .unset, .unset, .unset, .unset, .unset, .unset, .unset, .unset, .unset, .unset, .unset] [(.ref va)])) S0 := fun t hk => K21 t (st22 _ hk)
  have K23 : own_R p e below (T22.setTop (mkF m 76 #[lv p1, .second, lv p2, .second, lv p3, .second, lv p4, .second, lv p5, .second, iv p6, iv sg, iv mm, iv nn, iv jx, rv va, .unset, .unset, .unset, .unset, .unset, .unset, .unset, .unset, .unset, .unset, .unset, .unset, .unset, .unset, .unset] [(.int (4 : Int32))])) S0 := by
    intro t hk
    refine K22 t ?_
    show Steps p.tables e below (T22.setTop (mkF m 73 #[lv p1, .second, lv p2, .second, lv p3, .second, lv p4, .second, lv p5, .second, iv p6, iv sg, iv mm, iv nn, iv jx, .unset, .unset, .unset, .unset, .unset, .unset, .unset, .unset, .unset, .unset, .unset, .unset, .unset, .unset, .unset, .unset] [(.ref va)])) _
    refine XS.astore X22.here hx rfl (hb hby at_73) rfl rfl (l' := #[lv p1, .second, lv p2, .second, lv p3, .second, lv p4, .second, lv p5, .second, iv p6, iv sg, iv mm, iv nn, iv jx, rv va, .unset, .unset, .unset, .unset, .unset, .unset, .unset, .unset, .unset, .unset, .unset, .unset, .unset, .unset, .unset]) rfl ?_
    refine XS.iconst X22.here hx rfl (hb hby at_75) ?_
    exact hk
  obtain ⟨T24, h24, c24, X24, e24, E24, A24, st24⟩ := newP X22 hx hZ (hw _ (List.mem_of_getElem? (i := 1) rfl)) e22 (g := (mkF m 76 #[lv p1, .second, lv p2, .second, lv p3, .second, lv p4, .second, lv p5, .second, iv p6, iv sg, iv mm, iv nn, iv jx, rv va, .unset, .unset, .unset, .unset, .unset, .unset, .unset, .unset, .unset, .unset, .unset, .unset, .unset, .unset, .unset] [(.int (4 : Int32))])) rfl (hb hby at_76) rfl (by decide) (cap := 4) (by decide) (by decide) (by decide) (by decide)
  obtain ⟨vc, g24⟩ : ∃ z, z = h22.size := ⟨_, rfl⟩
  rw [← g24] at A24 st24
  have V24 : Arv Z h24 vc c24 .int (4 : Int32) [(.int (0 : Int32)), (.int (0 : Int32)), (.int (0 : Int32)), (.int (0 : Int32))] (.int (0 : Int32)) := (Arv.new A24 (by decide)).pad (pad_rep [] (.int (0 : Int32)) 4)
  have gb24 : n0 ≤ vc := Nat.le_trans sz22 (Nat.le_of_eq g24.symm)
  have lt10_24 : va < vc := by rw [g24]; exact V22.lt
  have ne10_24 : va ≠ vc := Nat.ne_of_lt lt10_24
  have V25 := V22.ext E24
  have K24 : own_R p e below (T24.setTop (mkF m 78 #[lv p1, .second, lv p2, .second, lv p3, .second, lv p4, .second, lv p5, .second, iv p6, iv sg, iv mm, iv nn, iv jx, rv va, .unset, .unset, .unset, .unset, .unset, .unset, .unset, .unset, .unset, .unset, .unset, .unset, .unset, .unset, .unset] [(.ref vc)])) S0 := fun t hk => K23 t (st24 _ hk)
  have sz24 : n0 ≤ h24.size := Nat.le_trans sz22 E24.1
  have K26 : own_R p e below (T24.setTop (mkF m 81 #[lv p1, .second, lv p2, .second, lv p3, .second, lv p4, .second, lv p5, .second, iv p6, iv sg, iv mm, iv nn, iv jx, rv va, .unset, .unset, .unset, .unset, .unset, .unset, .unset, .unset, .unset, .unset, .unset, .unset, .unset, .unset, .unset] [(.int (0 : Int32)), (.int (0 : Int32)), (.ref vc), (.ref vc)])) S0 := by
    intro t hk
    refine K24 t ?_
    show Steps p.tables e below (T24.setTop (mkF m 78 #[lv p1, .second, lv p2, .second, lv p3, .second, lv p4, .second, lv p5, .second, iv p6, iv sg, iv mm, iv nn, iv jx, rv va, .unset, .unset, .unset, .unset, .unset, .unset, .unset, .unset, .unset, .unset, .unset, .unset, .unset, .unset, .unset] [(.ref vc)])) _
    refine XS.dup X24.here hx rfl (hb hby at_78) rfl rfl ?_
    refine XS.iconst X24.here hx rfl (hb hby at_79) ?_
    refine XS.iconst X24.here hx rfl (hb hby at_80) ?_
    exact hk
  obtain ⟨T27, h27, X27, e27, W27, V27', st27⟩ := own_stI X24 hx hZ e24 V24 (j := (0 : Int32)) 0 rfl ⟨by decide, by decide⟩ (Nat.le_of_ble_eq_true rfl) (g := (mkF m 81 #[lv p1, .second, lv p2, .second, lv p3, .second, lv p4, .second, lv p5, .second, iv p6, iv sg, iv mm, iv nn, iv jx, rv va, .unset, .unset, .unset, .unset, .unset, .unset, .unset, .unset, .unset, .unset, .unset, .unset, .unset, .unset, .unset] [(.int (0 : Int32)), (.int (0 : Int32)), (.ref vc), (.ref vc)])) rfl rfl (hb hby at_81)
  have V27 : Arv Z h27 vc c24 .int (4 : Int32) [(.int (0 : Int32)), (.int (0 : Int32)), (.int (0 : Int32)), (.int (0 : Int32))] (.int (0 : Int32)) := V27'
  have N27 := Fr.snoc X27 N22 gb24
  have sz27 : n0 ≤ h27.size := Nat.le_trans sz24 (Keep.of_wr W27).1
  have V28 := V25.other W27 ne10_24
  have K27 : own_R p e below (T27.setTop (mkF m 82 #[lv p1, .second, lv p2, .second, lv p3, .second, lv p4, .second, lv p5, .second, iv p6, iv sg, iv mm, iv nn, iv jx, rv va, .unset, .unset, .unset, .unset, .unset, .unset, .unset, .unset, .unset, .unset, .unset, .unset, .unset, .unset, .unset] [(.ref vc)])) S0 := fun t hk => K26 t (st27 _ hk)
  have K29 : own_R p e below (T27.setTop (mkF m 85 #[lv p1, .second, lv p2, .second, lv p3, .second, lv p4, .second, lv p5, .second, iv p6, iv sg, iv mm, iv nn, iv jx, rv va, .unset, .unset, .unset, .unset, .unset, .unset, .unset, .unset, .unset, .unset, .unset, .unset, .unset, .unset, .unset] [(.int (2 : Int32)), (.int (1 : Int32)), (.ref vc), (.ref vc)])) S0 := by
    intro t hk
    refine K27 t ?_
    show Steps p.tables e below (T27.setTop (mkF m 82 #[lv p1, .second, lv p2, .second, lv p3, .second, lv p4, .second, lv p5, .second, iv p6, iv sg, iv mm, iv nn, iv jx, rv va, .unset, .unset, .unset, .unset, .unset, .unset, .unset, .unset, .unset, .unset, .unset, .unset, .unset, .unset, .unset] [(.ref vc)])) _
    refine XS.dup X27.here hx rfl (hb hby at_82) rfl rfl ?_
    refine XS.iconst X27.here hx rfl (hb hby at_83) ?_
    refine XS.iconst X27.here hx rfl (hb hby at_84) ?_
    exact hk
  obtain ⟨T30, h30, X30, e30, W30, V30', st30⟩ := own_stI X27 hx hZ e27 V27 (j := (1 : Int32)) 1 rfl ⟨by decide, by decide⟩ (Nat.le_of_ble_eq_true rfl) (g := (mkF m 85 #[lv p1, .second, lv p2, .second, lv p3, .second, lv p4, .second, lv p5, .second, iv p6, iv sg, iv mm, iv nn, iv jx, rv va, .unset, .unset, .unset, .unset, .unset, .unset, .unset, .unset, .unset, .unset, .unset, .unset, .unset, .unset, .unset] [(.int (2 : Int32)), (.int (1 : Int32)), (.ref vc), (.ref vc)])) rfl rfl (hb hby at_85)
  have V30 : Arv Z h30 vc c24 .int (4 : Int32) [(.int (0 : Int32)), (.int (2 : Int32)), (.int (0 : Int32)), (.int (0 : Int32))] (.int (0 : Int32)) := V30'
  have N30 := Fr.snoc X30 N27 gb24
  have sz30 : n0 ≤ h30.size := Nat.le_trans sz27 (Keep.of_wr W30).1
  have V31 := V28.other W30 ne10_24
  have K30 : own_R p e below (T30.setTop (mkF m 86 #[lv p1, .second, lv p2, .second, lv p3, .second, lv p4, .second, lv p5, .second, iv p6, iv sg, iv mm, iv nn, iv jx, rv va, .unset, .unset, .unset, .unset, .unset, .unset, .unset, .unset, .unset, .unset, .unset, .unset, .unset, .unset, .unset] [(.ref vc)])) S0 := fun t hk => K29 t (st30 _ hk)
  have K32 : own_R p e below (T30.setTop (mkF m 89 #[lv p1, .second, lv p2, .second, lv p3, .second, lv p4, .second, lv p5, .second, iv p6, iv sg, iv mm, iv nn, iv jx, rv va, .unset, .unset, .unset, .unset, .unset, .unset, .unset, .unset, .unset, .unset, .unset, .unset, .unset, .unset, .unset] [(.int (4 : Int32)), (.int (2 : Int32)), (.ref vc), (.ref vc)])) S0 := by
    intro t hk
    refine K30 t ?_
    show Steps p.tables e below (T30.setTop (mkF m 86 #[lv p1, .second, lv p2, .second, lv p3, .second, lv p4, .second, lv p5, .second, iv p6, iv sg, iv mm, iv nn, iv jx, rv va, .unset, .unset, .unset, .unset, .unset, .unset, .unset, .unset, .unset, .unset, .unset, .unset, .unset, .unset, .unset] [(.ref vc)])) _
    refine XS.dup X30.here hx rfl (hb hby at_86) rfl rfl ?_
    refine XS.iconst X30.here hx rfl (hb hby at_87) ?_
    refine XS.iconst X30.here hx rfl (hb hby at_88) ?_
    exact hk
  obtain ⟨T33, h33, X33, e33, W33, V33', st33⟩ := own_stI X30 hx hZ e30 V30 (j := (2 : Int32)) 2 rfl ⟨by decide, by decide⟩ (Nat.le_of_ble_eq_true rfl) (g := (mkF m 89 #[lv p1, .second, lv p2, .second, lv p3, .second, lv p4, .second, lv p5, .second, iv p6, iv sg, iv mm, iv nn, iv jx, rv va, .unset, .unset, .unset, .unset, .unset, .unset, .unset, .unset, .unset, .unset, .unset, .unset, .unset, .unset, .unset] [(.int (4 : Int32)), (.int (2 : Int32)), (.ref vc), (.ref vc)])) rfl rfl (hb hby at_89)
  have V33 : Arv Z h33 vc c24 .int (4 : Int32) [(.int (0 : Int32)), (.int (2 : Int32)), (.int (4 : Int32)), (.int (0 : Int32))] (.int (0 : Int32)) := V33'
  have N33 := Fr.snoc X33 N30 gb24
  have sz33 : n0 ≤ h33.size := Nat.le_trans sz30 (Keep.of_wr W33).1
  have V34 := V31.other W33 ne10_24
  have K33 : own_R p e below (T33.setTop (mkF m 90 #[lv p1, .second, lv p2, .second, lv p3, .second, lv p4, .second, lv p5, .second, iv p6, iv sg, iv mm, iv nn, iv jx, rv va, .unset, .unset, .unset, .unset, .unset, .unset, .unset, .unset, .unset, .unset, .unset, .unset, .unset, .unset, .unset] [(.ref vc)])) S0 := fun t hk => K32 t (st33 _ hk)
  have K35 : own_R p e below (T33.setTop (mkF m 94 #[lv p1, .second, lv p2, .second, lv p3, .second, lv p4, .second, lv p5, .second, iv p6, iv sg, iv mm, iv nn, iv jx, rv va, .unset, .unset, .unset, .unset, .unset, .unset, .unset, .unset, .unset, .unset, .unset, .unset, .unset, .unset, .unset] [(.int (6 : Int32)), (.int (3 : Int32)), (.ref vc), (.ref vc)])) S0 := by
    intro t hk
    refine K33 t ?_
    show Steps p.tables e below (T33.setTop (mkF m 90 #[lv p1, .second, lv p2, .second, lv p3, .second, lv p4, .second, lv p5, .second, iv p6, iv sg, iv mm, iv nn, iv jx, rv va, .unset, .unset, .unset, .unset, .unset, .unset, .unset, .unset, .unset, .unset, .unset, .unset, .unset, .unset, .unset] [(.ref vc)])) _
    refine XS.dup X33.here hx rfl (hb hby at_90) rfl rfl ?_
    refine XS.iconst X33.here hx rfl (hb hby at_91) ?_
    refine XS.bipush X33.here hx rfl (hb hby at_92) ?_
    exact hk
  obtain ⟨T36, h36, X36, e36, W36, V36', st36⟩ := own_stI X33 hx hZ e33 V33 (j := (3 : Int32)) 3 rfl ⟨by decide, by decide⟩ (Nat.le_of_ble_eq_true rfl) (g := (mkF m 94 #[lv p1, .second, lv p2, .second, lv p3, .second, lv p4, .second, lv p5, .second, iv p6, iv sg, iv mm, iv nn, iv jx, rv va, .unset, .unset, .unset, .unset, .unset, .unset, .unset, .unset, .unset, .unset, .unset, .unset, .unset, .unset, .unset] [(.int (6 : Int32)), (.int (3 : Int32)), (.ref vc), (.ref vc)])) rfl rfl (hb hby at_94)
  have V36 : Arv Z h36 vc c24 .int (4 : Int32) [(.int (0 : Int32)), (.int (2 : Int32)), (.int (4 : Int32)), (.int (6 : Int32))] (.int (0 : Int32)) := V36'
  have N36 := Fr.snoc X36 N33 gb24
  have sz36 : n0 ≤ h36.size := Nat.le_trans sz33 (Keep.of_wr W36).1
  have V37 := V34.other W36 ne10_24
  have K36 : own_R p e below (T36.setTop (mkF m 95 #[lv p1, .second, lv p2, .second, lv p3, .second, lv p4, .second, lv p5, .second, iv p6, iv sg, iv mm, iv nn, iv jx, rv va, .unset, .unset, .unset, .unset, .unset, .unset, .unset, .unset, .unset, .unset, .unset, .unset, .unset, .unset, .unset] [(.ref vc)])) S0 := fun t hk => K35 t (st36 _ hk)
  have K38 : own_R p e below (T36.setTop (mkF m 97 #[lv p1, .second, lv p2, .second, lv p3, .second, lv p4, .second, lv p5, .second, iv p6, iv sg, iv mm, iv nn, iv jx, rv va, rv vc, .unset, .unset, .unset, .unset, .unset, .unset, .unset, .unset, .unset, .unset, .unset, .unset, .unset, .unset] [])) S0 := by
    intro t hk
    refine K36 t ?_
    show Steps p.tables e below (T36.setTop (mkF m 95 #[lv p1, .second, lv p2, .second, lv p3, .second, lv p4, .second, lv p5, .second, iv p6, iv sg, iv mm, iv nn, iv jx, rv va, .unset, .unset, .unset, .unset, .unset, .unset, .unset, .unset, .unset, .unset, .unset, .unset, .unset, .unset, .unset] [(.ref vc)])) _
    refine XS.astore X36.here hx rfl (hb hby at_95) rfl rfl (l' := #[lv p1, .second, lv p2, .second, lv p3, .second, lv p4, .second, lv p5, .second, iv p6, iv sg, iv mm, iv nn, iv jx, rv va, rv vc, .unset, .unset, .unset, .unset, .unset, .unset, .unset, .unset, .unset, .unset, .unset, .unset, .unset, .unset]) rfl ?_
    exact hk
  obtain ⟨T39, h39, X39, e39, E39, A39, D39, -, st39⟩ := newO X36 hx hZ hown (hw _ (List.mem_of_getElem? (i := 2) rfl)) (hw _ (List.mem_of_getElem? (i := 3) rfl)) (hw _ (List.mem_of_getElem? (i := 4) rfl)) e36 (g := (mkF m 97 #[lv p1, .second, lv p2, .second, lv p3, .second, lv p4, .second, lv p5, .second, iv p6, iv sg, iv mm, iv nn, iv jx, rv va, rv vc, .unset, .unset, .unset, .unset, .unset, .unset, .unset, .unset, .unset, .unset, .unset, .unset, .unset, .unset] [])) rfl (hb hby at_97) (by decide) (by decide)
  obtain ⟨ob, g39⟩ : ∃ z, z = h36.size := ⟨_, rfl⟩
  rw [← g39] at A39 D39 st39
  have lt_vc : vc < ob := by rw [g39]; exact V36.lt
  have K39 : own_R p e below (T39.setTop (mkF m 100 #[lv p1, .second, lv p2, .second, lv p3, .second, lv p4, .second, lv p5, .second, iv p6, iv sg, iv mm, iv nn, iv jx, rv va, rv vc, .unset, .unset, .unset, .unset, .unset, .unset, .unset, .unset, .unset, .unset, .unset, .unset, .unset, .unset] [(.ref ob)])) S0 := fun t hk => K38 t (st39 _ hk)
  have szo := Nat.le_trans sz36 E39.1
  have Va := V37.ext E39
  have Vc := V36.ext E39
  have hD : own_D Z h39 ob := ⟨A39, D39 (Or.inr (hw _ (List.mem_of_getElem? (i := 15) rfl))) (ty := .boolean) (by decide), D39 (Or.inr (hw _ (List.mem_of_getElem? (i := 18) rfl))) (ty := .long) (by decide), D39 (Or.inr (hw _ (List.mem_of_getElem? (i := 20) rfl))) (ty := .boolean) (by decide), D39 (Or.inl (hw _ (List.mem_of_getElem? (i := 67) rfl))) (ty := (.array .long)) (by decide), D39 (Or.inl (hw _ (List.mem_of_getElem? (i := 74) rfl))) (ty := .int) (by decide), D39 (Or.inl (hw _ (List.mem_of_getElem? (i := 22) rfl))) (ty := (.array .int)) (by decide), D39 (Or.inl (hw _ (List.mem_of_getElem? (i := 24) rfl))) (ty := (.array .long)) (by decide), D39 (Or.inl (hw _ (List.mem_of_getElem? (i := 26) rfl))) (ty := (.array .long)) (by decide), D39 (Or.inl (hw _ (List.mem_of_getElem? (i := 28) rfl))) (ty := (.array .long)) (by decide), D39 (Or.inl (hw _ (List.mem_of_getElem? (i := 30) rfl))) (ty := (.array .long)) (by decide), D39 (Or.inl (hw _ (List.mem_of_getElem? (i := 33) rfl))) (ty := (.array .byte)) (by decide)⟩
  have K40 : own_R p e below (T39.setTop (mkF m 103 #[lv p1, .second, lv p2, .second, lv p3, .second, lv p4, .second, lv p5, .second, iv p6, iv sg, iv mm, iv nn, iv jx, rv va, rv vc, .unset, .unset, .unset, .unset, .unset, .unset, .unset, .unset, .unset, .unset, .unset, .unset, .unset, .unset] [(.int sg), (.ref ob), (.ref ob)])) S0 := by
    intro t hk
    refine K39 t ?_
    show Steps p.tables e below (T39.setTop (mkF m 100 #[lv p1, .second, lv p2, .second, lv p3, .second, lv p4, .second, lv p5, .second, iv p6, iv sg, iv mm, iv nn, iv jx, rv va, rv vc, .unset, .unset, .unset, .unset, .unset, .unset, .unset, .unset, .unset, .unset, .unset, .unset, .unset, .unset] [(.ref ob)])) _
    refine XS.dup X39.here hx rfl (hb hby at_100) rfl rfl ?_
    refine XS.iload X39.here hx rfl (hb hby at_101) rfl ?_
    exact hk
  obtain ⟨_, _, ⟨T41, L41, k41, n41⟩, -, X41, ⟨Lc41, hQ41, l41, y41, z41⟩, st41⟩ := X39.specialBack hx (y := (⟨"com/example/bitrun/bitrun/orc/intv2/Segments", "<init>", "(Z)V"⟩ : MethodName)) rfl hown (mvT hZ (hw _ (List.mem_of_getElem? (i := 5) rfl))) (mvT hZ (hw _ (List.mem_of_getElem? (i := 6) rfl))) (mvT hZ (hw _ (List.mem_of_getElem? (i := 7) rfl))) (by decide) (backOf (W := 1) (rm1 l Z a0 hw [] ob sg va _ _ h39 n0 szo hD Va rfl (by omega) (by omega)) hZ (hw _ (List.mem_of_getElem? (i := 7) rfl)) (hw _ (List.mem_of_getElem? (i := 4) rfl)) (by decide) (by decide)) (g := (mkF m 103 #[lv p1, .second, lv p2, .second, lv p3, .second, lv p4, .second, lv p5, .second, iv p6, iv sg, iv mm, iv nn, iv jx, rv va, rv vc, .unset, .unset, .unset, .unset, .unset, .unset, .unset, .unset, .unset, .unset, .unset, .unset, .unset, .unset] [(.int sg), (.ref ob), (.ref ob)])) rfl (by rw [hml]; rfl) (Steps.refl _) (a := ob) (argsL := [(.int sg)]) (rest := [(.ref ob)]) (lenOf (by decide +kernel : parseMethodDescriptor "(Z)V" = some ⟨[.boolean], none⟩) rfl) rfl (by show 2 * 0 + _ ≤ _; exact Nat.le_of_eq rfl) (hb hby at_103) (fun _ _ => ⟨rfl, e39, (by decide : 0 + 1 + 1 + 1 + 6 ≤ _), (by decide : 0 + 6 + 4 + 11 + 1 ≤ _)⟩)
  dsimp only [Pt.U, Pt.locs, Pt.cells, Pt.slots] at X41 l41 y41 z41 st41 hQ41
  replace y41 := y41.symm; replace z41 := z41.symm; subst l41 y41 z41
  obtain ⟨rfl, Nq41, Kq41, yb, yl, yh, yf, yg, ys, jb, jl, jh, jf, jg, js, fl, hO0, szb, hG0⟩ := hQ41
  have N41 := Fr.app N36 Nq41
  have K41 : own_R p e below (T41.setTop (mkF m 106 #[lv p1, .second, lv p2, .second, lv p3, .second, lv p4, .second, lv p5, .second, iv p6, iv sg, iv mm, iv nn, iv jx, rv va, rv vc, .unset, .unset, .unset, .unset, .unset, .unset, .unset, .unset, .unset, .unset, .unset, .unset, .unset, .unset] [(.ref ob)])) S0 := fun t hk => K40 t (st41.trans hk)
  have szp := Nat.le_trans szo Kq41.1
  have Vc2 := Vc.keep Kq41 (ninS (own_neN (by omega)) nin0)
  have K42 : own_R p e below (T41.setTop (mkF m 116 #[lv p1, .second, lv p2, .second, lv p3, .second, lv p4, .second, lv p5, .second, iv p6, iv sg, iv mm, iv nn, iv jx, rv va, rv vc, rv ob, .unset, .unset, .unset, .unset, .unset, .unset, .unset, .unset, .unset, .unset, .unset, .unset, .unset] [(.int nn), (.ref vc), (.ref va), (.ref ob)])) S0 := by
    intro t hk
    refine K41 t ?_
    show Steps p.tables e below (T41.setTop (mkF m 106 #[lv p1, .second, lv p2, .second, lv p3, .second, lv p4, .second, lv p5, .second, iv p6, iv sg, iv mm, iv nn, iv jx, rv va, rv vc, .unset, .unset, .unset, .unset, .unset, .unset, .unset, .unset, .unset, .unset, .unset, .unset, .unset, .unset] [(.ref ob)])) _
    refine XS.astore X41.here hx rfl (hb hby at_106) rfl rfl (l' := #[lv p1, .second, lv p2, .second, lv p3, .second, lv p4, .second, lv p5, .second, iv p6, iv sg, iv mm, iv nn, iv jx, rv va, rv vc, rv ob, .unset, .unset, .unset, .unset, .unset, .unset, .unset, .unset, .unset, .unset, .unset, .unset, .unset]) rfl ?_
    refine XS.aload X41.here hx rfl (hb hby at_108) rfl rfl ?_
    refine XS.aload X41.here hx rfl (hb hby at_110) rfl rfl ?_
    refine XS.aload X41.here hx rfl (hb hby at_112) rfl rfl ?_
    refine XS.iload X41.here hx rfl (hb hby at_114) rfl ?_
    exact hk
  obtain ⟨cq43, kq43, q43a, q43b, q43c⟩ := isOf hZ rfl (own_pE hG0)
  obtain ⟨_, _, ⟨T43, L43, k43, n43⟩, -, X43, ⟨Lc43, hQ43, l43, y43, z43⟩, st43⟩ := X41.virtualBack hx (y := (⟨"com/example/bitrun/bitrun/orc/intv2/Segments", "cut", "([J[II)V"⟩ : MethodName)) (z := (⟨"com/example/bitrun/bitrun/orc/intv2/Segments", "cut", "([J[II)V"⟩ : MethodName)) hown (mvT hZ (hw _ (List.mem_of_getElem? (i := 34) rfl))) (mvT hZ (hw _ (List.mem_of_getElem? (i := 35) rfl))) (notFace_of_selects (args := #[]) (mvT hZ (hw _ (List.mem_of_getElem? (i := 37) rfl)))) (mvT hZ (hw _ (List.mem_of_getElem? (i := 37) rfl))) (mvT hZ (hw _ (List.mem_of_getElem? (i := 36) rfl))) (by decide) (backOf (W := 0) (rm4 l Z a0 hw [] ob va vc nn yb yl yh yf yg ys _ jb jl jh jf jg js fl _ _ T41.heap n0 szp hO0 hG0 Vc2 ⟨by omega, by omega⟩ bn) hZ (hw _ (List.mem_of_getElem? (i := 38) rfl)) (hw _ (List.mem_of_getElem? (i := 4) rfl)) (by decide) (by decide)) q43a q43c (g := (mkF m 116 #[lv p1, .second, lv p2, .second, lv p3, .second, lv p4, .second, lv p5, .second, iv p6, iv sg, iv mm, iv nn, iv jx, rv va, rv vc, rv ob, .unset, .unset, .unset, .unset, .unset, .unset, .unset, .unset, .unset, .unset, .unset, .unset, .unset] [(.int nn), (.ref vc), (.ref va), (.ref ob)])) rfl (by rw [hml]; rfl) (Steps.refl _) (argsL := [(.ref va), (.ref vc), (.int nn)]) (rest := []) (lenOf (by decide +kernel : parseMethodDescriptor "([J[II)V" = some ⟨[(.array .long), (.array .int), .int], none⟩) rfl) rfl (by show 2 * 0 + _ ≤ _; exact Nat.le_of_eq rfl) (hb hby at_116) (fun _ _ => ⟨rfl, rfl, (by decide : 0 + 1 + 1 + 1 + 6 + 6 ≤ _), (by decide : 0 + 6 + 4 + 11 + 1 + 24 ≤ _)⟩)
  dsimp only [Pt.U, Pt.locs, Pt.cells, Pt.slots] at X43 l43 y43 z43 st43 hQ43
  replace y43 := y43.symm; replace z43 := z43.symm; subst l43 y43 z43
  obtain ⟨rfl, Nq43, szq, vb, vl, vh, vf, vg, vs, kb, kl, kh, kf, kg, ks, VB, VL, VH, VF, VG, VS, hO, hG, BB⟩ := hQ43
  have N43 := Fr.app N41 Nq43
  have K43 : own_R p e below (T43.setTop (mkF m 119 #[lv p1, .second, lv p2, .second, lv p3, .second, lv p4, .second, lv p5, .second, iv p6, iv sg, iv mm, iv nn, iv jx, rv va, rv vc, rv ob, .unset, .unset, .unset, .unset, .unset, .unset, .unset, .unset, .unset, .unset, .unset, .unset, .unset] [])) S0 := fun t hk => K42 t (st43.trans hk)
  obtain ⟨nb, hnb⟩ : ∃ z, z = nn + (1 : Int32) := ⟨_, rfl⟩
  rw [← hnb] at hO hG
  exact own_tail X43 hx hby hml hown hZ hw Bd.returns Bd.notSynchronized p1 p2 p3 p4 p5 p6 sg mm nn jx va vc ob rfl szq N43 (by decide) (by decide) hO hG hnb BB bn bj K43
set_option maxRecDepth 65536 in
set_option maxHeartbeats 40000000 in
theorem comes_1 {Post : Tables → Env → Array Value → State → Outcome → State → Prop} (hpost : ∀ tb e args s v u, (limb_1_1.after args s (.returned v) u = true ∧ limb_1_2.after args s (.returned v) u = true ∧ True) → FrameEnd s (.returned v) u (Jvm.fieldLocs frame_1_writes args s ++ Jvm.arrayLocs frame_1_arrays args s ++ Jvm.staticLocs frame_1_statics s) 40 192 → Post tb e args s (.returned v) u) :
    ArmFor flags0 classFile x code maxLocals ret World_1 tables_1 room_1 Calls_1 rest_1 Pre_1 Post := by
  intro l hfl _ _ p e ha hc hk s m args below hf hA hF happ hP
  obtain ⟨hcalls, hrest, hpre⟩ := hP
  obtain ⟨-, -, -, hnamed, -, -, -, hat⟩ := (Spec.applies_iff hf).mp happ
  obtain ⟨hg, hn⟩ := and_e (Cond.before_iff.mp (show (Jvm.Cond.and given_1 narrow_1).before args s = true from hpre))
  obtain ⟨gc, gr⟩ := and_e hg
  obtain ⟨ga0, gr⟩ := and_e gr
  obtain ⟨ga1, gr⟩ := and_e gr
  obtain ⟨ga2, gr⟩ := and_e gr
  obtain ⟨ga3, gr⟩ := and_e gr
  obtain ⟨ga4, gr⟩ := and_e gr
  obtain ⟨w0, w1, w2, w3, w4, w5, rfl⟩ : ∃ w0 w1 w2 w3 w4 w5 : Value, args = #[w0, w1, w2, w3, w4, w5] := by
    have hs : args.size = 6 := by simpa [Cond.value, given_1] using gc
    obtain ⟨L⟩ := args
    match L, hs with
    | [w0, w1, w2, w3, w4, w5], _ => exact ⟨w0, w1, w2, w3, w4, w5, rfl⟩
  have hw := fun d (hd : d ∈ tables_1) => atoms_spec (ws := Jvm.Cond.code x code maxLocals ret :: tables_1) hat d (List.mem_cons_of_mem _ hd)
  have hfit : Fit s := fun {y c} hc i hi => by
    obtain ⟨ha, rfl⟩ := Array.getElem?_eq_some_iff.mp hc
    have q := List.all_eq_true.mp ((Array.all_eq_true_iff_forall_mem.mp hF) _ (Array.getElem_mem ha)) i (List.mem_range.mpr hi)
    simpa [Array.getElem?_eq_getElem hi] using q
  obtain ⟨i0, ei0⟩ := isL_v ga0
  obtain rfl : w0 = (.long i0) := Option.some.inj ei0
  obtain ⟨i1, ei1⟩ := isL_v ga1
  obtain rfl : w1 = (.long i1) := Option.some.inj ei1
  obtain ⟨i2, ei2⟩ := isL_v ga2
  obtain rfl : w2 = (.long i2) := Option.some.inj ei2
  obtain ⟨i3, ei3⟩ := isL_v ga3
  obtain rfl : w3 = (.long i3) := Option.some.inj ei3
  obtain ⟨i4, ei4⟩ := isL_v ga4
  obtain rfl : w4 = (.long i4) := Option.some.inj ei4
  obtain ⟨i5, ei5⟩ := is_v gr
  obtain rfl : w5 = (.int i5) := Option.some.inj ei5
  obtain ⟨n, o, h1, h2, h3, _, L, rfl, ⟨rfl, N⟩, hq⟩ := rm0 l s _ hw tables_1 i0 i1 i2 i3 i4 i5  s.heap s.heap.size (Nat.le_refl _)  p e ha hc hk s m _ below hf ((Spec.applies_iff_loose hf).mp happ).1 ⟨rfl, State.Warmed39.refl s, rfl⟩ trivial
  refine ⟨n, _, h1, h2, h3, hpost _ _ _ _ _ _ ⟨Cond.after_iff.mpr rfl, Cond.after_iff.mpr (eq_i res_at (Term.int_eval (1)) rfl), trivial⟩ ⟨hq.1, hq.2.1, (hq.2.2.sift fun y hy => Or.inr (N y hy)).mono (by decide) (by decide)⟩⟩
theorem main_1_1 : Claimed_1_1 := comes_1 fun _ _ _ _ _ _ h hF => ⟨h.1, hF⟩
theorem main_1_2 : Claimed_1_2 := comes_1 fun _ _ _ _ _ _ h hF => ⟨h.2.1, hF⟩
end Jvm.Pilot.@@N@@
namespace Jvm.Pilot.@@N@@
open Jvm Jvm.ClassFile Sem Op Lib Jvm.Free Jvm.Stand Jvm.Pilot.@@N@@.Jvm.D
/-! MADE BY PROGRAM (witnessworld.py) out of the Statement's table words and the real class files: 14 classes; the members and pool entries that the words name. The judged class is class 1, her method 1. -/
namespace start1
open Jvm.ClassFile
def u (s : String) : CpInfo := .utf8 (stringToUtf16 s)
/-- a pool by its gaps: so many unusable entries, then the entry; so many at the end -/
def gap : Nat → List CpInfo → List CpInfo
  | 0, r => r
  | n + 1, r => .unusable :: gap n r
def poolList (es : List (Nat × CpInfo)) (last : Nat) : List CpInfo := es.foldr (fun e r => gap e.1 (e.2 :: r)) (gap last [])
def pool (es : List (Nat × CpInfo)) (last : Nat) : Array CpInfo := ⟨poolList es last⟩
def fileOf (pool : Array CpInfo) (this : Nat) (attrs : Array Attribute := #[]) (ms : Array MethodInfo := #[]) (fl : Nat := 33) (sup : Nat := 0) (ifs : Array Nat := #[]) (fds : Array FieldInfo := #[]) : ClassFile where
  minorVersion := 0
  majorVersion := 65
  constantPool := pool
  accessFlags := fl
  thisClass := this
  superClass := sup
  interfaces := ifs
  fields := fds
  methods := ms
  attributes := attrs
def plain (name : String) (sup : Option ClassId) : Class where
  name := name
  kind := .ordinary
  loader := none
  accessFlags := 33
  super := sup
  interfaces := #[]
  cf := none
  fields := #[]
  methods := #[]
  instanceTypes := #[]
  staticTypes := #[]
  resolved := #[]
  callSites := []
  init := .initialized
  statics := none
  mirror := none

def pool0 : Array CpInfo := pool [(5, u "<init>"), (0, u "()V"), (1, .class_ 10), (1, u "java/lang/Object")] 113

def k0c0 : Code := { maxStack := 0, maxLocals := 1, code := object_method_1_code, exceptionTable := #[], attributes := #[] }
def k0m0 : Method := { name := "<init>", desc := "()V", sig := { parameters := [], returnType := none }, accessFlags := 1, code := some k0c0 }
/-- java/lang/Object -/
def k0 : Class := { plain "java/lang/Object" none with
  accessFlags := 33
  interfaces := #[]
  cf := some (fileOf pool0 8 #[] #[{ accessFlags := 1, nameIndex := 5, descriptorIndex := 6, attributes := #[] }] 33 0 #[] #[])
  fields := #[]
  methods := #[k0m0]
  instanceTypes := #[]
  staticTypes := #[]
  resolved := Array.replicate 124 none
  statics := none }

def pool1 : Array CpInfo := pool [(2, .class_ 4), (1, u "java/lang/Object"), (0, u "<init>"), (0, u "()V"), (0, .class_ 8), (0, u "com/example/bitrun/bitrun/orc/intv2/Segments"), (0, .methodref 7 10), (0, .nameAndType 5 11), (0, u "(Z)V"), (0, .methodref 7 13), (0, .nameAndType 14 15), (0, u "cut"), (0, u "([J[II)V"), (0, .methodref 7 17), (0, .nameAndType 18 19), (0, u "lowest"), (0, u "(I)J"), (0, .methodref 7 21), (0, .nameAndType 22 19), (0, u "highest"), (0, .methodref 7 24), (0, .nameAndType 25 19), (0, u "firstStep"), (0, .methodref 7 27), (0, .nameAndType 28 19), (0, u "magnitudes"), (0, .methodref 7 30), (0, .nameAndType 31 32), (0, u "steps"), (0, u "(I)I"), (0, .methodref 7 34), (0, .nameAndType 35 36), (0, u "restartAt"), (0, u "(I)V"), (0, .methodref 7 38), (0, .nameAndType 39 40), (0, u "count"), (0, u "()I"), (0, .methodref 7 42), (0, .nameAndType 43 32), (0, u "bound"), (0, .class_ 45), (0, u "com/example/bitrun/bitrun/orc/intv2/SegmentsRestartAtPinLaw"), (2, u "law"), (0, u "(JJJJJI)Z")] 7

def k1m0 : Method := { name := "<init>", desc := "()V", sig := { parameters := [], returnType := none }, accessFlags := 1, code := none }
def k1c1 : Code := { maxStack := 7, maxLocals := 31, code := code, exceptionTable := #[], attributes := #[] }
def k1m1 : Method := { name := "law", desc := "(JJJJJI)Z", sig := { parameters := [.long, .long, .long, .long, .long, .int], returnType := some .boolean }, accessFlags := 9, code := some k1c1 }
/-- com/example/bitrun/bitrun/orc/intv2/SegmentsRestartAtPinLaw -/
def k1 : Class := { plain "com/example/bitrun/bitrun/orc/intv2/SegmentsRestartAtPinLaw" (some 0) with
  accessFlags := 49
  interfaces := #[]
  cf := some (fileOf pool1 44 #[] #[{ accessFlags := 1, nameIndex := 5, descriptorIndex := 6, attributes := #[] }, { accessFlags := 9, nameIndex := 48, descriptorIndex := 49, attributes := #[] }] 49 2 #[] #[])
  fields := #[]
  methods := #[k1m0, k1m1]
  instanceTypes := #[]
  staticTypes := #[]
  resolved := Array.replicate 57 none
  statics := none }

def pool2 : Array CpInfo := pool [(1, .methodref 2 3), (0, .class_ 4), (0, .nameAndType 5 6), (0, u "com/example/bitrun/bitrun/orc/intv2/Segments"), (0, u "<init>"), (0, u "(ZIZ)V"), (0, .methodref 8 9), (0, .class_ 10), (0, .nameAndType 5 11), (0, u "java/lang/Object"), (0, u "()V"), (0, .fieldref 2 13), (0, .nameAndType 14 15), (0, u "signed"), (0, u "Z"), (2, .long 9223372036854775808), (1, .fieldref 2 21), (0, .nameAndType 22 23), (0, u "flip"), (0, u "J"), (0, .fieldref 2 25), (0, .nameAndType 26 15), (0, u "bounded"), (0, .fieldref 2 28), (0, .nameAndType 29 30), (0, u "bounds"), (0, u "[I"), (0, .fieldref 2 32), (0, .nameAndType 33 34), (0, u "lowest"), (0, u "[J"), (0, .fieldref 2 36), (0, .nameAndType 37 34), (0, u "highest"), (0, .fieldref 2 39), (0, .nameAndType 40 34), (0, u "firstStep"), (0, .fieldref 2 42), (0, .nameAndType 43 34), (0, u "magnitudes"), (0, .fieldref 2 45), (0, .nameAndType 46 47), (0, u "steps"), (0, u "[B"), (0, .methodref 2 49), (0, .nameAndType 50 51), (0, u "resize"), (0, u "(I)V"), (0, .methodref 2 53), (0, .nameAndType 54 55), (0, u "clear"), (0, u "([JI)V"), (0, .methodref 2 57), (0, .nameAndType 58 51), (0, u "summarise"), (0, .fieldref 2 60), (0, .nameAndType 61 34), (0, u "values"), (0, .methodref 2 63), (0, .nameAndType 54 51), (0, .fieldref 2 65), (0, .nameAndType 66 67), (0, u "count"), (0, u "I"), (0, .methodref 2 69), (0, .nameAndType 70 71), (0, u "keyBeforeNext"), (0, u "()J"), (0, .long 9223372036854775807), (1, .methodref 75 76), (0, .class_ 77), (0, .nameAndType 78 79), (0, u "java/lang/Math"), (0, u "min"), (0, u "(JJ)J"), (0, .methodref 75 81), (0, .nameAndType 82 79), (0, u "max"), (0, .methodref 2 84), (0, .nameAndType 85 86), (0, u "take"), (0, u "(IJJJJJ)V"), (0, .methodref 2 88), (0, .nameAndType 89 90), (0, u "key"), (0, u "(J)J"), (0, .methodref 2 92), (0, .nameAndType 93 94), (0, u "next"), (0, u "()I"), (0, .methodref 2 96), (0, .nameAndType 97 98), (0, u "set"), (0, u "(IIJJJJI)V"), (0, .methodref 2 100), (0, .nameAndType 101 102), (0, u "wrappedSteps"), (0, u "(IJ)V"), (13, .methodref 117 118), (0, .class_ 119), (0, .nameAndType 120 121), (0, u "java/util/Arrays"), (0, u "copyOf"), (0, u "([II)[I"), (0, .methodref 117 123), (0, .nameAndType 120 124), (0, u "([JI)[J"), (0, .methodref 117 126), (0, .nameAndType 120 127), (0, u "([BI)[B"), (14, u "MOST"), (2, u "RISES"), (1, u "FALLS"), (1, u "SAME_STEP"), (1, u "(Z)V"), (4, u "cut"), (0, u "([J[II)V"), (1, u "restartAt"), (4, u "bound"), (0, u "(I)I"), (2, u "(I)J")] 2

def k2c0 : Code := { maxStack := 4, maxLocals := 2, code := prog_74_method_1_code, exceptionTable := #[], attributes := #[] }
def k2m0 : Method := { name := "<init>", desc := "(Z)V", sig := { parameters := [.boolean], returnType := none }, accessFlags := 0, code := some k2c0 }
def k2c1 : Code := { maxStack := 3, maxLocals := 4, code := prog_74_method_3_code, exceptionTable := #[], attributes := #[] }
def k2m1 : Method := { name := "<init>", desc := "(ZIZ)V", sig := { parameters := [.boolean, .int, .boolean], returnType := none }, accessFlags := 2, code := some k2c1 }
def k2c2 : Code := { maxStack := 4, maxLocals := 5, code := prog_74_method_4_code, exceptionTable := #[], attributes := #[] }
def k2m2 : Method := { name := "cut", desc := "([J[II)V", sig := { parameters := [(.array .long), (.array .int), .int], returnType := none }, accessFlags := 0, code := some k2c2 }
def k2c3 : Code := { maxStack := 2, maxLocals := 3, code := prog_74_method_5_code, exceptionTable := #[], attributes := #[] }
def k2m3 : Method := { name := "clear", desc := "([JI)V", sig := { parameters := [(.array .long), .int], returnType := none }, accessFlags := 0, code := some k2c3 }
def k2c4 : Code := { maxStack := 3, maxLocals := 2, code := prog_74_method_6_code, exceptionTable := #[], attributes := #[] }
def k2m4 : Method := { name := "clear", desc := "(I)V", sig := { parameters := [.int], returnType := none }, accessFlags := 0, code := some k2c4 }
def k2c5 : Code := { maxStack := 1, maxLocals := 1, code := prog_74_method_8_code, exceptionTable := #[], attributes := #[] }
def k2m5 : Method := { name := "count", desc := "()I", sig := { parameters := [], returnType := some .int }, accessFlags := 0, code := some k2c5 }
def k2c6 : Code := { maxStack := 5, maxLocals := 4, code := prog_74_method_9_code, exceptionTable := #[], attributes := #[] }
def k2m6 : Method := { name := "restartAt", desc := "(I)V", sig := { parameters := [.int], returnType := none }, accessFlags := 0, code := some k2c6 }
def k2c7 : Code := { maxStack := 12, maxLocals := 22, code := prog_74_method_11_code, exceptionTable := #[], attributes := #[] }
def k2m7 : Method := { name := "summarise", desc := "(I)V", sig := { parameters := [.int], returnType := none }, accessFlags := 0, code := some k2c7 }
def k2c8 : Code := { maxStack := 4, maxLocals := 2, code := prog_74_method_12_code, exceptionTable := #[], attributes := #[] }
def k2m8 : Method := { name := "keyBeforeNext", desc := "()J", sig := { parameters := [], returnType := some .long }, accessFlags := 0, code := some k2c8 }
def k2c9 : Code := { maxStack := 13, maxLocals := 19, code := prog_74_method_13_code, exceptionTable := #[], attributes := #[] }
def k2m9 : Method := { name := "take", desc := "(IJJJJJ)V", sig := { parameters := [.int, .long, .long, .long, .long, .long], returnType := none }, accessFlags := 0, code := some k2c9 }
def k2c10 : Code := { maxStack := 6, maxLocals := 16, code := prog_74_method_14_code, exceptionTable := #[], attributes := #[] }
def k2m10 : Method := { name := "wrappedSteps", desc := "(IJ)V", sig := { parameters := [.int, .long], returnType := none }, accessFlags := 2, code := some k2c10 }
def k2c11 : Code := { maxStack := 4, maxLocals := 1, code := prog_74_method_16_code, exceptionTable := #[], attributes := #[] }
def k2m11 : Method := { name := "next", desc := "()I", sig := { parameters := [], returnType := some .int }, accessFlags := 2, code := some k2c11 }
def k2c12 : Code := { maxStack := 4, maxLocals := 12, code := prog_74_method_20_code, exceptionTable := #[], attributes := #[] }
def k2m12 : Method := { name := "set", desc := "(IIJJJJI)V", sig := { parameters := [.int, .int, .long, .long, .long, .long, .int], returnType := none }, accessFlags := 2, code := some k2c12 }
def k2c13 : Code := { maxStack := 4, maxLocals := 2, code := prog_74_method_21_code, exceptionTable := #[], attributes := #[] }
def k2m13 : Method := { name := "resize", desc := "(I)V", sig := { parameters := [.int], returnType := none }, accessFlags := 2, code := some k2c13 }
def k2c14 : Code := { maxStack := 2, maxLocals := 2, code := prog_74_method_22_code, exceptionTable := #[], attributes := #[] }
def k2m14 : Method := { name := "bound", desc := "(I)I", sig := { parameters := [.int], returnType := some .int }, accessFlags := 0, code := some k2c14 }
def k2c15 : Code := { maxStack := 2, maxLocals := 2, code := prog_74_method_24_code, exceptionTable := #[], attributes := #[] }
def k2m15 : Method := { name := "lowest", desc := "(I)J", sig := { parameters := [.int], returnType := some .long }, accessFlags := 0, code := some k2c15 }
def k2c16 : Code := { maxStack := 2, maxLocals := 2, code := prog_74_method_25_code, exceptionTable := #[], attributes := #[] }
def k2m16 : Method := { name := "highest", desc := "(I)J", sig := { parameters := [.int], returnType := some .long }, accessFlags := 0, code := some k2c16 }
def k2c17 : Code := { maxStack := 2, maxLocals := 2, code := prog_74_method_26_code, exceptionTable := #[], attributes := #[] }
def k2m17 : Method := { name := "firstStep", desc := "(I)J", sig := { parameters := [.int], returnType := some .long }, accessFlags := 0, code := some k2c17 }
def k2c18 : Code := { maxStack := 2, maxLocals := 2, code := prog_74_method_27_code, exceptionTable := #[], attributes := #[] }
def k2m18 : Method := { name := "magnitudes", desc := "(I)J", sig := { parameters := [.int], returnType := some .long }, accessFlags := 0, code := some k2c18 }
def k2c19 : Code := { maxStack := 2, maxLocals := 2, code := prog_74_method_28_code, exceptionTable := #[], attributes := #[] }
def k2m19 : Method := { name := "steps", desc := "(I)I", sig := { parameters := [.int], returnType := some .int }, accessFlags := 0, code := some k2c19 }
def k2c20 : Code := { maxStack := 4, maxLocals := 3, code := prog_74_method_29_code, exceptionTable := #[], attributes := #[] }
def k2m20 : Method := { name := "key", desc := "(J)J", sig := { parameters := [.long], returnType := some .long }, accessFlags := 0, code := some k2c20 }
/-- com/example/bitrun/bitrun/orc/intv2/Segments -/
def k2 : Class := { plain "com/example/bitrun/bitrun/orc/intv2/Segments" (some 0) with
  accessFlags := 48
  interfaces := #[]
  cf := some (fileOf pool2 2 #[] #[{ accessFlags := 0, nameIndex := 5, descriptorIndex := 151, attributes := #[] }, { accessFlags := 2, nameIndex := 5, descriptorIndex := 6, attributes := #[] }, { accessFlags := 0, nameIndex := 156, descriptorIndex := 157, attributes := #[] }, { accessFlags := 0, nameIndex := 54, descriptorIndex := 55, attributes := #[] }, { accessFlags := 0, nameIndex := 54, descriptorIndex := 51, attributes := #[] }, { accessFlags := 0, nameIndex := 66, descriptorIndex := 94, attributes := #[] }, { accessFlags := 0, nameIndex := 159, descriptorIndex := 51, attributes := #[] }, { accessFlags := 0, nameIndex := 58, descriptorIndex := 51, attributes := #[] }, { accessFlags := 0, nameIndex := 70, descriptorIndex := 71, attributes := #[] }, { accessFlags := 0, nameIndex := 85, descriptorIndex := 86, attributes := #[] }, { accessFlags := 2, nameIndex := 101, descriptorIndex := 102, attributes := #[] }, { accessFlags := 2, nameIndex := 93, descriptorIndex := 94, attributes := #[] }, { accessFlags := 2, nameIndex := 97, descriptorIndex := 98, attributes := #[] }, { accessFlags := 2, nameIndex := 50, descriptorIndex := 51, attributes := #[] }, { accessFlags := 0, nameIndex := 164, descriptorIndex := 165, attributes := #[] }, { accessFlags := 0, nameIndex := 33, descriptorIndex := 168, attributes := #[] }, { accessFlags := 0, nameIndex := 37, descriptorIndex := 168, attributes := #[] }, { accessFlags := 0, nameIndex := 40, descriptorIndex := 168, attributes := #[] }, { accessFlags := 0, nameIndex := 43, descriptorIndex := 168, attributes := #[] }, { accessFlags := 0, nameIndex := 46, descriptorIndex := 165, attributes := #[] }, { accessFlags := 0, nameIndex := 89, descriptorIndex := 90, attributes := #[] }] 48 8 #[] #[{ accessFlags := 24, nameIndex := 142, descriptorIndex := 67, attributes := #[] }, { accessFlags := 24, nameIndex := 145, descriptorIndex := 67, attributes := #[] }, { accessFlags := 24, nameIndex := 147, descriptorIndex := 67, attributes := #[] }, { accessFlags := 24, nameIndex := 149, descriptorIndex := 67, attributes := #[] }, { accessFlags := 18, nameIndex := 14, descriptorIndex := 15, attributes := #[] }, { accessFlags := 18, nameIndex := 22, descriptorIndex := 23, attributes := #[] }, { accessFlags := 18, nameIndex := 26, descriptorIndex := 15, attributes := #[] }, { accessFlags := 2, nameIndex := 61, descriptorIndex := 34, attributes := #[] }, { accessFlags := 2, nameIndex := 66, descriptorIndex := 67, attributes := #[] }, { accessFlags := 2, nameIndex := 29, descriptorIndex := 30, attributes := #[] }, { accessFlags := 2, nameIndex := 33, descriptorIndex := 34, attributes := #[] }, { accessFlags := 2, nameIndex := 37, descriptorIndex := 34, attributes := #[] }, { accessFlags := 2, nameIndex := 40, descriptorIndex := 34, attributes := #[] }, { accessFlags := 2, nameIndex := 43, descriptorIndex := 34, attributes := #[] }, { accessFlags := 2, nameIndex := 46, descriptorIndex := 47, attributes := #[] }])
  fields := #[{ name := "MOST", type := .int, accessFlags := 24, slot := 0, constantValue := 0 }, { name := "RISES", type := .int, accessFlags := 24, slot := 1, constantValue := 0 }, { name := "FALLS", type := .int, accessFlags := 24, slot := 2, constantValue := 0 }, { name := "SAME_STEP", type := .int, accessFlags := 24, slot := 3, constantValue := 0 }, { name := "signed", type := .boolean, accessFlags := 18, slot := 0, constantValue := 0 }, { name := "flip", type := .long, accessFlags := 18, slot := 1, constantValue := 0 }, { name := "bounded", type := .boolean, accessFlags := 18, slot := 2, constantValue := 0 }, { name := "values", type := (.array .long), accessFlags := 2, slot := 3, constantValue := 0 }, { name := "count", type := .int, accessFlags := 2, slot := 4, constantValue := 0 }, { name := "bounds", type := (.array .int), accessFlags := 2, slot := 5, constantValue := 0 }, { name := "lowest", type := (.array .long), accessFlags := 2, slot := 6, constantValue := 0 }, { name := "highest", type := (.array .long), accessFlags := 2, slot := 7, constantValue := 0 }, { name := "firstStep", type := (.array .long), accessFlags := 2, slot := 8, constantValue := 0 }, { name := "magnitudes", type := (.array .long), accessFlags := 2, slot := 9, constantValue := 0 }, { name := "steps", type := (.array .byte), accessFlags := 2, slot := 10, constantValue := 0 }]
  methods := #[k2m0, k2m1, k2m2, k2m3, k2m4, k2m5, k2m6, k2m7, k2m8, k2m9, k2m10, k2m11, k2m12, k2m13, k2m14, k2m15, k2m16, k2m17, k2m18, k2m19, k2m20]
  instanceTypes := #[.boolean, .long, .boolean, (.array .long), .int, (.array .int), (.array .long), (.array .long), (.array .long), (.array .long), (.array .byte)]
  staticTypes := #[.int, .int, .int, .int]
  resolved := Array.replicate 171 none
  statics := none }

def pool3 : Array CpInfo := pool [(2, .class_ 4), (1, u "java/lang/Object"), (0, u "<init>"), (0, u "()V"), (7, .class_ 16), (1, u "java/util/Arrays"), (57, .class_ 76), (1, u "java/util/Arrays$NaturalOrder"), (36, .class_ 115), (1, u "java/util/Arrays$LegacyMergeSort"), (1, u "Z"), (32, .methodref 151 152), (0, .class_ 153), (0, .nameAndType 154 155), (0, u "java/lang/System"), (0, u "arraycopy"), (0, u "(Ljava/lang/Object;ILjava/lang/Object;II)V"), (146, u "copyOf"), (1, .methodref 305 306), (0, .class_ 307), (0, .nameAndType 308 309), (0, u "java/lang/Math"), (0, u "min"), (0, u "(II)I"), (65, .class_ 376), (0, u "java/util/Arrays$ArrayList"), (68, u "$assertionsDisabled"), (269, u "MIN_ARRAY_SORT_GRAN"), (0, u "I"), (2, u "INSERTIONSORT_THRESHOLD"), (149, u "([BI)[B"), (1, u "([II)[I"), (0, u "([JI)[J"), (102, .class_ 976), (0, u "java/util/Arrays$ArrayItr")] 52

def k3m0 : Method := { name := "<init>", desc := "()V", sig := { parameters := [], returnType := none }, accessFlags := 2, code := none }
def k3c1 : Code := { maxStack := 6, maxLocals := 3, code := jdk_65_method_121_code, exceptionTable := #[], attributes := #[] }
def k3m1 : Method := { name := "copyOf", desc := "([BI)[B", sig := { parameters := [(.array .byte), .int], returnType := some (.array .byte) }, accessFlags := 9, code := some k3c1 }
def k3c2 : Code := { maxStack := 6, maxLocals := 3, code := jdk_65_method_123_code, exceptionTable := #[], attributes := #[] }
def k3m2 : Method := { name := "copyOf", desc := "([II)[I", sig := { parameters := [(.array .int), .int], returnType := some (.array .int) }, accessFlags := 9, code := some k3c2 }
def k3c3 : Code := { maxStack := 6, maxLocals := 3, code := jdk_65_method_124_code, exceptionTable := #[], attributes := #[] }
def k3m3 : Method := { name := "copyOf", desc := "([JI)[J", sig := { parameters := [(.array .long), .int], returnType := some (.array .long) }, accessFlags := 9, code := some k3c3 }
/-- java/util/Arrays -/
def k3 : Class := { plain "java/util/Arrays" (some 0) with
  accessFlags := 49
  interfaces := #[]
  cf := some (fileOf pool3 14 #[.nestMembers #[975, 375, 113, 74]] #[{ accessFlags := 2, nameIndex := 5, descriptorIndex := 6, attributes := #[] }, { accessFlags := 9, nameIndex := 302, descriptorIndex := 869, attributes := #[] }, { accessFlags := 9, nameIndex := 302, descriptorIndex := 871, attributes := #[] }, { accessFlags := 9, nameIndex := 302, descriptorIndex := 872, attributes := #[] }] 49 2 #[] #[{ accessFlags := 26, nameIndex := 715, descriptorIndex := 716, attributes := #[] }, { accessFlags := 26, nameIndex := 719, descriptorIndex := 716, attributes := #[] }, { accessFlags := 4120, nameIndex := 445, descriptorIndex := 117, attributes := #[] }])
  fields := #[{ name := "MIN_ARRAY_SORT_GRAN", type := .int, accessFlags := 26, slot := 0, constantValue := 0 }, { name := "INSERTIONSORT_THRESHOLD", type := .int, accessFlags := 26, slot := 1, constantValue := 0 }, { name := "$assertionsDisabled", type := .boolean, accessFlags := 4120, slot := 2, constantValue := 0 }]
  methods := #[k3m0, k3m1, k3m2, k3m3]
  instanceTypes := #[]
  staticTypes := #[.int, .int, .boolean]
  resolved := Array.replicate 1029 none
  statics := none }

def pool4 : Array CpInfo := pool [(1, .class_ 2), (0, u "java/lang/Math"), (1, .class_ 6), (1, u "java/lang/Object"), (0, u "<init>"), (0, u "()V"), (89, .class_ 100), (1, u "java/lang/Math$RandomNumberGeneratorHolder"), (20, u "(JJ)J"), (50, u "negativeZeroFloatBits"), (0, u "J"), (2, u "negativeZeroDoubleBits"), (21, u "max"), (2, u "min"), (43, u "$assertionsDisabled"), (0, u "Z"), (88, u "(II)I"), (2, u "twoToTheDoubleScaleDown"), (0, u "D"), (4, u "twoToTheDoubleScaleUp"), (9, u "E"), (3, u "PI"), (2, u "TAU"), (2, u "DEGREES_TO_RADIANS"), (0, u "RADIANS_TO_DEGREES")] 94

def k4m0 : Method := { name := "<init>", desc := "()V", sig := { parameters := [], returnType := none }, accessFlags := 2, code := none }
def k4c1 : Code := { maxStack := 4, maxLocals := 4, code := jdk_29_method_66_code, exceptionTable := #[], attributes := #[] }
def k4m1 : Method := { name := "max", desc := "(JJ)J", sig := { parameters := [.long, .long], returnType := some .long }, accessFlags := 9, code := some k4c1 }
def k4c2 : Code := { maxStack := 2, maxLocals := 2, code := jdk_29_method_69_code, exceptionTable := #[], attributes := #[] }
def k4m2 : Method := { name := "min", desc := "(II)I", sig := { parameters := [.int, .int], returnType := some .int }, accessFlags := 9, code := some k4c2 }
def k4c3 : Code := { maxStack := 4, maxLocals := 4, code := jdk_29_method_70_code, exceptionTable := #[], attributes := #[] }
def k4m3 : Method := { name := "min", desc := "(JJ)J", sig := { parameters := [.long, .long], returnType := some .long }, accessFlags := 9, code := some k4c3 }
/-- java/lang/Math -/
def k4 : Class := { plain "java/lang/Math" (some 0) with
  accessFlags := 49
  interfaces := #[]
  cf := some (fileOf pool4 1 #[.nestMembers #[98]] #[{ accessFlags := 2, nameIndex := 7, descriptorIndex := 8, attributes := #[] }, { accessFlags := 9, nameIndex := 198, descriptorIndex := 121, attributes := #[] }, { accessFlags := 9, nameIndex := 201, descriptorIndex := 335, attributes := #[] }, { accessFlags := 9, nameIndex := 201, descriptorIndex := 121, attributes := #[] }] 49 4 #[] #[{ accessFlags := 25, nameIndex := 354, descriptorIndex := 339, attributes := #[] }, { accessFlags := 25, nameIndex := 358, descriptorIndex := 339, attributes := #[] }, { accessFlags := 25, nameIndex := 361, descriptorIndex := 339, attributes := #[] }, { accessFlags := 26, nameIndex := 364, descriptorIndex := 339, attributes := #[] }, { accessFlags := 26, nameIndex := 365, descriptorIndex := 339, attributes := #[] }, { accessFlags := 26, nameIndex := 172, descriptorIndex := 173, attributes := #[] }, { accessFlags := 26, nameIndex := 176, descriptorIndex := 173, attributes := #[] }, { accessFlags := 8, nameIndex := 344, descriptorIndex := 339, attributes := #[] }, { accessFlags := 8, nameIndex := 338, descriptorIndex := 339, attributes := #[] }, { accessFlags := 4120, nameIndex := 245, descriptorIndex := 246, attributes := #[] }])
  fields := #[{ name := "E", type := .double, accessFlags := 25, slot := 0, constantValue := 0 }, { name := "PI", type := .double, accessFlags := 25, slot := 1, constantValue := 0 }, { name := "TAU", type := .double, accessFlags := 25, slot := 2, constantValue := 0 }, { name := "DEGREES_TO_RADIANS", type := .double, accessFlags := 26, slot := 3, constantValue := 0 }, { name := "RADIANS_TO_DEGREES", type := .double, accessFlags := 26, slot := 4, constantValue := 0 }, { name := "negativeZeroFloatBits", type := .long, accessFlags := 26, slot := 5, constantValue := 0 }, { name := "negativeZeroDoubleBits", type := .long, accessFlags := 26, slot := 6, constantValue := 0 }, { name := "twoToTheDoubleScaleUp", type := .double, accessFlags := 8, slot := 7, constantValue := 0 }, { name := "twoToTheDoubleScaleDown", type := .double, accessFlags := 8, slot := 8, constantValue := 0 }, { name := "$assertionsDisabled", type := .boolean, accessFlags := 4120, slot := 9, constantValue := 0 }]
  methods := #[k4m0, k4m1, k4m2, k4m3]
  instanceTypes := #[]
  staticTypes := #[.double, .double, .double, .double, .double, .long, .long, .double, .double, .boolean]
  resolved := Array.replicate 460 none
  statics := none }

def pool5 : Array CpInfo := pool [(2, .class_ 4), (1, u "java/lang/Object"), (0, u "<init>"), (0, u "()V"), (1, .class_ 10), (1, u "java/lang/System"), (0, u "allowSecurityManager"), (0, u "I"), (16, u "cons"), (0, u "Ljava/io/Console;"), (77, .class_ 110), (1, u "java/lang/System$CallersHolder"), (43, u "initialErrStream"), (0, u "Ljava/io/PrintStream;"), (19, u "security"), (0, u "Ljava/lang/SecurityManager;"), (31, .class_ 209), (0, u "java/lang/System$1"), (7, u "props"), (0, u "Ljava/util/Properties;"), (2, u "lineSeparator"), (0, u "Ljava/lang/String;"), (96, .class_ 321), (1, u "java/lang/System$LoggerFinder"), (5, .class_ 328), (0, u "java/lang/System$Logger"), (67, u "err"), (2, u "out"), (91, u "notSupportedJnuEncoding"), (15, u "in"), (17, u "initialIn"), (0, u "Ljava/io/InputStream;"), (35, u "bootLayer"), (0, u "Ljava/lang/ModuleLayer;"), (99, .class_ 664), (0, u "java/lang/System$2"), (9, u "NEVER"), (2, u "MAYBE"), (49, u "arraycopy"), (0, u "(Ljava/lang/Object;ILjava/lang/Object;II)V"), (72, .class_ 802), (0, u "java/lang/System$Logger$Level")] 31

def k5m0 : Method := { name := "<init>", desc := "()V", sig := { parameters := [], returnType := none }, accessFlags := 2, code := none }
def k5m1 : Method := { name := "arraycopy", desc := "(Ljava/lang/Object;ILjava/lang/Object;II)V", sig := { parameters := [(.object "java/lang/Object"), .int, (.object "java/lang/Object"), .int, .int], returnType := none }, accessFlags := 265, code := none }
/-- java/lang/System -/
def k5 : Class := { plain "java/lang/System" (some 0) with
  accessFlags := 49
  interfaces := #[]
  cf := some (fileOf pool5 8 #[.nestMembers #[319, 327, 801, 108, 663, 208]] #[{ accessFlags := 2, nameIndex := 5, descriptorIndex := 6, attributes := #[] }, { accessFlags := 265, nameIndex := 727, descriptorIndex := 728, attributes := #[] }] 49 2 #[] #[{ accessFlags := 25, nameIndex := 507, descriptorIndex := 526, attributes := #[] }, { accessFlags := 25, nameIndex := 399, descriptorIndex := 155, attributes := #[] }, { accessFlags := 25, nameIndex := 396, descriptorIndex := 155, attributes := #[] }, { accessFlags := 10, nameIndex := 525, descriptorIndex := 526, attributes := #[] }, { accessFlags := 26, nameIndex := 674, descriptorIndex := 12, attributes := #[] }, { accessFlags := 26, nameIndex := 677, descriptorIndex := 12, attributes := #[] }, { accessFlags := 10, nameIndex := 11, descriptorIndex := 12, attributes := #[] }, { accessFlags := 74, nameIndex := 175, descriptorIndex := 176, attributes := #[] }, { accessFlags := 10, nameIndex := 491, descriptorIndex := 222, attributes := #[] }, { accessFlags := 74, nameIndex := 29, descriptorIndex := 30, attributes := #[] }, { accessFlags := 74, nameIndex := 154, descriptorIndex := 155, attributes := #[] }, { accessFlags := 10, nameIndex := 217, descriptorIndex := 218, attributes := #[] }, { accessFlags := 10, nameIndex := 221, descriptorIndex := 222, attributes := #[] }, { accessFlags := 8, nameIndex := 562, descriptorIndex := 563, attributes := #[] }])
  fields := #[{ name := "in", type := (.object "java/io/InputStream"), accessFlags := 25, slot := 0, constantValue := 0 }, { name := "out", type := (.object "java/io/PrintStream"), accessFlags := 25, slot := 1, constantValue := 0 }, { name := "err", type := (.object "java/io/PrintStream"), accessFlags := 25, slot := 2, constantValue := 0 }, { name := "initialIn", type := (.object "java/io/InputStream"), accessFlags := 10, slot := 3, constantValue := 0 }, { name := "NEVER", type := .int, accessFlags := 26, slot := 4, constantValue := 0 }, { name := "MAYBE", type := .int, accessFlags := 26, slot := 5, constantValue := 0 }, { name := "allowSecurityManager", type := .int, accessFlags := 10, slot := 6, constantValue := 0 }, { name := "security", type := (.object "java/lang/SecurityManager"), accessFlags := 74, slot := 7, constantValue := 0 }, { name := "notSupportedJnuEncoding", type := (.object "java/lang/String"), accessFlags := 10, slot := 8, constantValue := 0 }, { name := "cons", type := (.object "java/io/Console"), accessFlags := 74, slot := 9, constantValue := 0 }, { name := "initialErrStream", type := (.object "java/io/PrintStream"), accessFlags := 74, slot := 10, constantValue := 0 }, { name := "props", type := (.object "java/util/Properties"), accessFlags := 10, slot := 11, constantValue := 0 }, { name := "lineSeparator", type := (.object "java/lang/String"), accessFlags := 10, slot := 12, constantValue := 0 }, { name := "bootLayer", type := (.object "java/lang/ModuleLayer"), accessFlags := 8, slot := 13, constantValue := 0 }]
  methods := #[k5m0, k5m1]
  instanceTypes := #[]
  staticTypes := #[(.object "java/io/InputStream"), (.object "java/io/PrintStream"), (.object "java/io/PrintStream"), (.object "java/io/InputStream"), .int, .int, .int, (.object "java/lang/SecurityManager"), (.object "java/lang/String"), (.object "java/io/Console"), (.object "java/io/PrintStream"), (.object "java/util/Properties"), (.object "java/lang/String"), (.object "java/lang/ModuleLayer")]
  resolved := Array.replicate 834 none
  statics := none }

def pool6 : Array CpInfo := pool [(1, u "java/lang/Cloneable"), (0, .class_ 1), (0, u "java/lang/Object"), (0, .class_ 3)] 3

/-- java/lang/Cloneable -/
def k6 : Class := { plain "java/lang/Cloneable" (some 0) with
  accessFlags := 1537
  interfaces := #[]
  cf := some (fileOf pool6 2 #[] #[] 1537 4 #[] #[])
  fields := #[]
  methods := #[]
  instanceTypes := #[]
  staticTypes := #[]
  resolved := Array.replicate 8 none
  statics := none }

def pool7 : Array CpInfo := pool [(1, u "java/io/Serializable"), (0, .class_ 1), (0, u "java/lang/Object"), (0, .class_ 3)] 3

/-- java/io/Serializable -/
def k7 : Class := { plain "java/io/Serializable" (some 0) with
  accessFlags := 1537
  interfaces := #[]
  cf := some (fileOf pool7 2 #[] #[] 1537 4 #[] #[])
  fields := #[]
  methods := #[]
  instanceTypes := #[]
  staticTypes := #[]
  resolved := Array.replicate 8 none
  statics := none }

/-- the primitive byte -/
def k8 : Class := { plain "byte" none with kind := .primitive 'B', accessFlags := 0x411 }
/-- [B -/
def k9 : Class := { plain "[B" (some 0) with kind := .array 8 .byte, interfaces := #[6, 7], accessFlags := 1041 }

/-- the primitive int -/
def k10 : Class := { plain "int" none with kind := .primitive 'I', accessFlags := 0x411 }
/-- [I -/
def k11 : Class := { plain "[I" (some 0) with kind := .array 10 .int, interfaces := #[6, 7], accessFlags := 1041 }

/-- the primitive long -/
def k12 : Class := { plain "long" none with kind := .primitive 'J', accessFlags := 0x411 }
/-- [J -/
def k13 : Class := { plain "[J" (some 0) with kind := .array 12 .long, interfaces := #[6, 7], accessFlags := 1041 }

def heap : Heap := #[]
def classes : Array Class := #[k0, k1, k2, k3, k4, k5, k6, k7, k8, k9, k10, k11, k12, k13]
def interned : List (Array UInt16 × Addr) := []
def slotsUsed : Nat := 0
def theMethod : MethodId := ⟨1, 1⟩
def args0 : Array Value := #[.long 5, .long 1, .long 2, .long 3, .long 4, .int 5]
def aboutOver (below : List Frame) : State where
  vm := { classes := classes, interned := interned.toArray }
  heap := heap
  slotsUsed := slotsUsed
  threads := #[{ frames := .invoking theMethod args0 :: below }]
def below0 : List Frame := [.native { method := ⟨0, 0⟩, args := #[] }]
def about1 : State := aboutOver below0
def p0 : Program := .bare "" "" ""
def e0 : Env := launch0.env 0 0 0
theorem w_frames : about1.frames = Frame.invoking theMethod args0 :: below0 := rfl
set_option maxRecDepth 65536 in
theorem w_args : argsFit about1.vm theMethod args0 = true := by decide +kernel
set_option maxRecDepth 65536 in
theorem w_heap : heapFits about1 = true := by decide +kernel
set_option maxRecDepth 65536 in
theorem w_runnable : about1.curStatus? = some .runnable := by decide +kernel
set_option maxRecDepth 65536 in
theorem w_alone : about1.alone = true := by decide +kernel
set_option maxRecDepth 65536 in
theorem w_named : about1.methodNamed? x = some theMethod := by decide +kernel
set_option maxRecDepth 65536 in
theorem w_hears : about1.hears theMethod below0 = true := by decide +kernel
set_option maxRecDepth 65536 in
theorem w_ripe : about1.ripe theMethod args0 below0 = true := by decide +kernel
theorem w_running : about1.status = .running := rfl
set_option maxRecDepth 65536 in
theorem w_room : about1.hasRoom e0.platform room_1 = true :=
  launch0.hasRoom_least _ room_1 (by decide +kernel) (by decide +kernel) (by decide +kernel) (by decide +kernel) (by decide +kernel) (by decide +kernel)
theorem allAtoms_all (ts : List Jvm.Cond) (a : Array Jvm.Value) (st : Jvm.State) : (allAtoms ts).before a st = ts.all (fun c => c.before a st) := by
  induction ts with
  | nil => rfl
  | cons c t ih =>
    show (Jvm.Cond.and c (allAtoms t)).before a st = _
    rw [Jvm.Cond.before_and, ih, List.all_cons]
def words1 : List Jvm.Cond := Jvm.Cond.code x code maxLocals ret :: tables_1
/-- a 'code' word, met by the world's own term for the bytes: nothing is compared byte by byte -/
theorem code_word {y : MethodName} {bytes : ByteArray} {mx : Nat} {rt : Option FieldType} {a : Array Value} {s : State} {m : MethodId} {meth : Method} {c : Code} (h1 : s.methodNamed? y = some m) (h2 : s.vm.method? m = some meth) (h3 : meth.code = some c) (h4 : c.code = bytes)
    (h5 : (c.maxLocals == mx && c.exceptionTable.isEmpty && decide (c.maxStack ≤ mostOperands) && decide (meth.sig.returnType = rt) && !meth.locks && decide (parseMethodDescriptor y.desc = some meth.sig)) = true) : (Jvm.Cond.code y bytes mx rt).before a s = true := by
  simp only [Bool.and_eq_true, beq_iff_eq, Bool.not_eq_true', decide_eq_true_eq] at h5
  obtain ⟨⟨⟨⟨⟨g1, g2⟩, g3⟩, g4⟩, g5⟩, g6⟩ := h5
  simp [Cond.before, Cond.holds, Cond.value, h1, h2, h3, h4, g1, g2, g3, g4, g5, g6]
def isCode : Jvm.Cond → Bool
  | .code _ _ _ _ => true
  | _ => false
theorem all_split {L : List Jvm.Cond} {P : Jvm.Cond → Bool} (h1 : L.all (fun c => isCode c || P c) = true) (h2 : ∀ c ∈ L.filter isCode, P c = true) : L.all P = true := by
  refine List.all_eq_true.mpr fun c hc => ?_
  have h := List.all_eq_true.mp h1 c hc
  rcases Bool.eq_false_or_eq_true (isCode c) with hi | hi
  · exact h2 c (List.mem_filter.mpr ⟨hc, hi⟩)
  · simpa [hi] using h
set_option maxRecDepth 65536 in
theorem w_c0 : (Jvm.Cond.code x code maxLocals ret).before args0 about1 = true := code_word (m := ⟨1, 1⟩) (meth := k1m1) (c := k1c1) (by decide +kernel) rfl rfl rfl (by decide +kernel)
set_option maxRecDepth 65536 in
theorem w_c1 : (Jvm.Cond.code ({ cls := "com/example/bitrun/bitrun/orc/intv2/Segments", name := "<init>", desc := "(Z)V" } : Jvm.MethodName) prog_74_method_1_code (2 : Nat) (Option.none : Option Jvm.ClassFile.FieldType)).before args0 about1 = true := code_word (m := ⟨2, 0⟩) (meth := k2m0) (c := k2c0) (by decide +kernel) rfl rfl rfl (by decide +kernel)
set_option maxRecDepth 65536 in
theorem w_c2 : (Jvm.Cond.code ({ cls := "com/example/bitrun/bitrun/orc/intv2/Segments", name := "<init>", desc := "(ZIZ)V" } : Jvm.MethodName) prog_74_method_3_code (4 : Nat) (Option.none : Option Jvm.ClassFile.FieldType)).before args0 about1 = true := code_word (m := ⟨2, 1⟩) (meth := k2m1) (c := k2c1) (by decide +kernel) rfl rfl rfl (by decide +kernel)
set_option maxRecDepth 65536 in
theorem w_c3 : (Jvm.Cond.code ({ cls := "java/lang/Object", name := "<init>", desc := "()V" } : Jvm.MethodName) object_method_1_code (1 : Nat) (Option.none : Option Jvm.ClassFile.FieldType)).before args0 about1 = true := code_word (m := ⟨0, 0⟩) (meth := k0m0) (c := k0c0) (by decide +kernel) rfl rfl rfl (by decide +kernel)
set_option maxRecDepth 65536 in
theorem w_c4 : (Jvm.Cond.code ({ cls := "com/example/bitrun/bitrun/orc/intv2/Segments", name := "cut", desc := "([J[II)V" } : Jvm.MethodName) prog_74_method_4_code (5 : Nat) (Option.none : Option Jvm.ClassFile.FieldType)).before args0 about1 = true := code_word (m := ⟨2, 2⟩) (meth := k2m2) (c := k2c2) (by decide +kernel) rfl rfl rfl (by decide +kernel)
set_option maxRecDepth 65536 in
theorem w_c5 : (Jvm.Cond.code ({ cls := "com/example/bitrun/bitrun/orc/intv2/Segments", name := "resize", desc := "(I)V" } : Jvm.MethodName) prog_74_method_21_code (2 : Nat) (Option.none : Option Jvm.ClassFile.FieldType)).before args0 about1 = true := code_word (m := ⟨2, 13⟩) (meth := k2m13) (c := k2c13) (by decide +kernel) rfl rfl rfl (by decide +kernel)
set_option maxRecDepth 65536 in
theorem w_c6 : (Jvm.Cond.code ({ cls := "java/util/Arrays", name := "copyOf", desc := "([II)[I" } : Jvm.MethodName) jdk_65_method_123_code (3 : Nat) (Option.some (Jvm.ClassFile.FieldType.array Jvm.ClassFile.FieldType.int))).before args0 about1 = true := code_word (m := ⟨3, 2⟩) (meth := k3m2) (c := k3c2) (by decide +kernel) rfl rfl rfl (by decide +kernel)
set_option maxRecDepth 65536 in
theorem w_c7 : (Jvm.Cond.code ({ cls := "java/lang/Math", name := "min", desc := "(II)I" } : Jvm.MethodName) jdk_29_method_69_code (2 : Nat) (Option.some Jvm.ClassFile.FieldType.int)).before args0 about1 = true := code_word (m := ⟨4, 2⟩) (meth := k4m2) (c := k4c2) (by decide +kernel) rfl rfl rfl (by decide +kernel)
set_option maxRecDepth 65536 in
theorem w_c8 : (Jvm.Cond.code ({ cls := "java/util/Arrays", name := "copyOf", desc := "([JI)[J" } : Jvm.MethodName) jdk_65_method_124_code (3 : Nat) (Option.some (Jvm.ClassFile.FieldType.array Jvm.ClassFile.FieldType.long))).before args0 about1 = true := code_word (m := ⟨3, 3⟩) (meth := k3m3) (c := k3c3) (by decide +kernel) rfl rfl rfl (by decide +kernel)
set_option maxRecDepth 65536 in
theorem w_c9 : (Jvm.Cond.code ({ cls := "java/util/Arrays", name := "copyOf", desc := "([BI)[B" } : Jvm.MethodName) jdk_65_method_121_code (3 : Nat) (Option.some (Jvm.ClassFile.FieldType.array Jvm.ClassFile.FieldType.byte))).before args0 about1 = true := code_word (m := ⟨3, 1⟩) (meth := k3m1) (c := k3c1) (by decide +kernel) rfl rfl rfl (by decide +kernel)
set_option maxRecDepth 65536 in
theorem w_c10 : (Jvm.Cond.code ({ cls := "com/example/bitrun/bitrun/orc/intv2/Segments", name := "clear", desc := "([JI)V" } : Jvm.MethodName) prog_74_method_5_code (3 : Nat) (Option.none : Option Jvm.ClassFile.FieldType)).before args0 about1 = true := code_word (m := ⟨2, 3⟩) (meth := k2m3) (c := k2c3) (by decide +kernel) rfl rfl rfl (by decide +kernel)
set_option maxRecDepth 65536 in
theorem w_c11 : (Jvm.Cond.code ({ cls := "com/example/bitrun/bitrun/orc/intv2/Segments", name := "clear", desc := "(I)V" } : Jvm.MethodName) prog_74_method_6_code (2 : Nat) (Option.none : Option Jvm.ClassFile.FieldType)).before args0 about1 = true := code_word (m := ⟨2, 4⟩) (meth := k2m4) (c := k2c4) (by decide +kernel) rfl rfl rfl (by decide +kernel)
set_option maxRecDepth 65536 in
theorem w_c12 : (Jvm.Cond.code ({ cls := "com/example/bitrun/bitrun/orc/intv2/Segments", name := "summarise", desc := "(I)V" } : Jvm.MethodName) prog_74_method_11_code (22 : Nat) (Option.none : Option Jvm.ClassFile.FieldType)).before args0 about1 = true := code_word (m := ⟨2, 7⟩) (meth := k2m7) (c := k2c7) (by decide +kernel) rfl rfl rfl (by decide +kernel)
set_option maxRecDepth 65536 in
theorem w_c13 : (Jvm.Cond.code ({ cls := "com/example/bitrun/bitrun/orc/intv2/Segments", name := "keyBeforeNext", desc := "()J" } : Jvm.MethodName) prog_74_method_12_code (2 : Nat) (Option.some Jvm.ClassFile.FieldType.long)).before args0 about1 = true := code_word (m := ⟨2, 8⟩) (meth := k2m8) (c := k2c8) (by decide +kernel) rfl rfl rfl (by decide +kernel)
set_option maxRecDepth 65536 in
theorem w_c14 : (Jvm.Cond.code ({ cls := "com/example/bitrun/bitrun/orc/intv2/Segments", name := "key", desc := "(J)J" } : Jvm.MethodName) prog_74_method_29_code (3 : Nat) (Option.some Jvm.ClassFile.FieldType.long)).before args0 about1 = true := code_word (m := ⟨2, 20⟩) (meth := k2m20) (c := k2c20) (by decide +kernel) rfl rfl rfl (by decide +kernel)
set_option maxRecDepth 65536 in
theorem w_c15 : (Jvm.Cond.code ({ cls := "java/lang/Math", name := "min", desc := "(JJ)J" } : Jvm.MethodName) jdk_29_method_70_code (4 : Nat) (Option.some Jvm.ClassFile.FieldType.long)).before args0 about1 = true := code_word (m := ⟨4, 3⟩) (meth := k4m3) (c := k4c3) (by decide +kernel) rfl rfl rfl (by decide +kernel)
set_option maxRecDepth 65536 in
theorem w_c16 : (Jvm.Cond.code ({ cls := "java/lang/Math", name := "max", desc := "(JJ)J" } : Jvm.MethodName) jdk_29_method_66_code (4 : Nat) (Option.some Jvm.ClassFile.FieldType.long)).before args0 about1 = true := code_word (m := ⟨4, 1⟩) (meth := k4m1) (c := k4c1) (by decide +kernel) rfl rfl rfl (by decide +kernel)
set_option maxRecDepth 65536 in
theorem w_c17 : (Jvm.Cond.code ({ cls := "com/example/bitrun/bitrun/orc/intv2/Segments", name := "take", desc := "(IJJJJJ)V" } : Jvm.MethodName) prog_74_method_13_code (19 : Nat) (Option.none : Option Jvm.ClassFile.FieldType)).before args0 about1 = true := code_word (m := ⟨2, 9⟩) (meth := k2m9) (c := k2c9) (by decide +kernel) rfl rfl rfl (by decide +kernel)
set_option maxRecDepth 65536 in
theorem w_c18 : (Jvm.Cond.code ({ cls := "com/example/bitrun/bitrun/orc/intv2/Segments", name := "next", desc := "()I" } : Jvm.MethodName) prog_74_method_16_code (1 : Nat) (Option.some Jvm.ClassFile.FieldType.int)).before args0 about1 = true := code_word (m := ⟨2, 11⟩) (meth := k2m11) (c := k2c11) (by decide +kernel) rfl rfl rfl (by decide +kernel)
set_option maxRecDepth 65536 in
theorem w_c19 : (Jvm.Cond.code ({ cls := "com/example/bitrun/bitrun/orc/intv2/Segments", name := "set", desc := "(IIJJJJI)V" } : Jvm.MethodName) prog_74_method_20_code (12 : Nat) (Option.none : Option Jvm.ClassFile.FieldType)).before args0 about1 = true := code_word (m := ⟨2, 12⟩) (meth := k2m12) (c := k2c12) (by decide +kernel) rfl rfl rfl (by decide +kernel)
set_option maxRecDepth 65536 in
theorem w_c20 : (Jvm.Cond.code ({ cls := "com/example/bitrun/bitrun/orc/intv2/Segments", name := "wrappedSteps", desc := "(IJ)V" } : Jvm.MethodName) prog_74_method_14_code (16 : Nat) (Option.none : Option Jvm.ClassFile.FieldType)).before args0 about1 = true := code_word (m := ⟨2, 10⟩) (meth := k2m10) (c := k2c10) (by decide +kernel) rfl rfl rfl (by decide +kernel)
set_option maxRecDepth 65536 in
theorem w_c21 : (Jvm.Cond.code ({ cls := "com/example/bitrun/bitrun/orc/intv2/Segments", name := "lowest", desc := "(I)J" } : Jvm.MethodName) prog_74_method_24_code (2 : Nat) (Option.some Jvm.ClassFile.FieldType.long)).before args0 about1 = true := code_word (m := ⟨2, 15⟩) (meth := k2m15) (c := k2c15) (by decide +kernel) rfl rfl rfl (by decide +kernel)
set_option maxRecDepth 65536 in
theorem w_c22 : (Jvm.Cond.code ({ cls := "com/example/bitrun/bitrun/orc/intv2/Segments", name := "highest", desc := "(I)J" } : Jvm.MethodName) prog_74_method_25_code (2 : Nat) (Option.some Jvm.ClassFile.FieldType.long)).before args0 about1 = true := code_word (m := ⟨2, 16⟩) (meth := k2m16) (c := k2c16) (by decide +kernel) rfl rfl rfl (by decide +kernel)
set_option maxRecDepth 65536 in
theorem w_c23 : (Jvm.Cond.code ({ cls := "com/example/bitrun/bitrun/orc/intv2/Segments", name := "firstStep", desc := "(I)J" } : Jvm.MethodName) prog_74_method_26_code (2 : Nat) (Option.some Jvm.ClassFile.FieldType.long)).before args0 about1 = true := code_word (m := ⟨2, 17⟩) (meth := k2m17) (c := k2c17) (by decide +kernel) rfl rfl rfl (by decide +kernel)
set_option maxRecDepth 65536 in
theorem w_c24 : (Jvm.Cond.code ({ cls := "com/example/bitrun/bitrun/orc/intv2/Segments", name := "magnitudes", desc := "(I)J" } : Jvm.MethodName) prog_74_method_27_code (2 : Nat) (Option.some Jvm.ClassFile.FieldType.long)).before args0 about1 = true := code_word (m := ⟨2, 18⟩) (meth := k2m18) (c := k2c18) (by decide +kernel) rfl rfl rfl (by decide +kernel)
set_option maxRecDepth 65536 in
theorem w_c25 : (Jvm.Cond.code ({ cls := "com/example/bitrun/bitrun/orc/intv2/Segments", name := "steps", desc := "(I)I" } : Jvm.MethodName) prog_74_method_28_code (2 : Nat) (Option.some Jvm.ClassFile.FieldType.int)).before args0 about1 = true := code_word (m := ⟨2, 19⟩) (meth := k2m19) (c := k2c19) (by decide +kernel) rfl rfl rfl (by decide +kernel)
set_option maxRecDepth 65536 in
theorem w_c26 : (Jvm.Cond.code ({ cls := "com/example/bitrun/bitrun/orc/intv2/Segments", name := "restartAt", desc := "(I)V" } : Jvm.MethodName) prog_74_method_9_code (4 : Nat) (Option.none : Option Jvm.ClassFile.FieldType)).before args0 about1 = true := code_word (m := ⟨2, 6⟩) (meth := k2m6) (c := k2c6) (by decide +kernel) rfl rfl rfl (by decide +kernel)
set_option maxRecDepth 65536 in
theorem w_c27 : (Jvm.Cond.code ({ cls := "com/example/bitrun/bitrun/orc/intv2/Segments", name := "count", desc := "()I" } : Jvm.MethodName) prog_74_method_8_code (1 : Nat) (Option.some Jvm.ClassFile.FieldType.int)).before args0 about1 = true := code_word (m := ⟨2, 5⟩) (meth := k2m5) (c := k2c5) (by decide +kernel) rfl rfl rfl (by decide +kernel)
set_option maxRecDepth 65536 in
theorem w_c28 : (Jvm.Cond.code ({ cls := "com/example/bitrun/bitrun/orc/intv2/Segments", name := "bound", desc := "(I)I" } : Jvm.MethodName) prog_74_method_22_code (2 : Nat) (Option.some Jvm.ClassFile.FieldType.int)).before args0 about1 = true := code_word (m := ⟨2, 14⟩) (meth := k2m14) (c := k2c14) (by decide +kernel) rfl rfl rfl (by decide +kernel)
def codes1 : List Jvm.Cond := [Jvm.Cond.code x code maxLocals ret, Jvm.Cond.code ({ cls := "com/example/bitrun/bitrun/orc/intv2/Segments", name := "<init>", desc := "(Z)V" } : Jvm.MethodName) prog_74_method_1_code (2 : Nat) (Option.none : Option Jvm.ClassFile.FieldType), Jvm.Cond.code ({ cls := "com/example/bitrun/bitrun/orc/intv2/Segments", name := "<init>", desc := "(ZIZ)V" } : Jvm.MethodName) prog_74_method_3_code (4 : Nat) (Option.none : Option Jvm.ClassFile.FieldType), Jvm.Cond.code ({ cls := "java/lang/Object", name := "<init>", desc := "()V" } : Jvm.MethodName) object_method_1_code (1 : Nat) (Option.none : Option Jvm.ClassFile.FieldType), Jvm.Cond.code ({ cls := "com/example/bitrun/bitrun/orc/intv2/Segments", name := "cut", desc := "([J[II)V" } : Jvm.MethodName) prog_74_method_4_code (5 : Nat) (Option.none : Option Jvm.ClassFile.FieldType), Jvm.Cond.code ({ cls := "com/example/bitrun/bitrun/orc/intv2/Segments", name := "resize", desc := "(I)V" } : Jvm.MethodName) prog_74_method_21_code (2 : Nat) (Option.none : Option Jvm.ClassFile.FieldType), Jvm.Cond.code ({ cls := "java/util/Arrays", name := "copyOf", desc := "([II)[I" } : Jvm.MethodName) jdk_65_method_123_code (3 : Nat) (Option.some (Jvm.ClassFile.FieldType.array Jvm.ClassFile.FieldType.int)), Jvm.Cond.code ({ cls := "java/lang/Math", name := "min", desc := "(II)I" } : Jvm.MethodName) jdk_29_method_69_code (2 : Nat) (Option.some Jvm.ClassFile.FieldType.int), Jvm.Cond.code ({ cls := "java/util/Arrays", name := "copyOf", desc := "([JI)[J" } : Jvm.MethodName) jdk_65_method_124_code (3 : Nat) (Option.some (Jvm.ClassFile.FieldType.array Jvm.ClassFile.FieldType.long)), Jvm.Cond.code ({ cls := "java/util/Arrays", name := "copyOf", desc := "([BI)[B" } : Jvm.MethodName) jdk_65_method_121_code (3 : Nat) (Option.some (Jvm.ClassFile.FieldType.array Jvm.ClassFile.FieldType.byte)), Jvm.Cond.code ({ cls := "com/example/bitrun/bitrun/orc/intv2/Segments", name := "clear", desc := "([JI)V" } : Jvm.MethodName) prog_74_method_5_code (3 : Nat) (Option.none : Option Jvm.ClassFile.FieldType), Jvm.Cond.code ({ cls := "com/example/bitrun/bitrun/orc/intv2/Segments", name := "clear", desc := "(I)V" } : Jvm.MethodName) prog_74_method_6_code (2 : Nat) (Option.none : Option Jvm.ClassFile.FieldType), Jvm.Cond.code ({ cls := "com/example/bitrun/bitrun/orc/intv2/Segments", name := "summarise", desc := "(I)V" } : Jvm.MethodName) prog_74_method_11_code (22 : Nat) (Option.none : Option Jvm.ClassFile.FieldType), Jvm.Cond.code ({ cls := "com/example/bitrun/bitrun/orc/intv2/Segments", name := "keyBeforeNext", desc := "()J" } : Jvm.MethodName) prog_74_method_12_code (2 : Nat) (Option.some Jvm.ClassFile.FieldType.long), Jvm.Cond.code ({ cls := "com/example/bitrun/bitrun/orc/intv2/Segments", name := "key", desc := "(J)J" } : Jvm.MethodName) prog_74_method_29_code (3 : Nat) (Option.some Jvm.ClassFile.FieldType.long), Jvm.Cond.code ({ cls := "java/lang/Math", name := "min", desc := "(JJ)J" } : Jvm.MethodName) jdk_29_method_70_code (4 : Nat) (Option.some Jvm.ClassFile.FieldType.long), Jvm.Cond.code ({ cls := "java/lang/Math", name := "max", desc := "(JJ)J" } : Jvm.MethodName) jdk_29_method_66_code (4 : Nat) (Option.some Jvm.ClassFile.FieldType.long), Jvm.Cond.code ({ cls := "com/example/bitrun/bitrun/orc/intv2/Segments", name := "take", desc := "(IJJJJJ)V" } : Jvm.MethodName) prog_74_method_13_code (19 : Nat) (Option.none : Option Jvm.ClassFile.FieldType), Jvm.Cond.code ({ cls := "com/example/bitrun/bitrun/orc/intv2/Segments", name := "next", desc := "()I" } : Jvm.MethodName) prog_74_method_16_code (1 : Nat) (Option.some Jvm.ClassFile.FieldType.int), Jvm.Cond.code ({ cls := "com/example/bitrun/bitrun/orc/intv2/Segments", name := "set", desc := "(IIJJJJI)V" } : Jvm.MethodName) prog_74_method_20_code (12 : Nat) (Option.none : Option Jvm.ClassFile.FieldType), Jvm.Cond.code ({ cls := "com/example/bitrun/bitrun/orc/intv2/Segments", name := "wrappedSteps", desc := "(IJ)V" } : Jvm.MethodName) prog_74_method_14_code (16 : Nat) (Option.none : Option Jvm.ClassFile.FieldType), Jvm.Cond.code ({ cls := "com/example/bitrun/bitrun/orc/intv2/Segments", name := "lowest", desc := "(I)J" } : Jvm.MethodName) prog_74_method_24_code (2 : Nat) (Option.some Jvm.ClassFile.FieldType.long), Jvm.Cond.code ({ cls := "com/example/bitrun/bitrun/orc/intv2/Segments", name := "highest", desc := "(I)J" } : Jvm.MethodName) prog_74_method_25_code (2 : Nat) (Option.some Jvm.ClassFile.FieldType.long), Jvm.Cond.code ({ cls := "com/example/bitrun/bitrun/orc/intv2/Segments", name := "firstStep", desc := "(I)J" } : Jvm.MethodName) prog_74_method_26_code (2 : Nat) (Option.some Jvm.ClassFile.FieldType.long), Jvm.Cond.code ({ cls := "com/example/bitrun/bitrun/orc/intv2/Segments", name := "magnitudes", desc := "(I)J" } : Jvm.MethodName) prog_74_method_27_code (2 : Nat) (Option.some Jvm.ClassFile.FieldType.long), Jvm.Cond.code ({ cls := "com/example/bitrun/bitrun/orc/intv2/Segments", name := "steps", desc := "(I)I" } : Jvm.MethodName) prog_74_method_28_code (2 : Nat) (Option.some Jvm.ClassFile.FieldType.int), Jvm.Cond.code ({ cls := "com/example/bitrun/bitrun/orc/intv2/Segments", name := "restartAt", desc := "(I)V" } : Jvm.MethodName) prog_74_method_9_code (4 : Nat) (Option.none : Option Jvm.ClassFile.FieldType), Jvm.Cond.code ({ cls := "com/example/bitrun/bitrun/orc/intv2/Segments", name := "count", desc := "()I" } : Jvm.MethodName) prog_74_method_8_code (1 : Nat) (Option.some Jvm.ClassFile.FieldType.int), Jvm.Cond.code ({ cls := "com/example/bitrun/bitrun/orc/intv2/Segments", name := "bound", desc := "(I)I" } : Jvm.MethodName) prog_74_method_22_code (2 : Nat) (Option.some Jvm.ClassFile.FieldType.int)]
set_option maxRecDepth 65536 in
theorem codes_eq : words1.filter isCode = codes1 := rfl
theorem w_codes : ∀ c ∈ words1.filter isCode, c.before args0 about1 = true := by
  rw [codes_eq]
  intro c hc
  simp only [codes1, List.mem_cons, List.not_mem_nil, or_false] at hc
  rcases hc with rfl | rfl | rfl | rfl | rfl | rfl | rfl | rfl | rfl | rfl | rfl | rfl | rfl | rfl | rfl | rfl | rfl | rfl | rfl | rfl | rfl | rfl | rfl | rfl | rfl | rfl | rfl | rfl | rfl
  · exact w_c0
  · exact w_c1
  · exact w_c2
  · exact w_c3
  · exact w_c4
  · exact w_c5
  · exact w_c6
  · exact w_c7
  · exact w_c8
  · exact w_c9
  · exact w_c10
  · exact w_c11
  · exact w_c12
  · exact w_c13
  · exact w_c14
  · exact w_c15
  · exact w_c16
  · exact w_c17
  · exact w_c18
  · exact w_c19
  · exact w_c20
  · exact w_c21
  · exact w_c22
  · exact w_c23
  · exact w_c24
  · exact w_c25
  · exact w_c26
  · exact w_c27
  · exact w_c28
set_option maxRecDepth 65536 in
theorem w_t1 : (words1.take 24).all (fun c => isCode c || c.before args0 about1) = true := by decide +kernel
set_option maxRecDepth 65536 in
theorem w_t2 : ((words1.drop 24).take 24).all (fun c => isCode c || c.before args0 about1) = true := by decide +kernel
set_option maxRecDepth 65536 in
theorem w_t3 : (((words1.drop 24).drop 24).take 24).all (fun c => isCode c || c.before args0 about1) = true := by decide +kernel
set_option maxRecDepth 65536 in
theorem w_t4 : ((((words1.drop 24).drop 24).drop 24).take 24).all (fun c => isCode c || c.before args0 about1) = true := by decide +kernel
set_option maxRecDepth 65536 in
theorem w_t5 : (((((words1.drop 24).drop 24).drop 24).drop 24).take 24).all (fun c => isCode c || c.before args0 about1) = true := by decide +kernel
set_option maxRecDepth 65536 in
theorem w_t6 : ((((((words1.drop 24).drop 24).drop 24).drop 24).drop 24).take 24).all (fun c => isCode c || c.before args0 about1) = true := by decide +kernel
set_option maxRecDepth 65536 in
theorem w_t7 : ((((((words1.drop 24).drop 24).drop 24).drop 24).drop 24).drop 24).all (fun c => isCode c || c.before args0 about1) = true := by decide +kernel
theorem w_tables : (allAtoms (Jvm.Cond.code x code maxLocals ret :: tables_1)).before args0 about1 = true := by
  rw [allAtoms_all]
  show words1.all (fun c => c.before args0 about1) = true
  refine all_split ?_ w_codes
  rw [← List.take_append_drop 24 words1, List.all_append, w_t1, ← List.take_append_drop 24 (words1.drop 24), List.all_append, w_t2, ← List.take_append_drop 24 ((words1.drop 24).drop 24), List.all_append, w_t3, ← List.take_append_drop 24 (((words1.drop 24).drop 24).drop 24), List.all_append, w_t4, ← List.take_append_drop 24 ((((words1.drop 24).drop 24).drop 24).drop 24), List.all_append, w_t5, ← List.take_append_drop 24 (((((words1.drop 24).drop 24).drop 24).drop 24).drop 24), List.all_append, w_t6, w_t7]
  rfl
set_option maxRecDepth 65536 in
theorem w_case : (Jvm.Cond.and given_1 narrow_1).before args0 about1 = true := by decide +kernel
theorem w_applies : (headSpec (Jvm.Cond.code x code maxLocals ret :: tables_1) room_1).applies x e0.platform about1 = true :=
  (Spec.applies_iff w_frames).mpr ⟨w_running, w_runnable, w_alone, w_named, w_hears, w_ripe, w_room, w_tables⟩
theorem atStart : AtStart classFile x code maxLocals ret World_1 tables_1 room_1 Calls_1 rest_1 Pre_1 launch0 p0 e0 about1 theMethod args0 below0 :=
  ⟨lists_1, trivial, launch0.admits_env _ _ _, launch0.least_env, fairChoices_fair.cas, fairChoices_fair.clock, w_frames, w_args, w_heap, w_applies, trivial, trivial, w_case⟩
end start1
theorem witness_1 : WitnessClaimed_1 := ⟨start1.p0, start1.e0, start1.about1, start1.theMethod, start1.args0, start1.below0, start1.atStart⟩
end Jvm.Pilot.@@N@@
