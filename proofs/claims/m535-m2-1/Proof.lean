import JvmDerived
import JvmDerived.Pilot.@@N@@Statement
import JvmDerived.Pilot.@@N@@Code
set_option linter.unusedVariables false
set_option linter.unusedSimpArgs false
namespace Jvm.RoadKit
open Sem ClassFile Op Lib Jvm.Stand Jvm.Free Jvm.LawKit
section New
variable {p : Program} {l : Launch} {e : Env} {R : Room} {s : State} {m : MethodId} {args : Array Value} {below : List Frame} {meth : Method} {c : Code} {T : State} {locs : List Loc} {cells slots : Nat}
theorem retI (X : Stand p l e R s m args below meth c T locs cells slots) (hx : p.tables.exec = Jvm.exec) {pc : Nat} {Ls : Array Slot} {z : Int32} {rest : List Value} (hret : meth.sig.returnType = some .int) (hd : decode c.code pc = .ok (.ireturn, 1)) {fs : List Frame}
    (hl : ∀ (f : JFrame) (acts : List Action), f.method = m → f.locked = none → f.entered = [] → (doReturn e (T.setTop f) acts (some (.int z))).1 = T.setFrames fs) : Steps p.tables e below (T.setTop (mkF m pc Ls (.int z :: rest))) (T.setFrames fs) := by
  have hm' : T.vm.method? m = some meth := X.method'
  have hn : narrow .int (.int z) = .int z := rfl
  show Steps p.tables e below (T.setTop { method := m, pc := pc, locals := Ls, stack := _ :: rest, locked := none }) _
  jvm_step X.here [X.here.top, hx, hd, hm', hret, hn]
  first | (intro acts; rw [hl _ acts rfl rfl rfl]) | rw [hl _ _ rfl rfl rfl]
  exact Steps.refl _
end New
end Jvm.RoadKit
@@BLOCK:NumsL.lean.txt@@
namespace Jvm.Pilot.@@N@@
open Jvm Jvm.ClassFile Sem Op Lib Jvm.Free Jvm.Stand Jvm.LawKit Jvm.RoadKit Bundle Jvm.Pilot.@@N@@.Jvm.D
/-! own: what each body computes -/
def own_valid (a b c : Int32) : Int32 := if a < 0 then 0 else if 23 < a then 0 else if b < 0 then 0 else if 59 < b then 0 else if c < 0 then 0 else if 59 < c then 0 else 1
def own_secs (a b c : Int32) : Int32 := a * 3600 + b * 60 + c
def own_time (x : Int32) : Int32 := (x / 3600) * 10000 + ((x - (x / 3600) * 3600) / 60) * 100 + (x - (x / 60) * 60)
def own_parts (a b c : Int32) : Int32 := if a < 0 then 0 else if b < 0 then 0 else if c < 0 then 0 else if ¬ b < 60 then 0 else if ¬ c < 60 then 0 else 1
def own_total (a b c : Int32) : Int64 := a.toInt64 * 3600 + b.toInt64 * 60 + c.toInt64
def own_exp (a b c : Int32) : Int32 := if own_parts a b c = 0 then 0 else if ¬ lcmpW (own_total a b c) 86400 < 0 then 0 else 1
theorem d1_0 : decode prog_13_method_2_code 0 = .ok (.iload_n 0, 1) := by decide +kernel
theorem d1_1 : decode prog_13_method_2_code 1 = .ok (.ifCond .lt 33, 3) := by decide +kernel
theorem d1_4 : decode prog_13_method_2_code 4 = .ok (.iload_n 0, 1) := by decide +kernel
theorem d1_5 : decode prog_13_method_2_code 5 = .ok (.bipush 23, 2) := by decide +kernel
theorem d1_7 : decode prog_13_method_2_code 7 = .ok (.if_icmp .gt 27, 3) := by decide +kernel
theorem d1_10 : decode prog_13_method_2_code 10 = .ok (.iload_n 1, 1) := by decide +kernel
theorem d1_11 : decode prog_13_method_2_code 11 = .ok (.ifCond .lt 23, 3) := by decide +kernel
theorem d1_14 : decode prog_13_method_2_code 14 = .ok (.iload_n 1, 1) := by decide +kernel
theorem d1_15 : decode prog_13_method_2_code 15 = .ok (.bipush 59, 2) := by decide +kernel
theorem d1_17 : decode prog_13_method_2_code 17 = .ok (.if_icmp .gt 17, 3) := by decide +kernel
theorem d1_20 : decode prog_13_method_2_code 20 = .ok (.iload_n 2, 1) := by decide +kernel
theorem d1_21 : decode prog_13_method_2_code 21 = .ok (.ifCond .lt 13, 3) := by decide +kernel
theorem d1_24 : decode prog_13_method_2_code 24 = .ok (.iload_n 2, 1) := by decide +kernel
theorem d1_25 : decode prog_13_method_2_code 25 = .ok (.bipush 59, 2) := by decide +kernel
theorem d1_27 : decode prog_13_method_2_code 27 = .ok (.if_icmp .gt 7, 3) := by decide +kernel
theorem d1_30 : decode prog_13_method_2_code 30 = .ok (.iconst 1, 1) := by decide +kernel
theorem d1_31 : decode prog_13_method_2_code 31 = .ok (.goto 4, 3) := by decide +kernel
theorem d1_34 : decode prog_13_method_2_code 34 = .ok (.iconst 0, 1) := by decide +kernel
theorem d1_35 : decode prog_13_method_2_code 35 = .ok (.ireturn, 1) := by decide +kernel
theorem pn_1 : plainName "com/example/daymark/daymark/calendar/TwentyFourHourClock" = true := by first | (simp [plainName, overriddenIn]; done) | decide +kernel
theorem ef_1 (m : MethodId) (x0 : Int32) (x1 : Int32) (x2 : Int32) : entryFrame m #[(.int x0), (.int x1), (.int x2)] 3 = mkF m 0 #[.val (.int x0), .val (.int x1), .val (.int x2)] [] := by first | (simp [entryFrame, mkF, argsToLocals, Value.category]; done) | rfl
def Q1 (Z : State) (p1 : Int32) (p2 : Int32) (p3 : Int32) (h0 : Heap) (n0 : Nat) (v : Option Value) (h : Heap) (L : List Loc) : Prop := v = some (.int (own_valid p1 p2 p3)) ∧ Fr n0 L ∧ h = h0
set_option maxRecDepth 65536 in
set_option maxHeartbeats 40000000 in
theorem own_seg1 {p : Program} {l : Launch} {e : Env} {R : Room} {s : State} {m : MethodId} {args : Array Value} {below : List Frame} {meth : Method} {c : Code} {T0 : State} {locs : List Loc} {cells slots : Nat} {Z : State} {a0 : Array Value} {p1 p2 p3 : Int32}
    (X0 : Stand p l e R s m args below meth c T0 locs cells slots) (hx : p.tables.exec = Jvm.exec) (hZ : Z.Warmed39 s.vm) (hw : ∀ d ∈ tables_1, d.before a0 Z = true) (hby : c.code = prog_13_method_2_code) (hown : s.vm.findClass "com/example/daymark/daymark/calendar/TwentyFourHourClock" = some m.cls) :
    ∀ target, Steps p.tables e below (T0.setTop (mkF m 35 #[.val (.int p1), .val (.int p2), .val (.int p3)] [(.int (own_valid p1 p2 p3))])) target → Steps p.tables e below (T0.setTop (mkF m 0 #[.val (.int p1), .val (.int p2), .val (.int p3)] [])) target := by
  intro target kt
  by_cases h0 : p1 < (0 : Int32)
  · rw [show own_valid p1 p2 p3 = 0 from by rw [own_valid, if_pos h0]] at kt
    show Steps p.tables e below (T0.setTop (mkF m 0 #[.val (.int p1), .val (.int p2), .val (.int p3)] [])) _
    refine XS.iloadN X0.here hx rfl (hb hby d1_0) rfl ?_
    show Steps p.tables e below (T0.setTop (mkF m 1 #[.val (.int p1), .val (.int p2), .val (.int p3)] [(.int p1)])) _
    refine XS.ifYes X0.here hx rfl (pc0 := 1) (pc' := 34) rfl (hb hby d1_1) rfl ((if0 _ _).trans (tlt h0).1) (by decide) (by decide) ?_
    show Steps p.tables e below (T0.setTop (mkF m 34 #[.val (.int p1), .val (.int p2), .val (.int p3)] [])) _
    refine XS.iconst X0.here hx rfl (hb hby d1_34) ?_
    exact kt
  by_cases h1 : (23 : Int32) < p1
  · rw [show own_valid p1 p2 p3 = 0 from by rw [own_valid, if_neg h0, if_pos h1]] at kt
    show Steps p.tables e below (T0.setTop (mkF m 0 #[.val (.int p1), .val (.int p2), .val (.int p3)] [])) _
    refine XS.iloadN X0.here hx rfl (hb hby d1_0) rfl ?_
    show Steps p.tables e below (T0.setTop (mkF m 1 #[.val (.int p1), .val (.int p2), .val (.int p3)] [(.int p1)])) _
    refine XS.ifNo X0.here hx rfl (hb hby d1_1) rfl ((if0 _ _).trans (flt h0).1) ?_
    show Steps p.tables e below (T0.setTop (mkF m 4 #[.val (.int p1), .val (.int p2), .val (.int p3)] [])) _
    refine XS.iloadN X0.here hx rfl (hb hby d1_4) rfl ?_
    show Steps p.tables e below (T0.setTop (mkF m 5 #[.val (.int p1), .val (.int p2), .val (.int p3)] [(.int p1)])) _
    refine XS.bipush X0.here hx rfl (hb hby d1_5) ?_
    show Steps p.tables e below (T0.setTop (mkF m 7 #[.val (.int p1), .val (.int p2), .val (.int p3)] [(.int (23 : Int32)), (.int p1)])) _
    refine XS.icmpYes X0.here hx rfl (pc0 := 7) (pc' := 34) rfl (hb hby d1_7) rfl (tlt h1).2.2.1 (by decide) (by decide) ?_
    show Steps p.tables e below (T0.setTop (mkF m 34 #[.val (.int p1), .val (.int p2), .val (.int p3)] [])) _
    refine XS.iconst X0.here hx rfl (hb hby d1_34) ?_
    exact kt
  by_cases h2 : p2 < (0 : Int32)
  · rw [show own_valid p1 p2 p3 = 0 from by rw [own_valid, if_neg h0, if_neg h1, if_pos h2]] at kt
    show Steps p.tables e below (T0.setTop (mkF m 0 #[.val (.int p1), .val (.int p2), .val (.int p3)] [])) _
    refine XS.iloadN X0.here hx rfl (hb hby d1_0) rfl ?_
    show Steps p.tables e below (T0.setTop (mkF m 1 #[.val (.int p1), .val (.int p2), .val (.int p3)] [(.int p1)])) _
    refine XS.ifNo X0.here hx rfl (hb hby d1_1) rfl ((if0 _ _).trans (flt h0).1) ?_
    show Steps p.tables e below (T0.setTop (mkF m 4 #[.val (.int p1), .val (.int p2), .val (.int p3)] [])) _
    refine XS.iloadN X0.here hx rfl (hb hby d1_4) rfl ?_
    show Steps p.tables e below (T0.setTop (mkF m 5 #[.val (.int p1), .val (.int p2), .val (.int p3)] [(.int p1)])) _
    refine XS.bipush X0.here hx rfl (hb hby d1_5) ?_
    show Steps p.tables e below (T0.setTop (mkF m 7 #[.val (.int p1), .val (.int p2), .val (.int p3)] [(.int (23 : Int32)), (.int p1)])) _
    refine XS.icmpNo X0.here hx rfl (hb hby d1_7) rfl (flt h1).2.2.1 ?_
    show Steps p.tables e below (T0.setTop (mkF m 10 #[.val (.int p1), .val (.int p2), .val (.int p3)] [])) _
    refine XS.iloadN X0.here hx rfl (hb hby d1_10) rfl ?_
    show Steps p.tables e below (T0.setTop (mkF m 11 #[.val (.int p1), .val (.int p2), .val (.int p3)] [(.int p2)])) _
    refine XS.ifYes X0.here hx rfl (pc0 := 11) (pc' := 34) rfl (hb hby d1_11) rfl ((if0 _ _).trans (tlt h2).1) (by decide) (by decide) ?_
    show Steps p.tables e below (T0.setTop (mkF m 34 #[.val (.int p1), .val (.int p2), .val (.int p3)] [])) _
    refine XS.iconst X0.here hx rfl (hb hby d1_34) ?_
    exact kt
  by_cases h3 : (59 : Int32) < p2
  · rw [show own_valid p1 p2 p3 = 0 from by rw [own_valid, if_neg h0, if_neg h1, if_neg h2, if_pos h3]] at kt
    show Steps p.tables e below (T0.setTop (mkF m 0 #[.val (.int p1), .val (.int p2), .val (.int p3)] [])) _
    refine XS.iloadN X0.here hx rfl (hb hby d1_0) rfl ?_
    show Steps p.tables e below (T0.setTop (mkF m 1 #[.val (.int p1), .val (.int p2), .val (.int p3)] [(.int p1)])) _
    refine XS.ifNo X0.here hx rfl (hb hby d1_1) rfl ((if0 _ _).trans (flt h0).1) ?_
    show Steps p.tables e below (T0.setTop (mkF m 4 #[.val (.int p1), .val (.int p2), .val (.int p3)] [])) _
    refine XS.iloadN X0.here hx rfl (hb hby d1_4) rfl ?_
    show Steps p.tables e below (T0.setTop (mkF m 5 #[.val (.int p1), .val (.int p2), .val (.int p3)] [(.int p1)])) _
    refine XS.bipush X0.here hx rfl (hb hby d1_5) ?_
    show Steps p.tables e below (T0.setTop (mkF m 7 #[.val (.int p1), .val (.int p2), .val (.int p3)] [(.int (23 : Int32)), (.int p1)])) _
    refine XS.icmpNo X0.here hx rfl (hb hby d1_7) rfl (flt h1).2.2.1 ?_
    show Steps p.tables e below (T0.setTop (mkF m 10 #[.val (.int p1), .val (.int p2), .val (.int p3)] [])) _
    refine XS.iloadN X0.here hx rfl (hb hby d1_10) rfl ?_
    show Steps p.tables e below (T0.setTop (mkF m 11 #[.val (.int p1), .val (.int p2), .val (.int p3)] [(.int p2)])) _
    refine XS.ifNo X0.here hx rfl (hb hby d1_11) rfl ((if0 _ _).trans (flt h2).1) ?_
    show Steps p.tables e below (T0.setTop (mkF m 14 #[.val (.int p1), .val (.int p2), .val (.int p3)] [])) _
    refine XS.iloadN X0.here hx rfl (hb hby d1_14) rfl ?_
    show Steps p.tables e below (T0.setTop (mkF m 15 #[.val (.int p1), .val (.int p2), .val (.int p3)] [(.int p2)])) _
    refine XS.bipush X0.here hx rfl (hb hby d1_15) ?_
    show Steps p.tables e below (T0.setTop (mkF m 17 #[.val (.int p1), .val (.int p2), .val (.int p3)] [(.int (59 : Int32)), (.int p2)])) _
    refine XS.icmpYes X0.here hx rfl (pc0 := 17) (pc' := 34) rfl (hb hby d1_17) rfl (tlt h3).2.2.1 (by decide) (by decide) ?_
    show Steps p.tables e below (T0.setTop (mkF m 34 #[.val (.int p1), .val (.int p2), .val (.int p3)] [])) _
    refine XS.iconst X0.here hx rfl (hb hby d1_34) ?_
    exact kt
  by_cases h4 : p3 < (0 : Int32)
  · rw [show own_valid p1 p2 p3 = 0 from by rw [own_valid, if_neg h0, if_neg h1, if_neg h2, if_neg h3, if_pos h4]] at kt
    show Steps p.tables e below (T0.setTop (mkF m 0 #[.val (.int p1), .val (.int p2), .val (.int p3)] [])) _
    refine XS.iloadN X0.here hx rfl (hb hby d1_0) rfl ?_
    show Steps p.tables e below (T0.setTop (mkF m 1 #[.val (.int p1), .val (.int p2), .val (.int p3)] [(.int p1)])) _
    refine XS.ifNo X0.here hx rfl (hb hby d1_1) rfl ((if0 _ _).trans (flt h0).1) ?_
    show Steps p.tables e below (T0.setTop (mkF m 4 #[.val (.int p1), .val (.int p2), .val (.int p3)] [])) _
    refine XS.iloadN X0.here hx rfl (hb hby d1_4) rfl ?_
    show Steps p.tables e below (T0.setTop (mkF m 5 #[.val (.int p1), .val (.int p2), .val (.int p3)] [(.int p1)])) _
    refine XS.bipush X0.here hx rfl (hb hby d1_5) ?_
    show Steps p.tables e below (T0.setTop (mkF m 7 #[.val (.int p1), .val (.int p2), .val (.int p3)] [(.int (23 : Int32)), (.int p1)])) _
    refine XS.icmpNo X0.here hx rfl (hb hby d1_7) rfl (flt h1).2.2.1 ?_
    show Steps p.tables e below (T0.setTop (mkF m 10 #[.val (.int p1), .val (.int p2), .val (.int p3)] [])) _
    refine XS.iloadN X0.here hx rfl (hb hby d1_10) rfl ?_
    show Steps p.tables e below (T0.setTop (mkF m 11 #[.val (.int p1), .val (.int p2), .val (.int p3)] [(.int p2)])) _
    refine XS.ifNo X0.here hx rfl (hb hby d1_11) rfl ((if0 _ _).trans (flt h2).1) ?_
    show Steps p.tables e below (T0.setTop (mkF m 14 #[.val (.int p1), .val (.int p2), .val (.int p3)] [])) _
    refine XS.iloadN X0.here hx rfl (hb hby d1_14) rfl ?_
    show Steps p.tables e below (T0.setTop (mkF m 15 #[.val (.int p1), .val (.int p2), .val (.int p3)] [(.int p2)])) _
    refine XS.bipush X0.here hx rfl (hb hby d1_15) ?_
    show Steps p.tables e below (T0.setTop (mkF m 17 #[.val (.int p1), .val (.int p2), .val (.int p3)] [(.int (59 : Int32)), (.int p2)])) _
    refine XS.icmpNo X0.here hx rfl (hb hby d1_17) rfl (flt h3).2.2.1 ?_
    show Steps p.tables e below (T0.setTop (mkF m 20 #[.val (.int p1), .val (.int p2), .val (.int p3)] [])) _
    refine XS.iloadN X0.here hx rfl (hb hby d1_20) rfl ?_
    show Steps p.tables e below (T0.setTop (mkF m 21 #[.val (.int p1), .val (.int p2), .val (.int p3)] [(.int p3)])) _
    refine XS.ifYes X0.here hx rfl (pc0 := 21) (pc' := 34) rfl (hb hby d1_21) rfl ((if0 _ _).trans (tlt h4).1) (by decide) (by decide) ?_
    show Steps p.tables e below (T0.setTop (mkF m 34 #[.val (.int p1), .val (.int p2), .val (.int p3)] [])) _
    refine XS.iconst X0.here hx rfl (hb hby d1_34) ?_
    exact kt
  by_cases h5 : (59 : Int32) < p3
  · rw [show own_valid p1 p2 p3 = 0 from by rw [own_valid, if_neg h0, if_neg h1, if_neg h2, if_neg h3, if_neg h4, if_pos h5]] at kt
    show Steps p.tables e below (T0.setTop (mkF m 0 #[.val (.int p1), .val (.int p2), .val (.int p3)] [])) _
    refine XS.iloadN X0.here hx rfl (hb hby d1_0) rfl ?_
    show Steps p.tables e below (T0.setTop (mkF m 1 #[.val (.int p1), .val (.int p2), .val (.int p3)] [(.int p1)])) _
    refine XS.ifNo X0.here hx rfl (hb hby d1_1) rfl ((if0 _ _).trans (flt h0).1) ?_
    show Steps p.tables e below (T0.setTop (mkF m 4 #[.val (.int p1), .val (.int p2), .val (.int p3)] [])) _
    refine XS.iloadN X0.here hx rfl (hb hby d1_4) rfl ?_
    show Steps p.tables e below (T0.setTop (mkF m 5 #[.val (.int p1), .val (.int p2), .val (.int p3)] [(.int p1)])) _
    refine XS.bipush X0.here hx rfl (hb hby d1_5) ?_
    show Steps p.tables e below (T0.setTop (mkF m 7 #[.val (.int p1), .val (.int p2), .val (.int p3)] [(.int (23 : Int32)), (.int p1)])) _
    refine XS.icmpNo X0.here hx rfl (hb hby d1_7) rfl (flt h1).2.2.1 ?_
    show Steps p.tables e below (T0.setTop (mkF m 10 #[.val (.int p1), .val (.int p2), .val (.int p3)] [])) _
    refine XS.iloadN X0.here hx rfl (hb hby d1_10) rfl ?_
    show Steps p.tables e below (T0.setTop (mkF m 11 #[.val (.int p1), .val (.int p2), .val (.int p3)] [(.int p2)])) _
    refine XS.ifNo X0.here hx rfl (hb hby d1_11) rfl ((if0 _ _).trans (flt h2).1) ?_
    show Steps p.tables e below (T0.setTop (mkF m 14 #[.val (.int p1), .val (.int p2), .val (.int p3)] [])) _
    refine XS.iloadN X0.here hx rfl (hb hby d1_14) rfl ?_
    show Steps p.tables e below (T0.setTop (mkF m 15 #[.val (.int p1), .val (.int p2), .val (.int p3)] [(.int p2)])) _
    refine XS.bipush X0.here hx rfl (hb hby d1_15) ?_
    show Steps p.tables e below (T0.setTop (mkF m 17 #[.val (.int p1), .val (.int p2), .val (.int p3)] [(.int (59 : Int32)), (.int p2)])) _
    refine XS.icmpNo X0.here hx rfl (hb hby d1_17) rfl (flt h3).2.2.1 ?_
    show Steps p.tables e below (T0.setTop (mkF m 20 #[.val (.int p1), .val (.int p2), .val (.int p3)] [])) _
    refine XS.iloadN X0.here hx rfl (hb hby d1_20) rfl ?_
    show Steps p.tables e below (T0.setTop (mkF m 21 #[.val (.int p1), .val (.int p2), .val (.int p3)] [(.int p3)])) _
    refine XS.ifNo X0.here hx rfl (hb hby d1_21) rfl ((if0 _ _).trans (flt h4).1) ?_
    show Steps p.tables e below (T0.setTop (mkF m 24 #[.val (.int p1), .val (.int p2), .val (.int p3)] [])) _
    refine XS.iloadN X0.here hx rfl (hb hby d1_24) rfl ?_
    show Steps p.tables e below (T0.setTop (mkF m 25 #[.val (.int p1), .val (.int p2), .val (.int p3)] [(.int p3)])) _
    refine XS.bipush X0.here hx rfl (hb hby d1_25) ?_
    show Steps p.tables e below (T0.setTop (mkF m 27 #[.val (.int p1), .val (.int p2), .val (.int p3)] [(.int (59 : Int32)), (.int p3)])) _
    refine XS.icmpYes X0.here hx rfl (pc0 := 27) (pc' := 34) rfl (hb hby d1_27) rfl (tlt h5).2.2.1 (by decide) (by decide) ?_
    show Steps p.tables e below (T0.setTop (mkF m 34 #[.val (.int p1), .val (.int p2), .val (.int p3)] [])) _
    refine XS.iconst X0.here hx rfl (hb hby d1_34) ?_
    exact kt
  rw [show own_valid p1 p2 p3 = 1 from by rw [own_valid, if_neg h0, if_neg h1, if_neg h2, if_neg h3, if_neg h4, if_neg h5]] at kt
  show Steps p.tables e below (T0.setTop (mkF m 0 #[.val (.int p1), .val (.int p2), .val (.int p3)] [])) _
  refine XS.iloadN X0.here hx rfl (hb hby d1_0) rfl ?_
  show Steps p.tables e below (T0.setTop (mkF m 1 #[.val (.int p1), .val (.int p2), .val (.int p3)] [(.int p1)])) _
  refine XS.ifNo X0.here hx rfl (hb hby d1_1) rfl ((if0 _ _).trans (flt h0).1) ?_
  show Steps p.tables e below (T0.setTop (mkF m 4 #[.val (.int p1), .val (.int p2), .val (.int p3)] [])) _
  refine XS.iloadN X0.here hx rfl (hb hby d1_4) rfl ?_
  show Steps p.tables e below (T0.setTop (mkF m 5 #[.val (.int p1), .val (.int p2), .val (.int p3)] [(.int p1)])) _
  refine XS.bipush X0.here hx rfl (hb hby d1_5) ?_
  show Steps p.tables e below (T0.setTop (mkF m 7 #[.val (.int p1), .val (.int p2), .val (.int p3)] [(.int (23 : Int32)), (.int p1)])) _
  refine XS.icmpNo X0.here hx rfl (hb hby d1_7) rfl (flt h1).2.2.1 ?_
  show Steps p.tables e below (T0.setTop (mkF m 10 #[.val (.int p1), .val (.int p2), .val (.int p3)] [])) _
  refine XS.iloadN X0.here hx rfl (hb hby d1_10) rfl ?_
  show Steps p.tables e below (T0.setTop (mkF m 11 #[.val (.int p1), .val (.int p2), .val (.int p3)] [(.int p2)])) _
  refine XS.ifNo X0.here hx rfl (hb hby d1_11) rfl ((if0 _ _).trans (flt h2).1) ?_
  show Steps p.tables e below (T0.setTop (mkF m 14 #[.val (.int p1), .val (.int p2), .val (.int p3)] [])) _
  refine XS.iloadN X0.here hx rfl (hb hby d1_14) rfl ?_
  show Steps p.tables e below (T0.setTop (mkF m 15 #[.val (.int p1), .val (.int p2), .val (.int p3)] [(.int p2)])) _
  refine XS.bipush X0.here hx rfl (hb hby d1_15) ?_
  show Steps p.tables e below (T0.setTop (mkF m 17 #[.val (.int p1), .val (.int p2), .val (.int p3)] [(.int (59 : Int32)), (.int p2)])) _
  refine XS.icmpNo X0.here hx rfl (hb hby d1_17) rfl (flt h3).2.2.1 ?_
  show Steps p.tables e below (T0.setTop (mkF m 20 #[.val (.int p1), .val (.int p2), .val (.int p3)] [])) _
  refine XS.iloadN X0.here hx rfl (hb hby d1_20) rfl ?_
  show Steps p.tables e below (T0.setTop (mkF m 21 #[.val (.int p1), .val (.int p2), .val (.int p3)] [(.int p3)])) _
  refine XS.ifNo X0.here hx rfl (hb hby d1_21) rfl ((if0 _ _).trans (flt h4).1) ?_
  show Steps p.tables e below (T0.setTop (mkF m 24 #[.val (.int p1), .val (.int p2), .val (.int p3)] [])) _
  refine XS.iloadN X0.here hx rfl (hb hby d1_24) rfl ?_
  show Steps p.tables e below (T0.setTop (mkF m 25 #[.val (.int p1), .val (.int p2), .val (.int p3)] [(.int p3)])) _
  refine XS.bipush X0.here hx rfl (hb hby d1_25) ?_
  show Steps p.tables e below (T0.setTop (mkF m 27 #[.val (.int p1), .val (.int p2), .val (.int p3)] [(.int (59 : Int32)), (.int p3)])) _
  refine XS.icmpNo X0.here hx rfl (hb hby d1_27) rfl (flt h5).2.2.1 ?_
  show Steps p.tables e below (T0.setTop (mkF m 30 #[.val (.int p1), .val (.int p2), .val (.int p3)] [])) _
  refine XS.iconst X0.here hx rfl (hb hby d1_30) ?_
  show Steps p.tables e below (T0.setTop (mkF m 31 #[.val (.int p1), .val (.int p2), .val (.int p3)] [(.int (1 : Int32))])) _
  refine XS.goto X0.here hx rfl (pc0 := 31) (pc' := 35) rfl (hb hby d1_31) (by decide) (by decide) ?_
  exact kt
theorem own_nar (a b c : Int32) : nar .boolean (own_valid a b c) = own_valid a b c := by
  have h : own_valid a b c = 0 ∨ own_valid a b c = 1 := by
    unfold own_valid
    repeat' split
    all_goals first | exact Or.inl rfl | exact Or.inr rfl
  rcases h with h | h <;> rw [h] <;> rfl
set_option maxRecDepth 65536 in
set_option maxHeartbeats 40000000 in
theorem rm1 (l : Launch) (Z : State) (a0 : Array Value) (hw : ∀ d ∈ tables_1, d.before a0 Z = true) (ws : List Jvm.Cond) (p1 : Int32) (p2 : Int32) (p3 : Int32) (h0 : Heap) (n0 : Nat) (Z0 : n0 ≤ h0.size)  :
    MetFree l (⟨"com/example/daymark/daymark/calendar/TwentyFourHourClock", "isValidTime", "(III)Z"⟩ : MethodName) (head1 (Jvm.Cond.code (⟨"com/example/daymark/daymark/calendar/TwentyFourHourClock", "isValidTime", "(III)Z"⟩ : MethodName) prog_13_method_2_code 3 (some .boolean) :: ws) ({ frames := 0, cells := 0, slots := 0, locals := 0 } : Room)) (fun a U => a = #[(.int p1), (.int p2), (.int p3)] ∧ Z.Warmed39 U.vm ∧ U.heap = h0) (fun _ _ _ _ _ => True) (fun _ U o U' => ∃ v L, o = .returned v ∧ Q1 Z p1 p2 p3 h0 n0 v U'.heap L ∧ FrameEnd U o U' L ({ frames := 0, cells := 0, slots := 0, locals := 0 } : Room).cells ({ frames := 0, cells := 0, slots := 0, locals := 0 } : Room).slots) := by
  refine MetFree.of_bodySF (plainFor_of_name pn_1) hisR ?_
  intro p e s m args below meth c s₁ Bd hml0 hP hK
  obtain ⟨rfl, hZ, hh⟩ := hP
  have hx := Bd.exec
  have hby := Bd.bytes
  have hml : c.maxLocals = 3 := hml0
  have hown : s.vm.findClass "com/example/daymark/daymark/calendar/TwentyFourHourClock" = some m.cls := findClass_of_methodNamed Bd.named
  have hnm := (name_of_methodNamed Bd.named Bd.method).1
  have X0 : Stand p l e ({ frames := 0, cells := 0, slots := 0, locals := 0 } : Room) s m #[(.int p1), (.int p2), (.int p3)] below meth c s₁ [] 0 0 := Stand.of_body Bd
  have e0 : s₁.heap = h0 := by rw [← hh, Bd.state]; rfl
  have N0 := Fr.nil n0
  have pre0 : ∀ t, Steps p.tables e below (s₁.setTop (mkF m 0 #[.val (.int p1), .val (.int p2), .val (.int p3)] [])) t → Steps p.tables e below (s₁.setTop (entryFrame m #[(.int p1), (.int p2), (.int p3)] 3)) t := fun t k => castTop (ef_1 m p1 p2 p3) k
  obtain ⟨fs, hr, hrun, hended, hW, hsame⟩ := X0.leave (v := some (.int (nar .boolean (own_valid p1 p2 p3)))) (fun h => by rw [Bd.returns] at h; cases h)
  refine ⟨_, _, pre0 _ ?_, hrun, hended, _, _, rfl, ?_, ⟨_, rfl⟩, hW, hsame.mono (by decide) (by decide)⟩
  · show Steps p.tables e below (s₁.setTop (mkF m 0 #[.val (.int p1), .val (.int p2), .val (.int p3)] [])) _
    refine own_seg1 X0 hx hZ hw hby hown _ ?_
    show Steps p.tables e below (s₁.setTop (mkF m 35 #[.val (.int p1), .val (.int p2), .val (.int p3)] [(.int (own_valid p1 p2 p3))])) _
    exact retN X0 hx (t := .boolean) Bd.returns (by simp) (hb hby d1_35) hr
  · show Q1 Z p1 p2 p3 h0 n0 _ s₁.heap _
    exact ⟨by rw [own_nar], N0, e0⟩
theorem d2_0 : decode prog_13_method_4_code 0 = .ok (.iload_n 0, 1) := by decide +kernel
theorem d2_1 : decode prog_13_method_4_code 1 = .ok (.ifCond .lt 11, 3) := by decide +kernel
theorem d2_4 : decode prog_13_method_4_code 4 = .ok (.iload_n 1, 1) := by decide +kernel
theorem d2_5 : decode prog_13_method_4_code 5 = .ok (.ifCond .lt 7, 3) := by decide +kernel
theorem d2_8 : decode prog_13_method_4_code 8 = .ok (.iload_n 2, 1) := by decide +kernel
theorem d2_9 : decode prog_13_method_4_code 9 = .ok (.ifCond .ge 5, 3) := by decide +kernel
theorem d2_12 : decode prog_13_method_4_code 12 = .ok (.iconst (-1), 1) := by decide +kernel
theorem d2_13 : decode prog_13_method_4_code 13 = .ok (.ireturn, 1) := by decide +kernel
theorem d2_14 : decode prog_13_method_4_code 14 = .ok (.iload_n 0, 1) := by decide +kernel
theorem d2_15 : decode prog_13_method_4_code 15 = .ok (.sipush 3600, 3) := by decide +kernel
theorem d2_18 : decode prog_13_method_4_code 18 = .ok (.imul, 1) := by decide +kernel
theorem d2_19 : decode prog_13_method_4_code 19 = .ok (.iload_n 1, 1) := by decide +kernel
theorem d2_20 : decode prog_13_method_4_code 20 = .ok (.bipush 60, 2) := by decide +kernel
theorem d2_22 : decode prog_13_method_4_code 22 = .ok (.imul, 1) := by decide +kernel
theorem d2_23 : decode prog_13_method_4_code 23 = .ok (.iadd, 1) := by decide +kernel
theorem d2_24 : decode prog_13_method_4_code 24 = .ok (.iload_n 2, 1) := by decide +kernel
theorem d2_25 : decode prog_13_method_4_code 25 = .ok (.iadd, 1) := by decide +kernel
theorem d2_26 : decode prog_13_method_4_code 26 = .ok (.ireturn, 1) := by decide +kernel
theorem pn_2 : plainName "com/example/daymark/daymark/calendar/TwentyFourHourClock" = true := by first | (simp [plainName, overriddenIn]; done) | decide +kernel
theorem ef_2 (m : MethodId) (x0 : Int32) (x1 : Int32) (x2 : Int32) : entryFrame m #[(.int x0), (.int x1), (.int x2)] 3 = mkF m 0 #[.val (.int x0), .val (.int x1), .val (.int x2)] [] := by first | (simp [entryFrame, mkF, argsToLocals, Value.category]; done) | rfl
def Q2 (Z : State) (p1 : Int32) (p2 : Int32) (p3 : Int32) (h0 : Heap) (n0 : Nat) (v : Option Value) (h : Heap) (L : List Loc) : Prop := v = some (.int (own_secs p1 p2 p3)) ∧ Fr n0 L ∧ h = h0
set_option maxRecDepth 65536 in
set_option maxHeartbeats 40000000 in
theorem rm2 (l : Launch) (Z : State) (a0 : Array Value) (hw : ∀ d ∈ tables_1, d.before a0 Z = true) (ws : List Jvm.Cond) (p1 : Int32) (p2 : Int32) (p3 : Int32) (h0 : Heap) (n0 : Nat) (Z0 : n0 ≤ h0.size) (k1 : ¬ p1 < (0 : Int32)) (k2 : ¬ p2 < (0 : Int32)) (k3 : ¬ p3 < (0 : Int32)) :
    MetFree l (⟨"com/example/daymark/daymark/calendar/TwentyFourHourClock", "secondsSinceMidnight", "(III)I"⟩ : MethodName) (head1 (Jvm.Cond.code (⟨"com/example/daymark/daymark/calendar/TwentyFourHourClock", "secondsSinceMidnight", "(III)I"⟩ : MethodName) prog_13_method_4_code 3 (some .int) :: ws) ({ frames := 0, cells := 0, slots := 0, locals := 0 } : Room)) (fun a U => a = #[(.int p1), (.int p2), (.int p3)] ∧ Z.Warmed39 U.vm ∧ U.heap = h0) (fun _ _ _ _ _ => True) (fun _ U o U' => ∃ v L, o = .returned v ∧ Q2 Z p1 p2 p3 h0 n0 v U'.heap L ∧ FrameEnd U o U' L ({ frames := 0, cells := 0, slots := 0, locals := 0 } : Room).cells ({ frames := 0, cells := 0, slots := 0, locals := 0 } : Room).slots) := by
  refine MetFree.of_bodySF (plainFor_of_name pn_2) hisR ?_
  intro p e s m args below meth c s₁ Bd hml0 hP hK
  obtain ⟨rfl, hZ, hh⟩ := hP
  have hx := Bd.exec
  have hby := Bd.bytes
  have hml : c.maxLocals = 3 := hml0
  have hown : s.vm.findClass "com/example/daymark/daymark/calendar/TwentyFourHourClock" = some m.cls := findClass_of_methodNamed Bd.named
  have hnm := (name_of_methodNamed Bd.named Bd.method).1
  have X0 : Stand p l e ({ frames := 0, cells := 0, slots := 0, locals := 0 } : Room) s m #[(.int p1), (.int p2), (.int p3)] below meth c s₁ [] 0 0 := Stand.of_body Bd
  have e0 : s₁.heap = h0 := by rw [← hh, Bd.state]; rfl
  have N0 := Fr.nil n0
  have pre0 : ∀ t, Steps p.tables e below (s₁.setTop (mkF m 0 #[.val (.int p1), .val (.int p2), .val (.int p3)] [])) t → Steps p.tables e below (s₁.setTop (entryFrame m #[(.int p1), (.int p2), (.int p3)] 3)) t := fun t k => castTop (ef_2 m p1 p2 p3) k
  obtain ⟨fs, hr, hrun, hended, hW, hsame⟩ := X0.leave (v := some (.int (((p1 * (3600 : Int32)) + (p2 * (60 : Int32))) + p3))) (fun h => by rw [Bd.returns] at h; cases h)
  refine ⟨_, _, pre0 _ ?_, hrun, hended, _, _, rfl, ?_, ⟨_, rfl⟩, hW, hsame.mono (by decide) (by decide)⟩
  · show Steps p.tables e below (s₁.setTop (mkF m 0 #[.val (.int p1), .val (.int p2), .val (.int p3)] [])) _
    refine XS.iloadN X0.here hx rfl (hb hby d2_0) rfl ?_
    show Steps p.tables e below (s₁.setTop (mkF m 1 #[.val (.int p1), .val (.int p2), .val (.int p3)] [(.int p1)])) _
    refine XS.ifNo X0.here hx rfl (hb hby d2_1) rfl ((if0 _ _).trans (flt k1).1) ?_
    show Steps p.tables e below (s₁.setTop (mkF m 4 #[.val (.int p1), .val (.int p2), .val (.int p3)] [])) _
    refine XS.iloadN X0.here hx rfl (hb hby d2_4) rfl ?_
    show Steps p.tables e below (s₁.setTop (mkF m 5 #[.val (.int p1), .val (.int p2), .val (.int p3)] [(.int p2)])) _
    refine XS.ifNo X0.here hx rfl (hb hby d2_5) rfl ((if0 _ _).trans (flt k2).1) ?_
    show Steps p.tables e below (s₁.setTop (mkF m 8 #[.val (.int p1), .val (.int p2), .val (.int p3)] [])) _
    refine XS.iloadN X0.here hx rfl (hb hby d2_8) rfl ?_
    show Steps p.tables e below (s₁.setTop (mkF m 9 #[.val (.int p1), .val (.int p2), .val (.int p3)] [(.int p3)])) _
    refine XS.ifYes X0.here hx rfl (pc0 := 9) (pc' := 14) rfl (hb hby d2_9) rfl ((if0 _ _).trans (flt k3).2.1) (by decide) (by decide) ?_
    show Steps p.tables e below (s₁.setTop (mkF m 14 #[.val (.int p1), .val (.int p2), .val (.int p3)] [])) _
    refine XS.iloadN X0.here hx rfl (hb hby d2_14) rfl ?_
    show Steps p.tables e below (s₁.setTop (mkF m 15 #[.val (.int p1), .val (.int p2), .val (.int p3)] [(.int p1)])) _
    refine XS.sipush X0.here hx rfl (hb hby d2_15) ?_
    show Steps p.tables e below (s₁.setTop (mkF m 18 #[.val (.int p1), .val (.int p2), .val (.int p3)] [(.int (3600 : Int32)), (.int p1)])) _
    refine XS.imul X0.here hx rfl (hb hby d2_18) rfl ?_
    show Steps p.tables e below (s₁.setTop (mkF m 19 #[.val (.int p1), .val (.int p2), .val (.int p3)] [(.int (p1 * (3600 : Int32)))])) _
    refine XS.iloadN X0.here hx rfl (hb hby d2_19) rfl ?_
    show Steps p.tables e below (s₁.setTop (mkF m 20 #[.val (.int p1), .val (.int p2), .val (.int p3)] [(.int p2), (.int (p1 * (3600 : Int32)))])) _
    refine XS.bipush X0.here hx rfl (hb hby d2_20) ?_
    show Steps p.tables e below (s₁.setTop (mkF m 22 #[.val (.int p1), .val (.int p2), .val (.int p3)] [(.int (60 : Int32)), (.int p2), (.int (p1 * (3600 : Int32)))])) _
    refine XS.imul X0.here hx rfl (hb hby d2_22) rfl ?_
    show Steps p.tables e below (s₁.setTop (mkF m 23 #[.val (.int p1), .val (.int p2), .val (.int p3)] [(.int (p2 * (60 : Int32))), (.int (p1 * (3600 : Int32)))])) _
    refine XS.iadd X0.here hx rfl (hb hby d2_23) rfl ?_
    show Steps p.tables e below (s₁.setTop (mkF m 24 #[.val (.int p1), .val (.int p2), .val (.int p3)] [(.int ((p1 * (3600 : Int32)) + (p2 * (60 : Int32))))])) _
    refine XS.iloadN X0.here hx rfl (hb hby d2_24) rfl ?_
    show Steps p.tables e below (s₁.setTop (mkF m 25 #[.val (.int p1), .val (.int p2), .val (.int p3)] [(.int p3), (.int ((p1 * (3600 : Int32)) + (p2 * (60 : Int32))))])) _
    refine XS.iadd X0.here hx rfl (hb hby d2_25) rfl ?_
    show Steps p.tables e below (s₁.setTop (mkF m 26 #[.val (.int p1), .val (.int p2), .val (.int p3)] [(.int (((p1 * (3600 : Int32)) + (p2 * (60 : Int32))) + p3))])) _
    exact retI X0 hx Bd.returns (hb hby d2_26) hr
  · show Q2 Z p1 p2 p3 h0 n0 _ s₁.heap _
    exact ⟨rfl, N0, e0⟩
theorem d3_0 : decode prog_13_method_5_code 0 = .ok (.iload_n 0, 1) := by decide +kernel
theorem d3_1 : decode prog_13_method_5_code 1 = .ok (.sipush 3600, 3) := by decide +kernel
theorem d3_4 : decode prog_13_method_5_code 4 = .ok (.idiv, 1) := by decide +kernel
theorem d3_5 : decode prog_13_method_5_code 5 = .ok (.istore_n 1, 1) := by decide +kernel
theorem d3_6 : decode prog_13_method_5_code 6 = .ok (.iload_n 0, 1) := by decide +kernel
theorem d3_7 : decode prog_13_method_5_code 7 = .ok (.sipush 3600, 3) := by decide +kernel
theorem d3_10 : decode prog_13_method_5_code 10 = .ok (.irem, 1) := by decide +kernel
theorem d3_11 : decode prog_13_method_5_code 11 = .ok (.bipush 60, 2) := by decide +kernel
theorem d3_13 : decode prog_13_method_5_code 13 = .ok (.idiv, 1) := by decide +kernel
theorem d3_14 : decode prog_13_method_5_code 14 = .ok (.istore_n 2, 1) := by decide +kernel
theorem d3_15 : decode prog_13_method_5_code 15 = .ok (.iload_n 0, 1) := by decide +kernel
theorem d3_16 : decode prog_13_method_5_code 16 = .ok (.bipush 60, 2) := by decide +kernel
theorem d3_18 : decode prog_13_method_5_code 18 = .ok (.irem, 1) := by decide +kernel
theorem d3_19 : decode prog_13_method_5_code 19 = .ok (.istore_n 3, 1) := by decide +kernel
theorem d3_20 : decode prog_13_method_5_code 20 = .ok (.iload_n 1, 1) := by decide +kernel
theorem d3_21 : decode prog_13_method_5_code 21 = .ok (.sipush 10000, 3) := by decide +kernel
theorem d3_24 : decode prog_13_method_5_code 24 = .ok (.imul, 1) := by decide +kernel
theorem d3_25 : decode prog_13_method_5_code 25 = .ok (.iload_n 2, 1) := by decide +kernel
theorem d3_26 : decode prog_13_method_5_code 26 = .ok (.bipush 100, 2) := by decide +kernel
theorem d3_28 : decode prog_13_method_5_code 28 = .ok (.imul, 1) := by decide +kernel
theorem d3_29 : decode prog_13_method_5_code 29 = .ok (.iadd, 1) := by decide +kernel
theorem d3_30 : decode prog_13_method_5_code 30 = .ok (.iload_n 3, 1) := by decide +kernel
theorem d3_31 : decode prog_13_method_5_code 31 = .ok (.iadd, 1) := by decide +kernel
theorem d3_32 : decode prog_13_method_5_code 32 = .ok (.ireturn, 1) := by decide +kernel
theorem pn_3 : plainName "com/example/daymark/daymark/calendar/TwentyFourHourClock" = true := by first | (simp [plainName, overriddenIn]; done) | decide +kernel
theorem ef_3 (m : MethodId) (x0 : Int32) : entryFrame m #[(.int x0)] 4 = mkF m 0 #[.val (.int x0), .unset, .unset, .unset] [] := by first | (simp [entryFrame, mkF, argsToLocals, Value.category]; done) | rfl
def Q3 (Z : State) (p1 : Int32) (h0 : Heap) (n0 : Nat) (v : Option Value) (h : Heap) (L : List Loc) : Prop := v = some (.int (own_time p1)) ∧ Fr n0 L ∧ h = h0
set_option maxRecDepth 65536 in
set_option maxHeartbeats 40000000 in
theorem rm3 (l : Launch) (Z : State) (a0 : Array Value) (hw : ∀ d ∈ tables_1, d.before a0 Z = true) (ws : List Jvm.Cond) (p1 : Int32) (h0 : Heap) (n0 : Nat) (Z0 : n0 ≤ h0.size)  :
    MetFree l (⟨"com/example/daymark/daymark/calendar/TwentyFourHourClock", "timeOfSeconds", "(I)I"⟩ : MethodName) (head1 (Jvm.Cond.code (⟨"com/example/daymark/daymark/calendar/TwentyFourHourClock", "timeOfSeconds", "(I)I"⟩ : MethodName) prog_13_method_5_code 4 (some .int) :: ws) ({ frames := 0, cells := 0, slots := 0, locals := 0 } : Room)) (fun a U => a = #[(.int p1)] ∧ Z.Warmed39 U.vm ∧ U.heap = h0) (fun _ _ _ _ _ => True) (fun _ U o U' => ∃ v L, o = .returned v ∧ Q3 Z p1 h0 n0 v U'.heap L ∧ FrameEnd U o U' L ({ frames := 0, cells := 0, slots := 0, locals := 0 } : Room).cells ({ frames := 0, cells := 0, slots := 0, locals := 0 } : Room).slots) := by
  refine MetFree.of_bodySF (plainFor_of_name pn_3) hisR ?_
  intro p e s m args below meth c s₁ Bd hml0 hP hK
  obtain ⟨rfl, hZ, hh⟩ := hP
  have hx := Bd.exec
  have hby := Bd.bytes
  have hml : c.maxLocals = 4 := hml0
  have hown : s.vm.findClass "com/example/daymark/daymark/calendar/TwentyFourHourClock" = some m.cls := findClass_of_methodNamed Bd.named
  have hnm := (name_of_methodNamed Bd.named Bd.method).1
  have X0 : Stand p l e ({ frames := 0, cells := 0, slots := 0, locals := 0 } : Room) s m #[(.int p1)] below meth c s₁ [] 0 0 := Stand.of_body Bd
  have e0 : s₁.heap = h0 := by rw [← hh, Bd.state]; rfl
  have N0 := Fr.nil n0
  have pre0 : ∀ t, Steps p.tables e below (s₁.setTop (mkF m 0 #[.val (.int p1), .unset, .unset, .unset] [])) t → Steps p.tables e below (s₁.setTop (entryFrame m #[(.int p1)] 4)) t := fun t k => castTop (ef_3 m p1) k
  obtain ⟨fs, hr, hrun, hended, hW, hsame⟩ := X0.leave (v := some (.int ((((p1 / (3600 : Int32)) * (10000 : Int32)) + (((p1 - (p1 / (3600 : Int32)) * (3600 : Int32)) / (60 : Int32)) * (100 : Int32))) + (p1 - (p1 / (60 : Int32)) * (60 : Int32))))) (fun h => by rw [Bd.returns] at h; cases h)
  refine ⟨_, _, pre0 _ ?_, hrun, hended, _, _, rfl, ?_, ⟨_, rfl⟩, hW, hsame.mono (by decide) (by decide)⟩
  · show Steps p.tables e below (s₁.setTop (mkF m 0 #[.val (.int p1), .unset, .unset, .unset] [])) _
    refine XS.iloadN X0.here hx rfl (hb hby d3_0) rfl ?_
    show Steps p.tables e below (s₁.setTop (mkF m 1 #[.val (.int p1), .unset, .unset, .unset] [(.int p1)])) _
    refine XS.sipush X0.here hx rfl (hb hby d3_1) ?_
    show Steps p.tables e below (s₁.setTop (mkF m 4 #[.val (.int p1), .unset, .unset, .unset] [(.int (3600 : Int32)), (.int p1)])) _
    refine XS.idiv X0.here hx rfl (hb hby d3_4) rfl (by decide) ?_
    show Steps p.tables e below (s₁.setTop (mkF m 5 #[.val (.int p1), .unset, .unset, .unset] [(.int (p1 / (3600 : Int32)))])) _
    refine XS.istoreN X0.here hx rfl (hb hby d3_5) rfl (l' := #[.val (.int p1), .val (.int (p1 / (3600 : Int32))), .unset, .unset]) rfl ?_
    show Steps p.tables e below (s₁.setTop (mkF m 6 #[.val (.int p1), .val (.int (p1 / (3600 : Int32))), .unset, .unset] [])) _
    refine XS.iloadN X0.here hx rfl (hb hby d3_6) rfl ?_
    show Steps p.tables e below (s₁.setTop (mkF m 7 #[.val (.int p1), .val (.int (p1 / (3600 : Int32))), .unset, .unset] [(.int p1)])) _
    refine XS.sipush X0.here hx rfl (hb hby d3_7) ?_
    show Steps p.tables e below (s₁.setTop (mkF m 10 #[.val (.int p1), .val (.int (p1 / (3600 : Int32))), .unset, .unset] [(.int (3600 : Int32)), (.int p1)])) _
    refine XS.irem X0.here hx rfl (hb hby d3_10) rfl (by decide) ?_
    show Steps p.tables e below (s₁.setTop (mkF m 11 #[.val (.int p1), .val (.int (p1 / (3600 : Int32))), .unset, .unset] [(.int (p1 - (p1 / (3600 : Int32)) * (3600 : Int32)))])) _
    refine XS.bipush X0.here hx rfl (hb hby d3_11) ?_
    show Steps p.tables e below (s₁.setTop (mkF m 13 #[.val (.int p1), .val (.int (p1 / (3600 : Int32))), .unset, .unset] [(.int (60 : Int32)), (.int (p1 - (p1 / (3600 : Int32)) * (3600 : Int32)))])) _
    refine XS.idiv X0.here hx rfl (hb hby d3_13) rfl (by decide) ?_
    show Steps p.tables e below (s₁.setTop (mkF m 14 #[.val (.int p1), .val (.int (p1 / (3600 : Int32))), .unset, .unset] [(.int ((p1 - (p1 / (3600 : Int32)) * (3600 : Int32)) / (60 : Int32)))])) _
    refine XS.istoreN X0.here hx rfl (hb hby d3_14) rfl (l' := #[.val (.int p1), .val (.int (p1 / (3600 : Int32))), .val (.int ((p1 - (p1 / (3600 : Int32)) * (3600 : Int32)) / (60 : Int32))), .unset]) rfl ?_
    show Steps p.tables e below (s₁.setTop (mkF m 15 #[.val (.int p1), .val (.int (p1 / (3600 : Int32))), .val (.int ((p1 - (p1 / (3600 : Int32)) * (3600 : Int32)) / (60 : Int32))), .unset] [])) _
    refine XS.iloadN X0.here hx rfl (hb hby d3_15) rfl ?_
    show Steps p.tables e below (s₁.setTop (mkF m 16 #[.val (.int p1), .val (.int (p1 / (3600 : Int32))), .val (.int ((p1 - (p1 / (3600 : Int32)) * (3600 : Int32)) / (60 : Int32))), .unset] [(.int p1)])) _
    refine XS.bipush X0.here hx rfl (hb hby d3_16) ?_
    show Steps p.tables e below (s₁.setTop (mkF m 18 #[.val (.int p1), .val (.int (p1 / (3600 : Int32))), .val (.int ((p1 - (p1 / (3600 : Int32)) * (3600 : Int32)) / (60 : Int32))), .unset] [(.int (60 : Int32)), (.int p1)])) _
    refine XS.irem X0.here hx rfl (hb hby d3_18) rfl (by decide) ?_
    show Steps p.tables e below (s₁.setTop (mkF m 19 #[.val (.int p1), .val (.int (p1 / (3600 : Int32))), .val (.int ((p1 - (p1 / (3600 : Int32)) * (3600 : Int32)) / (60 : Int32))), .unset] [(.int (p1 - (p1 / (60 : Int32)) * (60 : Int32)))])) _
    refine XS.istoreN X0.here hx rfl (hb hby d3_19) rfl (l' := #[.val (.int p1), .val (.int (p1 / (3600 : Int32))), .val (.int ((p1 - (p1 / (3600 : Int32)) * (3600 : Int32)) / (60 : Int32))), .val (.int (p1 - (p1 / (60 : Int32)) * (60 : Int32)))]) rfl ?_
    show Steps p.tables e below (s₁.setTop (mkF m 20 #[.val (.int p1), .val (.int (p1 / (3600 : Int32))), .val (.int ((p1 - (p1 / (3600 : Int32)) * (3600 : Int32)) / (60 : Int32))), .val (.int (p1 - (p1 / (60 : Int32)) * (60 : Int32)))] [])) _
    refine XS.iloadN X0.here hx rfl (hb hby d3_20) rfl ?_
    show Steps p.tables e below (s₁.setTop (mkF m 21 #[.val (.int p1), .val (.int (p1 / (3600 : Int32))), .val (.int ((p1 - (p1 / (3600 : Int32)) * (3600 : Int32)) / (60 : Int32))), .val (.int (p1 - (p1 / (60 : Int32)) * (60 : Int32)))] [(.int (p1 / (3600 : Int32)))])) _
    refine XS.sipush X0.here hx rfl (hb hby d3_21) ?_
    show Steps p.tables e below (s₁.setTop (mkF m 24 #[.val (.int p1), .val (.int (p1 / (3600 : Int32))), .val (.int ((p1 - (p1 / (3600 : Int32)) * (3600 : Int32)) / (60 : Int32))), .val (.int (p1 - (p1 / (60 : Int32)) * (60 : Int32)))] [(.int (10000 : Int32)), (.int (p1 / (3600 : Int32)))])) _
    refine XS.imul X0.here hx rfl (hb hby d3_24) rfl ?_
    show Steps p.tables e below (s₁.setTop (mkF m 25 #[.val (.int p1), .val (.int (p1 / (3600 : Int32))), .val (.int ((p1 - (p1 / (3600 : Int32)) * (3600 : Int32)) / (60 : Int32))), .val (.int (p1 - (p1 / (60 : Int32)) * (60 : Int32)))] [(.int ((p1 / (3600 : Int32)) * (10000 : Int32)))])) _
    refine XS.iloadN X0.here hx rfl (hb hby d3_25) rfl ?_
    show Steps p.tables e below (s₁.setTop (mkF m 26 #[.val (.int p1), .val (.int (p1 / (3600 : Int32))), .val (.int ((p1 - (p1 / (3600 : Int32)) * (3600 : Int32)) / (60 : Int32))), .val (.int (p1 - (p1 / (60 : Int32)) * (60 : Int32)))] [(.int ((p1 - (p1 / (3600 : Int32)) * (3600 : Int32)) / (60 : Int32))), (.int ((p1 / (3600 : Int32)) * (10000 : Int32)))])) _
    refine XS.bipush X0.here hx rfl (hb hby d3_26) ?_
    show Steps p.tables e below (s₁.setTop (mkF m 28 #[.val (.int p1), .val (.int (p1 / (3600 : Int32))), .val (.int ((p1 - (p1 / (3600 : Int32)) * (3600 : Int32)) / (60 : Int32))), .val (.int (p1 - (p1 / (60 : Int32)) * (60 : Int32)))] [(.int (100 : Int32)), (.int ((p1 - (p1 / (3600 : Int32)) * (3600 : Int32)) / (60 : Int32))), (.int ((p1 / (3600 : Int32)) * (10000 : Int32)))])) _
    refine XS.imul X0.here hx rfl (hb hby d3_28) rfl ?_
    show Steps p.tables e below (s₁.setTop (mkF m 29 #[.val (.int p1), .val (.int (p1 / (3600 : Int32))), .val (.int ((p1 - (p1 / (3600 : Int32)) * (3600 : Int32)) / (60 : Int32))), .val (.int (p1 - (p1 / (60 : Int32)) * (60 : Int32)))] [(.int (((p1 - (p1 / (3600 : Int32)) * (3600 : Int32)) / (60 : Int32)) * (100 : Int32))), (.int ((p1 / (3600 : Int32)) * (10000 : Int32)))])) _
    refine XS.iadd X0.here hx rfl (hb hby d3_29) rfl ?_
    show Steps p.tables e below (s₁.setTop (mkF m 30 #[.val (.int p1), .val (.int (p1 / (3600 : Int32))), .val (.int ((p1 - (p1 / (3600 : Int32)) * (3600 : Int32)) / (60 : Int32))), .val (.int (p1 - (p1 / (60 : Int32)) * (60 : Int32)))] [(.int (((p1 / (3600 : Int32)) * (10000 : Int32)) + (((p1 - (p1 / (3600 : Int32)) * (3600 : Int32)) / (60 : Int32)) * (100 : Int32))))])) _
    refine XS.iloadN X0.here hx rfl (hb hby d3_30) rfl ?_
    show Steps p.tables e below (s₁.setTop (mkF m 31 #[.val (.int p1), .val (.int (p1 / (3600 : Int32))), .val (.int ((p1 - (p1 / (3600 : Int32)) * (3600 : Int32)) / (60 : Int32))), .val (.int (p1 - (p1 / (60 : Int32)) * (60 : Int32)))] [(.int (p1 - (p1 / (60 : Int32)) * (60 : Int32))), (.int (((p1 / (3600 : Int32)) * (10000 : Int32)) + (((p1 - (p1 / (3600 : Int32)) * (3600 : Int32)) / (60 : Int32)) * (100 : Int32))))])) _
    refine XS.iadd X0.here hx rfl (hb hby d3_31) rfl ?_
    show Steps p.tables e below (s₁.setTop (mkF m 32 #[.val (.int p1), .val (.int (p1 / (3600 : Int32))), .val (.int ((p1 - (p1 / (3600 : Int32)) * (3600 : Int32)) / (60 : Int32))), .val (.int (p1 - (p1 / (60 : Int32)) * (60 : Int32)))] [(.int ((((p1 / (3600 : Int32)) * (10000 : Int32)) + (((p1 - (p1 / (3600 : Int32)) * (3600 : Int32)) / (60 : Int32)) * (100 : Int32))) + (p1 - (p1 / (60 : Int32)) * (60 : Int32))))])) _
    exact retI X0 hx Bd.returns (hb hby d3_32) hr
  · show Q3 Z p1 h0 n0 _ s₁.heap _
    exact ⟨rfl, N0, e0⟩
theorem pn_0 : plainName "com/example/daymark/daymark/calendar/TwentyFourHourClockIsValidTimePinLaw" = true := by first | (simp [plainName, overriddenIn]; done) | decide +kernel
theorem pd_0_0 : parseMethodDescriptor "(III)Z" = some ⟨[.int, .int, .int], some .boolean⟩ := by decide +kernel
theorem ef_0 (m : MethodId) (x0 : Int32) (x1 : Int32) (x2 : Int32) : entryFrame m #[(.int x0), (.int x1), (.int x2)] maxLocals = mkF m 0 #[.val (.int x0), .val (.int x1), .val (.int x2), .unset, .unset, .unset, .unset, .unset, .unset] [] := by first | (simp [entryFrame, mkF, argsToLocals, Value.category, maxLocals]; done) | rfl
set_option maxRecDepth 65536 in
set_option maxHeartbeats 40000000 in
theorem own_seg7 {p : Program} {l : Launch} {e : Env} {R : Room} {s : State} {m : MethodId} {args : Array Value} {below : List Frame} {meth : Method} {c : Code} {T0 : State} {locs : List Loc} {cells slots : Nat} {Z : State} {a0 : Array Value} {p1 p2 p3 gt : Int32}
    (X0 : Stand p l e R s m args below meth c T0 locs cells slots) (hx : p.tables.exec = Jvm.exec) (hZ : Z.Warmed39 s.vm) (hw : ∀ d ∈ tables_1, d.before a0 Z = true) (hby : c.code = code) (hown : s.vm.findClass "com/example/daymark/daymark/calendar/TwentyFourHourClockIsValidTimePinLaw" = some m.cls) :
    ∀ target, Steps p.tables e below (T0.setTop (mkF m 38 #[.val (.int p1), .val (.int p2), .val (.int p3), .val (.int gt), .val (.int (own_parts p1 p2 p3)), .unset, .unset, .unset, .unset] [])) target → Steps p.tables e below (T0.setTop (mkF m 7 #[.val (.int p1), .val (.int p2), .val (.int p3), .val (.int gt), .unset, .unset, .unset, .unset, .unset] [])) target := by
  intro target kt
  by_cases h0 : p1 < (0 : Int32)
  · rw [show own_parts p1 p2 p3 = 0 from by rw [own_parts, if_pos h0]] at kt
    show Steps p.tables e below (T0.setTop (mkF m 7 #[.val (.int p1), .val (.int p2), .val (.int p3), .val (.int gt), .unset, .unset, .unset, .unset, .unset] [])) _
    refine XS.iloadN X0.here hx rfl (hb hby at_7) rfl ?_
    show Steps p.tables e below (T0.setTop (mkF m 8 #[.val (.int p1), .val (.int p2), .val (.int p3), .val (.int gt), .unset, .unset, .unset, .unset, .unset] [(.int p1)])) _
    refine XS.ifYes X0.here hx rfl (pc0 := 8) (pc' := 35) rfl (hb hby at_8) rfl ((if0 _ _).trans (tlt h0).1) (by decide) (by decide) ?_
    show Steps p.tables e below (T0.setTop (mkF m 35 #[.val (.int p1), .val (.int p2), .val (.int p3), .val (.int gt), .unset, .unset, .unset, .unset, .unset] [])) _
    refine XS.iconst X0.here hx rfl (hb hby at_35) ?_
    show Steps p.tables e below (T0.setTop (mkF m 36 #[.val (.int p1), .val (.int p2), .val (.int p3), .val (.int gt), .unset, .unset, .unset, .unset, .unset] [(.int (0 : Int32))])) _
    refine XS.istore X0.here hx rfl (hb hby at_36) rfl (l' := #[.val (.int p1), .val (.int p2), .val (.int p3), .val (.int gt), .val (.int (0 : Int32)), .unset, .unset, .unset, .unset]) rfl ?_
    exact kt
  by_cases h1 : p2 < (0 : Int32)
  · rw [show own_parts p1 p2 p3 = 0 from by rw [own_parts, if_neg h0, if_pos h1]] at kt
    show Steps p.tables e below (T0.setTop (mkF m 7 #[.val (.int p1), .val (.int p2), .val (.int p3), .val (.int gt), .unset, .unset, .unset, .unset, .unset] [])) _
    refine XS.iloadN X0.here hx rfl (hb hby at_7) rfl ?_
    show Steps p.tables e below (T0.setTop (mkF m 8 #[.val (.int p1), .val (.int p2), .val (.int p3), .val (.int gt), .unset, .unset, .unset, .unset, .unset] [(.int p1)])) _
    refine XS.ifNo X0.here hx rfl (hb hby at_8) rfl ((if0 _ _).trans (flt h0).1) ?_
    show Steps p.tables e below (T0.setTop (mkF m 11 #[.val (.int p1), .val (.int p2), .val (.int p3), .val (.int gt), .unset, .unset, .unset, .unset, .unset] [])) _
    refine XS.iloadN X0.here hx rfl (hb hby at_11) rfl ?_
    show Steps p.tables e below (T0.setTop (mkF m 12 #[.val (.int p1), .val (.int p2), .val (.int p3), .val (.int gt), .unset, .unset, .unset, .unset, .unset] [(.int p2)])) _
    refine XS.ifYes X0.here hx rfl (pc0 := 12) (pc' := 35) rfl (hb hby at_12) rfl ((if0 _ _).trans (tlt h1).1) (by decide) (by decide) ?_
    show Steps p.tables e below (T0.setTop (mkF m 35 #[.val (.int p1), .val (.int p2), .val (.int p3), .val (.int gt), .unset, .unset, .unset, .unset, .unset] [])) _
    refine XS.iconst X0.here hx rfl (hb hby at_35) ?_
    show Steps p.tables e below (T0.setTop (mkF m 36 #[.val (.int p1), .val (.int p2), .val (.int p3), .val (.int gt), .unset, .unset, .unset, .unset, .unset] [(.int (0 : Int32))])) _
    refine XS.istore X0.here hx rfl (hb hby at_36) rfl (l' := #[.val (.int p1), .val (.int p2), .val (.int p3), .val (.int gt), .val (.int (0 : Int32)), .unset, .unset, .unset, .unset]) rfl ?_
    exact kt
  by_cases h2 : p3 < (0 : Int32)
  · rw [show own_parts p1 p2 p3 = 0 from by rw [own_parts, if_neg h0, if_neg h1, if_pos h2]] at kt
    show Steps p.tables e below (T0.setTop (mkF m 7 #[.val (.int p1), .val (.int p2), .val (.int p3), .val (.int gt), .unset, .unset, .unset, .unset, .unset] [])) _
    refine XS.iloadN X0.here hx rfl (hb hby at_7) rfl ?_
    show Steps p.tables e below (T0.setTop (mkF m 8 #[.val (.int p1), .val (.int p2), .val (.int p3), .val (.int gt), .unset, .unset, .unset, .unset, .unset] [(.int p1)])) _
    refine XS.ifNo X0.here hx rfl (hb hby at_8) rfl ((if0 _ _).trans (flt h0).1) ?_
    show Steps p.tables e below (T0.setTop (mkF m 11 #[.val (.int p1), .val (.int p2), .val (.int p3), .val (.int gt), .unset, .unset, .unset, .unset, .unset] [])) _
    refine XS.iloadN X0.here hx rfl (hb hby at_11) rfl ?_
    show Steps p.tables e below (T0.setTop (mkF m 12 #[.val (.int p1), .val (.int p2), .val (.int p3), .val (.int gt), .unset, .unset, .unset, .unset, .unset] [(.int p2)])) _
    refine XS.ifNo X0.here hx rfl (hb hby at_12) rfl ((if0 _ _).trans (flt h1).1) ?_
    show Steps p.tables e below (T0.setTop (mkF m 15 #[.val (.int p1), .val (.int p2), .val (.int p3), .val (.int gt), .unset, .unset, .unset, .unset, .unset] [])) _
    refine XS.iloadN X0.here hx rfl (hb hby at_15) rfl ?_
    show Steps p.tables e below (T0.setTop (mkF m 16 #[.val (.int p1), .val (.int p2), .val (.int p3), .val (.int gt), .unset, .unset, .unset, .unset, .unset] [(.int p3)])) _
    refine XS.ifYes X0.here hx rfl (pc0 := 16) (pc' := 35) rfl (hb hby at_16) rfl ((if0 _ _).trans (tlt h2).1) (by decide) (by decide) ?_
    show Steps p.tables e below (T0.setTop (mkF m 35 #[.val (.int p1), .val (.int p2), .val (.int p3), .val (.int gt), .unset, .unset, .unset, .unset, .unset] [])) _
    refine XS.iconst X0.here hx rfl (hb hby at_35) ?_
    show Steps p.tables e below (T0.setTop (mkF m 36 #[.val (.int p1), .val (.int p2), .val (.int p3), .val (.int gt), .unset, .unset, .unset, .unset, .unset] [(.int (0 : Int32))])) _
    refine XS.istore X0.here hx rfl (hb hby at_36) rfl (l' := #[.val (.int p1), .val (.int p2), .val (.int p3), .val (.int gt), .val (.int (0 : Int32)), .unset, .unset, .unset, .unset]) rfl ?_
    exact kt
  by_cases h3 : ¬ p2 < (60 : Int32)
  · rw [show own_parts p1 p2 p3 = 0 from by rw [own_parts, if_neg h0, if_neg h1, if_neg h2, if_pos h3]] at kt
    show Steps p.tables e below (T0.setTop (mkF m 7 #[.val (.int p1), .val (.int p2), .val (.int p3), .val (.int gt), .unset, .unset, .unset, .unset, .unset] [])) _
    refine XS.iloadN X0.here hx rfl (hb hby at_7) rfl ?_
    show Steps p.tables e below (T0.setTop (mkF m 8 #[.val (.int p1), .val (.int p2), .val (.int p3), .val (.int gt), .unset, .unset, .unset, .unset, .unset] [(.int p1)])) _
    refine XS.ifNo X0.here hx rfl (hb hby at_8) rfl ((if0 _ _).trans (flt h0).1) ?_
    show Steps p.tables e below (T0.setTop (mkF m 11 #[.val (.int p1), .val (.int p2), .val (.int p3), .val (.int gt), .unset, .unset, .unset, .unset, .unset] [])) _
    refine XS.iloadN X0.here hx rfl (hb hby at_11) rfl ?_
    show Steps p.tables e below (T0.setTop (mkF m 12 #[.val (.int p1), .val (.int p2), .val (.int p3), .val (.int gt), .unset, .unset, .unset, .unset, .unset] [(.int p2)])) _
    refine XS.ifNo X0.here hx rfl (hb hby at_12) rfl ((if0 _ _).trans (flt h1).1) ?_
    show Steps p.tables e below (T0.setTop (mkF m 15 #[.val (.int p1), .val (.int p2), .val (.int p3), .val (.int gt), .unset, .unset, .unset, .unset, .unset] [])) _
    refine XS.iloadN X0.here hx rfl (hb hby at_15) rfl ?_
    show Steps p.tables e below (T0.setTop (mkF m 16 #[.val (.int p1), .val (.int p2), .val (.int p3), .val (.int gt), .unset, .unset, .unset, .unset, .unset] [(.int p3)])) _
    refine XS.ifNo X0.here hx rfl (hb hby at_16) rfl ((if0 _ _).trans (flt h2).1) ?_
    show Steps p.tables e below (T0.setTop (mkF m 19 #[.val (.int p1), .val (.int p2), .val (.int p3), .val (.int gt), .unset, .unset, .unset, .unset, .unset] [])) _
    refine XS.iloadN X0.here hx rfl (hb hby at_19) rfl ?_
    show Steps p.tables e below (T0.setTop (mkF m 20 #[.val (.int p1), .val (.int p2), .val (.int p3), .val (.int gt), .unset, .unset, .unset, .unset, .unset] [(.int p2)])) _
    refine XS.bipush X0.here hx rfl (hb hby at_20) ?_
    show Steps p.tables e below (T0.setTop (mkF m 22 #[.val (.int p1), .val (.int p2), .val (.int p3), .val (.int gt), .unset, .unset, .unset, .unset, .unset] [(.int (60 : Int32)), (.int p2)])) _
    refine XS.icmpYes X0.here hx rfl (pc0 := 22) (pc' := 35) rfl (hb hby at_22) rfl (flt h3).2.1 (by decide) (by decide) ?_
    show Steps p.tables e below (T0.setTop (mkF m 35 #[.val (.int p1), .val (.int p2), .val (.int p3), .val (.int gt), .unset, .unset, .unset, .unset, .unset] [])) _
    refine XS.iconst X0.here hx rfl (hb hby at_35) ?_
    show Steps p.tables e below (T0.setTop (mkF m 36 #[.val (.int p1), .val (.int p2), .val (.int p3), .val (.int gt), .unset, .unset, .unset, .unset, .unset] [(.int (0 : Int32))])) _
    refine XS.istore X0.here hx rfl (hb hby at_36) rfl (l' := #[.val (.int p1), .val (.int p2), .val (.int p3), .val (.int gt), .val (.int (0 : Int32)), .unset, .unset, .unset, .unset]) rfl ?_
    exact kt
  by_cases h4 : ¬ p3 < (60 : Int32)
  · rw [show own_parts p1 p2 p3 = 0 from by rw [own_parts, if_neg h0, if_neg h1, if_neg h2, if_neg h3, if_pos h4]] at kt
    show Steps p.tables e below (T0.setTop (mkF m 7 #[.val (.int p1), .val (.int p2), .val (.int p3), .val (.int gt), .unset, .unset, .unset, .unset, .unset] [])) _
    refine XS.iloadN X0.here hx rfl (hb hby at_7) rfl ?_
    show Steps p.tables e below (T0.setTop (mkF m 8 #[.val (.int p1), .val (.int p2), .val (.int p3), .val (.int gt), .unset, .unset, .unset, .unset, .unset] [(.int p1)])) _
    refine XS.ifNo X0.here hx rfl (hb hby at_8) rfl ((if0 _ _).trans (flt h0).1) ?_
    show Steps p.tables e below (T0.setTop (mkF m 11 #[.val (.int p1), .val (.int p2), .val (.int p3), .val (.int gt), .unset, .unset, .unset, .unset, .unset] [])) _
    refine XS.iloadN X0.here hx rfl (hb hby at_11) rfl ?_
    show Steps p.tables e below (T0.setTop (mkF m 12 #[.val (.int p1), .val (.int p2), .val (.int p3), .val (.int gt), .unset, .unset, .unset, .unset, .unset] [(.int p2)])) _
    refine XS.ifNo X0.here hx rfl (hb hby at_12) rfl ((if0 _ _).trans (flt h1).1) ?_
    show Steps p.tables e below (T0.setTop (mkF m 15 #[.val (.int p1), .val (.int p2), .val (.int p3), .val (.int gt), .unset, .unset, .unset, .unset, .unset] [])) _
    refine XS.iloadN X0.here hx rfl (hb hby at_15) rfl ?_
    show Steps p.tables e below (T0.setTop (mkF m 16 #[.val (.int p1), .val (.int p2), .val (.int p3), .val (.int gt), .unset, .unset, .unset, .unset, .unset] [(.int p3)])) _
    refine XS.ifNo X0.here hx rfl (hb hby at_16) rfl ((if0 _ _).trans (flt h2).1) ?_
    show Steps p.tables e below (T0.setTop (mkF m 19 #[.val (.int p1), .val (.int p2), .val (.int p3), .val (.int gt), .unset, .unset, .unset, .unset, .unset] [])) _
    refine XS.iloadN X0.here hx rfl (hb hby at_19) rfl ?_
    show Steps p.tables e below (T0.setTop (mkF m 20 #[.val (.int p1), .val (.int p2), .val (.int p3), .val (.int gt), .unset, .unset, .unset, .unset, .unset] [(.int p2)])) _
    refine XS.bipush X0.here hx rfl (hb hby at_20) ?_
    show Steps p.tables e below (T0.setTop (mkF m 22 #[.val (.int p1), .val (.int p2), .val (.int p3), .val (.int gt), .unset, .unset, .unset, .unset, .unset] [(.int (60 : Int32)), (.int p2)])) _
    refine XS.icmpNo X0.here hx rfl (hb hby at_22) rfl (tlt (Decidable.not_not.mp h3)).2.1 ?_
    show Steps p.tables e below (T0.setTop (mkF m 25 #[.val (.int p1), .val (.int p2), .val (.int p3), .val (.int gt), .unset, .unset, .unset, .unset, .unset] [])) _
    refine XS.iloadN X0.here hx rfl (hb hby at_25) rfl ?_
    show Steps p.tables e below (T0.setTop (mkF m 26 #[.val (.int p1), .val (.int p2), .val (.int p3), .val (.int gt), .unset, .unset, .unset, .unset, .unset] [(.int p3)])) _
    refine XS.bipush X0.here hx rfl (hb hby at_26) ?_
    show Steps p.tables e below (T0.setTop (mkF m 28 #[.val (.int p1), .val (.int p2), .val (.int p3), .val (.int gt), .unset, .unset, .unset, .unset, .unset] [(.int (60 : Int32)), (.int p3)])) _
    refine XS.icmpYes X0.here hx rfl (pc0 := 28) (pc' := 35) rfl (hb hby at_28) rfl (flt h4).2.1 (by decide) (by decide) ?_
    show Steps p.tables e below (T0.setTop (mkF m 35 #[.val (.int p1), .val (.int p2), .val (.int p3), .val (.int gt), .unset, .unset, .unset, .unset, .unset] [])) _
    refine XS.iconst X0.here hx rfl (hb hby at_35) ?_
    show Steps p.tables e below (T0.setTop (mkF m 36 #[.val (.int p1), .val (.int p2), .val (.int p3), .val (.int gt), .unset, .unset, .unset, .unset, .unset] [(.int (0 : Int32))])) _
    refine XS.istore X0.here hx rfl (hb hby at_36) rfl (l' := #[.val (.int p1), .val (.int p2), .val (.int p3), .val (.int gt), .val (.int (0 : Int32)), .unset, .unset, .unset, .unset]) rfl ?_
    exact kt
  rw [show own_parts p1 p2 p3 = 1 from by rw [own_parts, if_neg h0, if_neg h1, if_neg h2, if_neg h3, if_neg h4]] at kt
  show Steps p.tables e below (T0.setTop (mkF m 7 #[.val (.int p1), .val (.int p2), .val (.int p3), .val (.int gt), .unset, .unset, .unset, .unset, .unset] [])) _
  refine XS.iloadN X0.here hx rfl (hb hby at_7) rfl ?_
  show Steps p.tables e below (T0.setTop (mkF m 8 #[.val (.int p1), .val (.int p2), .val (.int p3), .val (.int gt), .unset, .unset, .unset, .unset, .unset] [(.int p1)])) _
  refine XS.ifNo X0.here hx rfl (hb hby at_8) rfl ((if0 _ _).trans (flt h0).1) ?_
  show Steps p.tables e below (T0.setTop (mkF m 11 #[.val (.int p1), .val (.int p2), .val (.int p3), .val (.int gt), .unset, .unset, .unset, .unset, .unset] [])) _
  refine XS.iloadN X0.here hx rfl (hb hby at_11) rfl ?_
  show Steps p.tables e below (T0.setTop (mkF m 12 #[.val (.int p1), .val (.int p2), .val (.int p3), .val (.int gt), .unset, .unset, .unset, .unset, .unset] [(.int p2)])) _
  refine XS.ifNo X0.here hx rfl (hb hby at_12) rfl ((if0 _ _).trans (flt h1).1) ?_
  show Steps p.tables e below (T0.setTop (mkF m 15 #[.val (.int p1), .val (.int p2), .val (.int p3), .val (.int gt), .unset, .unset, .unset, .unset, .unset] [])) _
  refine XS.iloadN X0.here hx rfl (hb hby at_15) rfl ?_
  show Steps p.tables e below (T0.setTop (mkF m 16 #[.val (.int p1), .val (.int p2), .val (.int p3), .val (.int gt), .unset, .unset, .unset, .unset, .unset] [(.int p3)])) _
  refine XS.ifNo X0.here hx rfl (hb hby at_16) rfl ((if0 _ _).trans (flt h2).1) ?_
  show Steps p.tables e below (T0.setTop (mkF m 19 #[.val (.int p1), .val (.int p2), .val (.int p3), .val (.int gt), .unset, .unset, .unset, .unset, .unset] [])) _
  refine XS.iloadN X0.here hx rfl (hb hby at_19) rfl ?_
  show Steps p.tables e below (T0.setTop (mkF m 20 #[.val (.int p1), .val (.int p2), .val (.int p3), .val (.int gt), .unset, .unset, .unset, .unset, .unset] [(.int p2)])) _
  refine XS.bipush X0.here hx rfl (hb hby at_20) ?_
  show Steps p.tables e below (T0.setTop (mkF m 22 #[.val (.int p1), .val (.int p2), .val (.int p3), .val (.int gt), .unset, .unset, .unset, .unset, .unset] [(.int (60 : Int32)), (.int p2)])) _
  refine XS.icmpNo X0.here hx rfl (hb hby at_22) rfl (tlt (Decidable.not_not.mp h3)).2.1 ?_
  show Steps p.tables e below (T0.setTop (mkF m 25 #[.val (.int p1), .val (.int p2), .val (.int p3), .val (.int gt), .unset, .unset, .unset, .unset, .unset] [])) _
  refine XS.iloadN X0.here hx rfl (hb hby at_25) rfl ?_
  show Steps p.tables e below (T0.setTop (mkF m 26 #[.val (.int p1), .val (.int p2), .val (.int p3), .val (.int gt), .unset, .unset, .unset, .unset, .unset] [(.int p3)])) _
  refine XS.bipush X0.here hx rfl (hb hby at_26) ?_
  show Steps p.tables e below (T0.setTop (mkF m 28 #[.val (.int p1), .val (.int p2), .val (.int p3), .val (.int gt), .unset, .unset, .unset, .unset, .unset] [(.int (60 : Int32)), (.int p3)])) _
  refine XS.icmpNo X0.here hx rfl (hb hby at_28) rfl (tlt (Decidable.not_not.mp h4)).2.1 ?_
  show Steps p.tables e below (T0.setTop (mkF m 31 #[.val (.int p1), .val (.int p2), .val (.int p3), .val (.int gt), .unset, .unset, .unset, .unset, .unset] [])) _
  refine XS.iconst X0.here hx rfl (hb hby at_31) ?_
  show Steps p.tables e below (T0.setTop (mkF m 32 #[.val (.int p1), .val (.int p2), .val (.int p3), .val (.int gt), .unset, .unset, .unset, .unset, .unset] [(.int (1 : Int32))])) _
  refine XS.goto X0.here hx rfl (pc0 := 32) (pc' := 36) rfl (hb hby at_32) (by decide) (by decide) ?_
  show Steps p.tables e below (T0.setTop (mkF m 36 #[.val (.int p1), .val (.int p2), .val (.int p3), .val (.int gt), .unset, .unset, .unset, .unset, .unset] [(.int (1 : Int32))])) _
  refine XS.istore X0.here hx rfl (hb hby at_36) rfl (l' := #[.val (.int p1), .val (.int p2), .val (.int p3), .val (.int gt), .val (.int (1 : Int32)), .unset, .unset, .unset, .unset]) rfl ?_
  exact kt
set_option maxRecDepth 65536 in
set_option maxHeartbeats 40000000 in
theorem own_seg56 {p : Program} {l : Launch} {e : Env} {R : Room} {s : State} {m : MethodId} {args : Array Value} {below : List Frame} {meth : Method} {c : Code} {T0 : State} {locs : List Loc} {cells slots : Nat} {Z : State} {a0 : Array Value} {p1 p2 p3 gt : Int32}
    (X0 : Stand p l e R s m args below meth c T0 locs cells slots) (hx : p.tables.exec = Jvm.exec) (hZ : Z.Warmed39 s.vm) (hw : ∀ d ∈ tables_1, d.before a0 Z = true) (hby : c.code = code) (hown : s.vm.findClass "com/example/daymark/daymark/calendar/TwentyFourHourClockIsValidTimePinLaw" = some m.cls) :
    ∀ target, Steps p.tables e below (T0.setTop (mkF m 77 #[.val (.int p1), .val (.int p2), .val (.int p3), .val (.int gt), .val (.int (own_parts p1 p2 p3)), .val (.long (own_total p1 p2 p3)), .second, .val (.int (own_exp p1 p2 p3)), .unset] [])) target → Steps p.tables e below (T0.setTop (mkF m 56 #[.val (.int p1), .val (.int p2), .val (.int p3), .val (.int gt), .val (.int (own_parts p1 p2 p3)), .val (.long (own_total p1 p2 p3)), .second, .unset, .unset] [])) target := by
  intro target kt
  by_cases h0 : own_parts p1 p2 p3 = 0
  · rw [show own_exp p1 p2 p3 = 0 from by rw [own_exp, if_pos h0]] at kt
    show Steps p.tables e below (T0.setTop (mkF m 56 #[.val (.int p1), .val (.int p2), .val (.int p3), .val (.int gt), .val (.int (own_parts p1 p2 p3)), .val (.long (own_total p1 p2 p3)), .second, .unset, .unset] [])) _
    refine XS.iload X0.here hx rfl (hb hby at_56) rfl ?_
    show Steps p.tables e below (T0.setTop (mkF m 58 #[.val (.int p1), .val (.int p2), .val (.int p3), .val (.int gt), .val (.int (own_parts p1 p2 p3)), .val (.long (own_total p1 p2 p3)), .second, .unset, .unset] [(.int (own_parts p1 p2 p3))])) _
    refine XS.ifYes X0.here hx rfl (pc0 := 58) (pc' := 74) rfl (hb hby at_58) rfl ((if0 _ _).trans (teq h0).1) (by decide) (by decide) ?_
    show Steps p.tables e below (T0.setTop (mkF m 74 #[.val (.int p1), .val (.int p2), .val (.int p3), .val (.int gt), .val (.int (own_parts p1 p2 p3)), .val (.long (own_total p1 p2 p3)), .second, .unset, .unset] [])) _
    refine XS.iconst X0.here hx rfl (hb hby at_74) ?_
    show Steps p.tables e below (T0.setTop (mkF m 75 #[.val (.int p1), .val (.int p2), .val (.int p3), .val (.int gt), .val (.int (own_parts p1 p2 p3)), .val (.long (own_total p1 p2 p3)), .second, .unset, .unset] [(.int (0 : Int32))])) _
    refine XS.istore X0.here hx rfl (hb hby at_75) rfl (l' := #[.val (.int p1), .val (.int p2), .val (.int p3), .val (.int gt), .val (.int (own_parts p1 p2 p3)), .val (.long (own_total p1 p2 p3)), .second, .val (.int (0 : Int32)), .unset]) rfl ?_
    exact kt
  by_cases h1 : ¬ lcmpW (own_total p1 p2 p3) 86400 < 0
  · rw [show own_exp p1 p2 p3 = 0 from by rw [own_exp, if_neg h0, if_pos h1]] at kt
    show Steps p.tables e below (T0.setTop (mkF m 56 #[.val (.int p1), .val (.int p2), .val (.int p3), .val (.int gt), .val (.int (own_parts p1 p2 p3)), .val (.long (own_total p1 p2 p3)), .second, .unset, .unset] [])) _
    refine XS.iload X0.here hx rfl (hb hby at_56) rfl ?_
    show Steps p.tables e below (T0.setTop (mkF m 58 #[.val (.int p1), .val (.int p2), .val (.int p3), .val (.int gt), .val (.int (own_parts p1 p2 p3)), .val (.long (own_total p1 p2 p3)), .second, .unset, .unset] [(.int (own_parts p1 p2 p3))])) _
    refine XS.ifNo X0.here hx rfl (hb hby at_58) rfl ((if0 _ _).trans (feq h0).1) ?_
    show Steps p.tables e below (T0.setTop (mkF m 61 #[.val (.int p1), .val (.int p2), .val (.int p3), .val (.int gt), .val (.int (own_parts p1 p2 p3)), .val (.long (own_total p1 p2 p3)), .second, .unset, .unset] [])) _
    refine XS.lload X0.here hx rfl (hb hby at_61) rfl ?_
    show Steps p.tables e below (T0.setTop (mkF m 63 #[.val (.int p1), .val (.int p2), .val (.int p3), .val (.int gt), .val (.int (own_parts p1 p2 p3)), .val (.long (own_total p1 p2 p3)), .second, .unset, .unset] [(.long (own_total p1 p2 p3))])) _
    refine X0.ldc2Long hx hown (mvT hZ (hw _ (List.mem_of_getElem? (i := 6) rfl))) (g := (mkF m 63 #[.val (.int p1), .val (.int p2), .val (.int p3), .val (.int gt), .val (.int (own_parts p1 p2 p3)), .val (.long (own_total p1 p2 p3)), .second, .unset, .unset] [(.long (own_total p1 p2 p3))])) rfl (hb hby at_63) _ ?_
    show Steps p.tables e below (T0.setTop (mkF m 66 #[.val (.int p1), .val (.int p2), .val (.int p3), .val (.int gt), .val (.int (own_parts p1 p2 p3)), .val (.long (own_total p1 p2 p3)), .second, .unset, .unset] [(.long (86400 : Int64)), (.long (own_total p1 p2 p3))])) _
    refine XS.lcmp X0.here hx rfl (hb hby at_66) rfl ?_
    show Steps p.tables e below (T0.setTop (mkF m 67 #[.val (.int p1), .val (.int p2), .val (.int p3), .val (.int gt), .val (.int (own_parts p1 p2 p3)), .val (.long (own_total p1 p2 p3)), .second, .unset, .unset] [(.int (lcmpW (own_total p1 p2 p3) (86400 : Int64)))])) _
    refine XS.ifYes X0.here hx rfl (pc0 := 67) (pc' := 74) rfl (hb hby at_67) rfl ((if0 _ _).trans (flt h1).2.1) (by decide) (by decide) ?_
    show Steps p.tables e below (T0.setTop (mkF m 74 #[.val (.int p1), .val (.int p2), .val (.int p3), .val (.int gt), .val (.int (own_parts p1 p2 p3)), .val (.long (own_total p1 p2 p3)), .second, .unset, .unset] [])) _
    refine XS.iconst X0.here hx rfl (hb hby at_74) ?_
    show Steps p.tables e below (T0.setTop (mkF m 75 #[.val (.int p1), .val (.int p2), .val (.int p3), .val (.int gt), .val (.int (own_parts p1 p2 p3)), .val (.long (own_total p1 p2 p3)), .second, .unset, .unset] [(.int (0 : Int32))])) _
    refine XS.istore X0.here hx rfl (hb hby at_75) rfl (l' := #[.val (.int p1), .val (.int p2), .val (.int p3), .val (.int gt), .val (.int (own_parts p1 p2 p3)), .val (.long (own_total p1 p2 p3)), .second, .val (.int (0 : Int32)), .unset]) rfl ?_
    exact kt
  rw [show own_exp p1 p2 p3 = 1 from by rw [own_exp, if_neg h0, if_neg h1]] at kt
  show Steps p.tables e below (T0.setTop (mkF m 56 #[.val (.int p1), .val (.int p2), .val (.int p3), .val (.int gt), .val (.int (own_parts p1 p2 p3)), .val (.long (own_total p1 p2 p3)), .second, .unset, .unset] [])) _
  refine XS.iload X0.here hx rfl (hb hby at_56) rfl ?_
  show Steps p.tables e below (T0.setTop (mkF m 58 #[.val (.int p1), .val (.int p2), .val (.int p3), .val (.int gt), .val (.int (own_parts p1 p2 p3)), .val (.long (own_total p1 p2 p3)), .second, .unset, .unset] [(.int (own_parts p1 p2 p3))])) _
  refine XS.ifNo X0.here hx rfl (hb hby at_58) rfl ((if0 _ _).trans (feq h0).1) ?_
  show Steps p.tables e below (T0.setTop (mkF m 61 #[.val (.int p1), .val (.int p2), .val (.int p3), .val (.int gt), .val (.int (own_parts p1 p2 p3)), .val (.long (own_total p1 p2 p3)), .second, .unset, .unset] [])) _
  refine XS.lload X0.here hx rfl (hb hby at_61) rfl ?_
  show Steps p.tables e below (T0.setTop (mkF m 63 #[.val (.int p1), .val (.int p2), .val (.int p3), .val (.int gt), .val (.int (own_parts p1 p2 p3)), .val (.long (own_total p1 p2 p3)), .second, .unset, .unset] [(.long (own_total p1 p2 p3))])) _
  refine X0.ldc2Long hx hown (mvT hZ (hw _ (List.mem_of_getElem? (i := 6) rfl))) (g := (mkF m 63 #[.val (.int p1), .val (.int p2), .val (.int p3), .val (.int gt), .val (.int (own_parts p1 p2 p3)), .val (.long (own_total p1 p2 p3)), .second, .unset, .unset] [(.long (own_total p1 p2 p3))])) rfl (hb hby at_63) _ ?_
  show Steps p.tables e below (T0.setTop (mkF m 66 #[.val (.int p1), .val (.int p2), .val (.int p3), .val (.int gt), .val (.int (own_parts p1 p2 p3)), .val (.long (own_total p1 p2 p3)), .second, .unset, .unset] [(.long (86400 : Int64)), (.long (own_total p1 p2 p3))])) _
  refine XS.lcmp X0.here hx rfl (hb hby at_66) rfl ?_
  show Steps p.tables e below (T0.setTop (mkF m 67 #[.val (.int p1), .val (.int p2), .val (.int p3), .val (.int gt), .val (.int (own_parts p1 p2 p3)), .val (.long (own_total p1 p2 p3)), .second, .unset, .unset] [(.int (lcmpW (own_total p1 p2 p3) (86400 : Int64)))])) _
  refine XS.ifNo X0.here hx rfl (hb hby at_67) rfl ((if0 _ _).trans (tlt (Decidable.not_not.mp h1)).2.1) ?_
  show Steps p.tables e below (T0.setTop (mkF m 70 #[.val (.int p1), .val (.int p2), .val (.int p3), .val (.int gt), .val (.int (own_parts p1 p2 p3)), .val (.long (own_total p1 p2 p3)), .second, .unset, .unset] [])) _
  refine XS.iconst X0.here hx rfl (hb hby at_70) ?_
  show Steps p.tables e below (T0.setTop (mkF m 71 #[.val (.int p1), .val (.int p2), .val (.int p3), .val (.int gt), .val (.int (own_parts p1 p2 p3)), .val (.long (own_total p1 p2 p3)), .second, .unset, .unset] [(.int (1 : Int32))])) _
  refine XS.goto X0.here hx rfl (pc0 := 71) (pc' := 75) rfl (hb hby at_71) (by decide) (by decide) ?_
  show Steps p.tables e below (T0.setTop (mkF m 75 #[.val (.int p1), .val (.int p2), .val (.int p3), .val (.int gt), .val (.int (own_parts p1 p2 p3)), .val (.long (own_total p1 p2 p3)), .second, .unset, .unset] [(.int (1 : Int32))])) _
  refine XS.istore X0.here hx rfl (hb hby at_75) rfl (l' := #[.val (.int p1), .val (.int p2), .val (.int p3), .val (.int gt), .val (.int (own_parts p1 p2 p3)), .val (.long (own_total p1 p2 p3)), .second, .val (.int (1 : Int32)), .unset]) rfl ?_
  exact kt
/-! own: the numbers -/
theorem own_spec (a b c : Int32) : own_valid a b c = 0 ∨ (own_valid a b c = 1 ∧ 0 ≤ a.toInt ∧ a.toInt ≤ 23 ∧ 0 ≤ b.toInt ∧ b.toInt ≤ 59 ∧ 0 ≤ c.toInt ∧ c.toInt ≤ 59) := by
  have z0 : (0 : Int32).toInt = 0 := rfl
  have z23 : (23 : Int32).toInt = 23 := rfl
  have z59 : (59 : Int32).toInt = 59 := rfl
  unfold own_valid
  by_cases h0 : a < 0
  · rw [if_pos h0]; exact Or.inl rfl
  by_cases h1 : 23 < a
  · rw [if_neg h0, if_pos h1]; exact Or.inl rfl
  by_cases h2 : b < 0
  · rw [if_neg h0, if_neg h1, if_pos h2]; exact Or.inl rfl
  by_cases h3 : 59 < b
  · rw [if_neg h0, if_neg h1, if_neg h2, if_pos h3]; exact Or.inl rfl
  by_cases h4 : c < 0
  · rw [if_neg h0, if_neg h1, if_neg h2, if_neg h3, if_pos h4]; exact Or.inl rfl
  by_cases h5 : 59 < c
  · rw [if_neg h0, if_neg h1, if_neg h2, if_neg h3, if_neg h4, if_pos h5]; exact Or.inl rfl
  rw [if_neg h0, if_neg h1, if_neg h2, if_neg h3, if_neg h4, if_neg h5]
  rw [Int32.lt_iff_toInt_lt] at h0 h1 h2 h3 h4 h5
  exact Or.inr ⟨rfl, by omega, by omega, by omega, by omega, by omega, by omega⟩
theorem own_total_toInt (a b c : Int32) : (own_total a b c).toInt = a.toInt * 3600 + b.toInt * 60 + c.toInt := by
  have ra := rng32 a
  have rb := rng32 b
  have rc := rng32 c
  have e1 : (a.toInt64 * 3600).toInt = a.toInt * 3600 := by
    rw [Jvm.Kit.i64_mul (by rw [Jvm.Kit.i64_of_i32, show (3600 : Int64).toInt = 3600 from rfl]; omega) (by rw [Jvm.Kit.i64_of_i32, show (3600 : Int64).toInt = 3600 from rfl]; omega), Jvm.Kit.i64_of_i32]; rfl
  have e2 : (b.toInt64 * 60).toInt = b.toInt * 60 := by
    rw [Jvm.Kit.i64_mul (by rw [Jvm.Kit.i64_of_i32, show (60 : Int64).toInt = 60 from rfl]; omega) (by rw [Jvm.Kit.i64_of_i32, show (60 : Int64).toInt = 60 from rfl]; omega), Jvm.Kit.i64_of_i32]; rfl
  have e3 : (a.toInt64 * 3600 + b.toInt64 * 60).toInt = a.toInt * 3600 + b.toInt * 60 := by
    rw [Jvm.Kit.i64_add (by rw [e1, e2]; omega) (by rw [e1, e2]; omega), e1, e2]
  rw [own_total, Jvm.Kit.i64_add (by rw [e3, Jvm.Kit.i64_of_i32]; omega) (by rw [e3, Jvm.Kit.i64_of_i32]; omega), e3, Jvm.Kit.i64_of_i32]
theorem own_same (a b c : Int32) : own_valid a b c = own_exp a b c := by
  have z0 : (0 : Int32).toInt = 0 := rfl
  have z23 : (23 : Int32).toInt = 23 := rfl
  have z59 : (59 : Int32).toInt = 59 := rfl
  have z60 : (60 : Int32).toInt = 60 := rfl
  have tt := own_total_toInt a b c
  have z8 : (86400 : Int64).toInt = 86400 := rfl
  have hl : lcmpW (own_total a b c) 86400 < 0 ↔ (own_total a b c).toInt < 86400 := by rw [lw_lt, Int64.lt_iff_toInt_lt, z8]
  unfold own_exp own_parts own_valid
  simp only [hl, Int32.lt_iff_toInt_lt, z0, z23, z59, z60, tt]
  by_cases h0 : a.toInt < 0
  · simp [h0]
  by_cases h2 : b.toInt < 0
  · simp [h0, h2]
  by_cases h4 : c.toInt < 0
  · simp [h0, h2, h4]
  by_cases h3 : 59 < b.toInt
  · have : ¬ b.toInt < 60 := by omega
    simp [h0, h2, h4, h3, this]
  by_cases h5 : 59 < c.toInt
  · have : ¬ c.toInt < 60 := by omega
    simp [h0, h2, h4, h3, h5, this]
  have q1 : b.toInt < 60 := by omega
  have q2 : c.toInt < 60 := by omega
  by_cases h1 : 23 < a.toInt
  · have : ¬ a.toInt * 3600 + b.toInt * 60 + c.toInt < 86400 := by omega
    simp [h0, h1, h2, h4, h3, h5, q1, q2, this]
  · have : a.toInt * 3600 + b.toInt * 60 + c.toInt < 86400 := by omega
    simp [h0, h1, h2, h4, h3, h5, q1, q2, this]
theorem own_k1 {a b c : Int32} (h : ¬ own_valid a b c = 0) : ¬ a < (0 : Int32) := by
  rcases own_spec a b c with q | q
  · exact absurd q h
  · rw [Int32.lt_iff_toInt_lt, show (0 : Int32).toInt = 0 from rfl]; omega
theorem own_k2 {a b c : Int32} (h : ¬ own_valid a b c = 0) : ¬ b < (0 : Int32) := by
  rcases own_spec a b c with q | q
  · exact absurd q h
  · rw [Int32.lt_iff_toInt_lt, show (0 : Int32).toInt = 0 from rfl]; omega
theorem own_k3 {a b c : Int32} (h : ¬ own_valid a b c = 0) : ¬ c < (0 : Int32) := by
  rcases own_spec a b c with q | q
  · exact absurd q h
  · rw [Int32.lt_iff_toInt_lt, show (0 : Int32).toInt = 0 from rfl]; omega
theorem own_lin {p q : Int32} {k : Int} (hk : q.toInt = k) (h1 : -2 ^ 31 ≤ p.toInt * k) (h2 : p.toInt * k < 2 ^ 31) : (p * q).toInt = p.toInt * k := by
  subst hk; exact Jvm.Kit.i32_mul h1 h2
theorem own_back {a b c : Int32} (h : ¬ own_valid a b c = 0) : own_time (own_secs a b c) = a * (10000 : Int32) + b * (100 : Int32) + c := by
  rcases own_spec a b c with q | ⟨-, a0, a1, b0, b1, c0, c1⟩
  · exact absurd q h
  have m1 : (a * 3600).toInt = a.toInt * 3600 := own_lin rfl (by omega) (by omega)
  have m2 : (b * 60).toInt = b.toInt * 60 := own_lin rfl (by omega) (by omega)
  have s1 : (a * 3600 + b * 60).toInt = a.toInt * 3600 + b.toInt * 60 := by rw [Jvm.Kit.i32_add (by omega) (by omega), m1, m2]
  have hx : (own_secs a b c).toInt = a.toInt * 3600 + b.toInt * 60 + c.toInt := by rw [own_secs, Jvm.Kit.i32_add (by omega) (by omega), s1]
  generalize own_secs a b c = x at hx
  have d1 : (x / 3600).toInt = x.toInt / 3600 := by rw [Jvm.Kit.i32_div (by rintro ⟨u, v⟩; exact absurd v (by decide)), show (3600 : Int32).toInt = 3600 from rfl, Int.tdiv_eq_ediv_of_nonneg (by omega)]
  have d2 : (x / 60).toInt = x.toInt / 60 := by rw [Jvm.Kit.i32_div (by rintro ⟨u, v⟩; exact absurd v (by decide)), show (60 : Int32).toInt = 60 from rfl, Int.tdiv_eq_ediv_of_nonneg (by omega)]
  have r1 : (x - (x / 3600) * 3600).toInt = x.toInt % 3600 := by rw [rem_toInt, show (3600 : Int32).toInt = 3600 from rfl, Int.tmod_eq_emod_of_nonneg (by omega)]
  have r2 : (x - (x / 60) * 60).toInt = x.toInt % 60 := by rw [rem_toInt, show (60 : Int32).toInt = 60 from rfl, Int.tmod_eq_emod_of_nonneg (by omega)]
  have d3 : ((x - (x / 3600) * 3600) / 60).toInt = x.toInt % 3600 / 60 := by rw [Jvm.Kit.i32_div (by rintro ⟨u, v⟩; exact absurd v (by decide)), r1, show (60 : Int32).toInt = 60 from rfl, Int.tdiv_eq_ediv_of_nonneg (by omega)]
  have e1 : x.toInt / 3600 = a.toInt := by omega
  have e2 : x.toInt % 3600 / 60 = b.toInt := by omega
  have e3 : x.toInt % 60 = c.toInt := by omega
  have f1 : x / 3600 = a := Int32.toInt_inj.mp (d1.trans e1)
  have f2 : (x - (x / 3600) * 3600) / 60 = b := Int32.toInt_inj.mp (d3.trans e2)
  have f3 : x - (x / 60) * 60 = c := Int32.toInt_inj.mp (r2.trans e3)
  rw [own_time, f2, f3, f1]
theorem pd_x1 : parseMethodDescriptor "(III)I" = some ⟨[.int, .int, .int], some .int⟩ := by decide +kernel
theorem pd_x2 : parseMethodDescriptor "(I)I" = some ⟨[.int], some .int⟩ := by decide +kernel
-- 2. THE CONTRACT: what this body leaves is yours
def Q0 (Z : State) (p1 : Int32) (p2 : Int32) (p3 : Int32) (h0 : Heap) (n0 : Nat) (v : Option Value) (h : Heap) (L : List Loc) : Prop := v = some (.int (1 : Int32)) ∧ Fr n0 L
-- its room: frames: the greatest, locals: the greatest, cells 0 + .., slots 0 + ..: rm1: frames + 1; locals 0 + 3 + 11 + its room's locals; its cells and slots besides
set_option maxRecDepth 65536 in
set_option maxHeartbeats 40000000 in
theorem rm0 (l : Launch) (Z : State) (a0 : Array Value) (hw : ∀ d ∈ tables_1, d.before a0 Z = true) (ws : List Jvm.Cond) (p1 : Int32) (p2 : Int32) (p3 : Int32) (h0 : Heap) (n0 : Nat) (Z0 : n0 ≤ h0.size) :
    MetFree l x (head1 (Jvm.Cond.code x code maxLocals ret :: ws) room_1) (fun a U => a = #[(.int p1), (.int p2), (.int p3)] ∧ Z.Warmed39 U.vm ∧ U.heap = h0) (fun _ _ _ _ _ => True) (fun _ U o U' => ∃ v L, o = .returned v ∧ Q0 Z p1 p2 p3 h0 n0 v U'.heap L ∧ FrameEnd U o U' L room_1.cells room_1.slots) := by
  refine MetFree.of_bodySF (plainFor_of_name pn_0) hisR ?_
  intro p e s m args below meth c s₁ Bd hml0 hP hK
  obtain ⟨rfl, hZ, hh⟩ := hP
  have hx := Bd.exec
  have hby := Bd.bytes
  have hml : c.maxLocals = 9 := hml0
  have hown : s.vm.findClass "com/example/daymark/daymark/calendar/TwentyFourHourClockIsValidTimePinLaw" = some m.cls := findClass_of_methodNamed Bd.named
  have hnm := (name_of_methodNamed Bd.named Bd.method).1
  have X0 : Stand p l e room_1 s m #[(.int p1), (.int p2), (.int p3)] below meth c s₁ [] 0 0 := Stand.of_body Bd
  have e0 : s₁.heap = h0 := by rw [← hh, Bd.state]; rfl
  have N0 := Fr.nil n0
  have pre0 : ∀ t, Steps p.tables e below (s₁.setTop (mkF m 0 #[.val (.int p1), .val (.int p2), .val (.int p3), .unset, .unset, .unset, .unset, .unset, .unset] [])) t → Steps p.tables e below (s₁.setTop (entryFrame m #[(.int p1), (.int p2), (.int p3)] maxLocals)) t := fun t k => castTop (ef_0 m p1 p2 p3) k
  obtain ⟨_, _, ⟨T4, L4, k4, n4⟩, -, X4, ⟨Lc4, hQ4, l4, y4, z4⟩, st4⟩ := Jvm.LawKit.callS X0 hx (y := (⟨"com/example/daymark/daymark/calendar/TwentyFourHourClock", "isValidTime", "(III)Z"⟩ : MethodName)) hown (mvT hZ (hw _ (List.mem_of_getElem? (i := 0) rfl))) (mvT hZ (hw _ (List.mem_of_getElem? (i := 1) rfl))) (mvT hZ (hw _ (List.mem_of_getElem? (i := 2) rfl))) (mvT hZ (hw _ (List.mem_of_getElem? (i := 3) rfl))) (by decide) (backOf (W := 0) (rm1 l Z a0 hw [] p1 p2 p3 h0 n0 Z0 ) hZ (hw _ (List.mem_of_getElem? (i := 3) rfl)) (hw _ (List.mem_of_getElem? (i := 2) rfl)) (by decide) (by decide)) (g := (mkF m 3 #[.val (.int p1), .val (.int p2), .val (.int p3), .unset, .unset, .unset, .unset, .unset, .unset] [(.int p3), (.int p2), (.int p1)])) rfl (by rw [hml]; rfl) (argsL := [(.int p1), (.int p2), (.int p3)]) (rest := []) (lenOf pd_0_0 rfl) rfl (by show 2 * 0 + _ ≤ _; exact Nat.le_of_eq rfl) (hb hby at_3) (fun _ _ => ⟨rfl, e0, (by decide : 0 + 0 ≤ _), (by decide : 0 + 0 ≤ _)⟩)
  dsimp only [Pt.U, Pt.locs, Pt.cells, Pt.slots] at X4 l4 y4 z4 st4 hQ4
  subst l4 y4 z4
  obtain ⟨rfl, N4q, q4⟩ := hQ4
  have N4 := Fr.app N0 N4q
  by_cases hv : (own_valid p1 p2 p3) = (0 : Int32)
  · obtain ⟨fs, hr, hrun, hended, hW, hsame⟩ := X4.leave (v := some (.int (1 : Int32))) (fun h => by rw [Bd.returns] at h; cases h)
    refine ⟨_, _, pre0 _ ?_, hrun, hended, _, _, rfl, ?_, ⟨_, rfl⟩, hW, hsame.mono (by decide) (by decide)⟩
    · show Steps p.tables e below (s₁.setTop (mkF m 0 #[.val (.int p1), .val (.int p2), .val (.int p3), .unset, .unset, .unset, .unset, .unset, .unset] [])) _
      refine XS.iloadN X0.here hx rfl (hb hby at_0) rfl ?_
      show Steps p.tables e below (s₁.setTop (mkF m 1 #[.val (.int p1), .val (.int p2), .val (.int p3), .unset, .unset, .unset, .unset, .unset, .unset] [(.int p1)])) _
      refine XS.iloadN X0.here hx rfl (hb hby at_1) rfl ?_
      show Steps p.tables e below (s₁.setTop (mkF m 2 #[.val (.int p1), .val (.int p2), .val (.int p3), .unset, .unset, .unset, .unset, .unset, .unset] [(.int p2), (.int p1)])) _
      refine XS.iloadN X0.here hx rfl (hb hby at_2) rfl ?_
      show Steps p.tables e below (s₁.setTop (mkF m 3 #[.val (.int p1), .val (.int p2), .val (.int p3), .unset, .unset, .unset, .unset, .unset, .unset] [(.int p3), (.int p2), (.int p1)])) _
      refine st4 _ ?_
      show Steps p.tables e below (T4.setTop (mkF m 6 #[.val (.int p1), .val (.int p2), .val (.int p3), .unset, .unset, .unset, .unset, .unset, .unset] [(.int (own_valid p1 p2 p3))])) _
      refine XS.istoreN X4.here hx rfl (hb hby at_6) rfl (l' := #[.val (.int p1), .val (.int p2), .val (.int p3), .val (.int (own_valid p1 p2 p3)), .unset, .unset, .unset, .unset, .unset]) rfl ?_
      show Steps p.tables e below (T4.setTop (mkF m 7 #[.val (.int p1), .val (.int p2), .val (.int p3), .val (.int (own_valid p1 p2 p3)), .unset, .unset, .unset, .unset, .unset] [])) _
      refine own_seg7 (p1 := p1) (p2 := p2) (p3 := p3) (gt := (own_valid p1 p2 p3)) X4 hx hZ hw hby hown _ ?_
      show Steps p.tables e below (T4.setTop (mkF m 38 #[.val (.int p1), .val (.int p2), .val (.int p3), .val (.int (own_valid p1 p2 p3)), .val (.int (own_parts p1 p2 p3)), .unset, .unset, .unset, .unset] [])) _
      refine XS.iloadN X4.here hx rfl (hb hby at_38) rfl ?_
      show Steps p.tables e below (T4.setTop (mkF m 39 #[.val (.int p1), .val (.int p2), .val (.int p3), .val (.int (own_valid p1 p2 p3)), .val (.int (own_parts p1 p2 p3)), .unset, .unset, .unset, .unset] [(.int p1)])) _
      refine XS.i2l X4.here hx rfl (hb hby at_39) rfl ?_
      show Steps p.tables e below (T4.setTop (mkF m 40 #[.val (.int p1), .val (.int p2), .val (.int p3), .val (.int (own_valid p1 p2 p3)), .val (.int (own_parts p1 p2 p3)), .unset, .unset, .unset, .unset] [(.long (p1.toInt64))])) _
      refine X4.ldc2Long hx hown (mvT hZ (hw _ (List.mem_of_getElem? (i := 4) rfl))) (g := (mkF m 40 #[.val (.int p1), .val (.int p2), .val (.int p3), .val (.int (own_valid p1 p2 p3)), .val (.int (own_parts p1 p2 p3)), .unset, .unset, .unset, .unset] [(.long (p1.toInt64))])) rfl (hb hby at_40) _ ?_
      show Steps p.tables e below (T4.setTop (mkF m 43 #[.val (.int p1), .val (.int p2), .val (.int p3), .val (.int (own_valid p1 p2 p3)), .val (.int (own_parts p1 p2 p3)), .unset, .unset, .unset, .unset] [(.long (3600 : Int64)), (.long (p1.toInt64))])) _
      refine XS.lmul X4.here hx rfl (hb hby at_43) rfl ?_
      show Steps p.tables e below (T4.setTop (mkF m 44 #[.val (.int p1), .val (.int p2), .val (.int p3), .val (.int (own_valid p1 p2 p3)), .val (.int (own_parts p1 p2 p3)), .unset, .unset, .unset, .unset] [(.long ((p1.toInt64) * (3600 : Int64)))])) _
      refine XS.iloadN X4.here hx rfl (hb hby at_44) rfl ?_
      show Steps p.tables e below (T4.setTop (mkF m 45 #[.val (.int p1), .val (.int p2), .val (.int p3), .val (.int (own_valid p1 p2 p3)), .val (.int (own_parts p1 p2 p3)), .unset, .unset, .unset, .unset] [(.int p2), (.long ((p1.toInt64) * (3600 : Int64)))])) _
      refine XS.i2l X4.here hx rfl (hb hby at_45) rfl ?_
      show Steps p.tables e below (T4.setTop (mkF m 46 #[.val (.int p1), .val (.int p2), .val (.int p3), .val (.int (own_valid p1 p2 p3)), .val (.int (own_parts p1 p2 p3)), .unset, .unset, .unset, .unset] [(.long (p2.toInt64)), (.long ((p1.toInt64) * (3600 : Int64)))])) _
      refine X4.ldc2Long hx hown (mvT hZ (hw _ (List.mem_of_getElem? (i := 5) rfl))) (g := (mkF m 46 #[.val (.int p1), .val (.int p2), .val (.int p3), .val (.int (own_valid p1 p2 p3)), .val (.int (own_parts p1 p2 p3)), .unset, .unset, .unset, .unset] [(.long (p2.toInt64)), (.long ((p1.toInt64) * (3600 : Int64)))])) rfl (hb hby at_46) _ ?_
      show Steps p.tables e below (T4.setTop (mkF m 49 #[.val (.int p1), .val (.int p2), .val (.int p3), .val (.int (own_valid p1 p2 p3)), .val (.int (own_parts p1 p2 p3)), .unset, .unset, .unset, .unset] [(.long (60 : Int64)), (.long (p2.toInt64)), (.long ((p1.toInt64) * (3600 : Int64)))])) _
      refine XS.lmul X4.here hx rfl (hb hby at_49) rfl ?_
      show Steps p.tables e below (T4.setTop (mkF m 50 #[.val (.int p1), .val (.int p2), .val (.int p3), .val (.int (own_valid p1 p2 p3)), .val (.int (own_parts p1 p2 p3)), .unset, .unset, .unset, .unset] [(.long ((p2.toInt64) * (60 : Int64))), (.long ((p1.toInt64) * (3600 : Int64)))])) _
      refine XS.ladd X4.here hx rfl (hb hby at_50) rfl ?_
      show Steps p.tables e below (T4.setTop (mkF m 51 #[.val (.int p1), .val (.int p2), .val (.int p3), .val (.int (own_valid p1 p2 p3)), .val (.int (own_parts p1 p2 p3)), .unset, .unset, .unset, .unset] [(.long (((p1.toInt64) * (3600 : Int64)) + ((p2.toInt64) * (60 : Int64))))])) _
      refine XS.iloadN X4.here hx rfl (hb hby at_51) rfl ?_
      show Steps p.tables e below (T4.setTop (mkF m 52 #[.val (.int p1), .val (.int p2), .val (.int p3), .val (.int (own_valid p1 p2 p3)), .val (.int (own_parts p1 p2 p3)), .unset, .unset, .unset, .unset] [(.int p3), (.long (((p1.toInt64) * (3600 : Int64)) + ((p2.toInt64) * (60 : Int64))))])) _
      refine XS.i2l X4.here hx rfl (hb hby at_52) rfl ?_
      show Steps p.tables e below (T4.setTop (mkF m 53 #[.val (.int p1), .val (.int p2), .val (.int p3), .val (.int (own_valid p1 p2 p3)), .val (.int (own_parts p1 p2 p3)), .unset, .unset, .unset, .unset] [(.long (p3.toInt64)), (.long (((p1.toInt64) * (3600 : Int64)) + ((p2.toInt64) * (60 : Int64))))])) _
      refine XS.ladd X4.here hx rfl (hb hby at_53) rfl ?_
      show Steps p.tables e below (T4.setTop (mkF m 54 #[.val (.int p1), .val (.int p2), .val (.int p3), .val (.int (own_valid p1 p2 p3)), .val (.int (own_parts p1 p2 p3)), .unset, .unset, .unset, .unset] [(.long (own_total p1 p2 p3))])) _
      refine XS.lstore X4.here hx rfl (hb hby at_54) rfl (l' := #[.val (.int p1), .val (.int p2), .val (.int p3), .val (.int (own_valid p1 p2 p3)), .val (.int (own_parts p1 p2 p3)), .val (.long (own_total p1 p2 p3)), .second, .unset, .unset]) rfl ?_
      show Steps p.tables e below (T4.setTop (mkF m 56 #[.val (.int p1), .val (.int p2), .val (.int p3), .val (.int (own_valid p1 p2 p3)), .val (.int (own_parts p1 p2 p3)), .val (.long (own_total p1 p2 p3)), .second, .unset, .unset] [])) _
      refine own_seg56 (p1 := p1) (p2 := p2) (p3 := p3) (gt := (own_valid p1 p2 p3)) X4 hx hZ hw hby hown _ ?_
      show Steps p.tables e below (T4.setTop (mkF m 77 #[.val (.int p1), .val (.int p2), .val (.int p3), .val (.int (own_valid p1 p2 p3)), .val (.int (own_parts p1 p2 p3)), .val (.long (own_total p1 p2 p3)), .second, .val (.int (own_exp p1 p2 p3)), .unset] [])) _
      refine XS.iloadN X4.here hx rfl (hb hby at_77) rfl ?_
      show Steps p.tables e below (T4.setTop (mkF m 78 #[.val (.int p1), .val (.int p2), .val (.int p3), .val (.int (own_valid p1 p2 p3)), .val (.int (own_parts p1 p2 p3)), .val (.long (own_total p1 p2 p3)), .second, .val (.int (own_exp p1 p2 p3)), .unset] [(.int (own_valid p1 p2 p3))])) _
      refine XS.iload X4.here hx rfl (hb hby at_78) rfl ?_
      show Steps p.tables e below (T4.setTop (mkF m 80 #[.val (.int p1), .val (.int p2), .val (.int p3), .val (.int (own_valid p1 p2 p3)), .val (.int (own_parts p1 p2 p3)), .val (.long (own_total p1 p2 p3)), .second, .val (.int (own_exp p1 p2 p3)), .unset] [(.int (own_exp p1 p2 p3)), (.int (own_valid p1 p2 p3))])) _
      refine XS.icmpYes X4.here hx rfl (pc0 := 80) (pc' := 85) rfl (hb hby at_80) rfl (teq (own_same p1 p2 p3)).1 (by decide) (by decide) ?_
      show Steps p.tables e below (T4.setTop (mkF m 85 #[.val (.int p1), .val (.int p2), .val (.int p3), .val (.int (own_valid p1 p2 p3)), .val (.int (own_parts p1 p2 p3)), .val (.long (own_total p1 p2 p3)), .second, .val (.int (own_exp p1 p2 p3)), .unset] [])) _
      refine XS.iloadN X4.here hx rfl (hb hby at_85) rfl ?_
      show Steps p.tables e below (T4.setTop (mkF m 86 #[.val (.int p1), .val (.int p2), .val (.int p3), .val (.int (own_valid p1 p2 p3)), .val (.int (own_parts p1 p2 p3)), .val (.long (own_total p1 p2 p3)), .second, .val (.int (own_exp p1 p2 p3)), .unset] [(.int (own_valid p1 p2 p3))])) _
      refine XS.ifNo X4.here hx rfl (hb hby at_86) rfl ((if0 _ _).trans (teq hv).2) ?_
      show Steps p.tables e below (T4.setTop (mkF m 89 #[.val (.int p1), .val (.int p2), .val (.int p3), .val (.int (own_valid p1 p2 p3)), .val (.int (own_parts p1 p2 p3)), .val (.long (own_total p1 p2 p3)), .second, .val (.int (own_exp p1 p2 p3)), .unset] [])) _
      refine XS.iconst X4.here hx rfl (hb hby at_89) ?_
      show Steps p.tables e below (T4.setTop (mkF m 90 #[.val (.int p1), .val (.int p2), .val (.int p3), .val (.int (own_valid p1 p2 p3)), .val (.int (own_parts p1 p2 p3)), .val (.long (own_total p1 p2 p3)), .second, .val (.int (own_exp p1 p2 p3)), .unset] [(.int (1 : Int32))])) _
      exact retN X4 hx (t := .boolean) Bd.returns (by simp) (hb hby at_90) hr
    · show Q0 Z p1 p2 p3 h0 n0 _ T4.heap _
      exact ⟨rfl, N4⟩
  · obtain ⟨_, _, ⟨T5, L5, k5, n5⟩, -, X5, ⟨Lc5, hQ5, l5, y5, z5⟩, st5⟩ := Jvm.LawKit.callS X4 hx (y := (⟨"com/example/daymark/daymark/calendar/TwentyFourHourClock", "secondsSinceMidnight", "(III)I"⟩ : MethodName)) hown (mvT hZ (hw _ (List.mem_of_getElem? (i := 7) rfl))) (mvT hZ (hw _ (List.mem_of_getElem? (i := 8) rfl))) (mvT hZ (hw _ (List.mem_of_getElem? (i := 2) rfl))) (mvT hZ (hw _ (List.mem_of_getElem? (i := 9) rfl))) (by decide) (backOf (W := 0) (rm2 l Z a0 hw [] p1 p2 p3 h0 n0 Z0 (own_k1 hv) (own_k2 hv) (own_k3 hv)) hZ (hw _ (List.mem_of_getElem? (i := 9) rfl)) (hw _ (List.mem_of_getElem? (i := 2) rfl)) (by decide) (by decide)) (g := (mkF m 94 #[.val (.int p1), .val (.int p2), .val (.int p3), .val (.int (own_valid p1 p2 p3)), .val (.int (own_parts p1 p2 p3)), .val (.long (own_total p1 p2 p3)), .second, .val (.int (own_exp p1 p2 p3)), .unset] [(.int p3), (.int p2), (.int p1)])) rfl (by rw [hml]; rfl) (argsL := [(.int p1), (.int p2), (.int p3)]) (rest := []) (lenOf pd_x1 rfl) rfl (by show 2 * 0 + _ ≤ _; exact Nat.le_of_eq rfl) (hb hby at_94) (fun _ _ => ⟨rfl, q4, (by decide : 0 + 0 ≤ _), (by decide : 0 + 0 ≤ _)⟩)
    dsimp only [Pt.U, Pt.locs, Pt.cells, Pt.slots] at X5 l5 y5 z5 st5 hQ5
    subst l5 y5 z5
    obtain ⟨rfl, N5q, q5⟩ := hQ5
    have N5 := Fr.app N4 N5q
    obtain ⟨_, _, ⟨T6, L6, k6, n6⟩, -, X6, ⟨Lc6, hQ6, l6, y6, z6⟩, st6⟩ := Jvm.LawKit.callS X5 hx (y := (⟨"com/example/daymark/daymark/calendar/TwentyFourHourClock", "timeOfSeconds", "(I)I"⟩ : MethodName)) hown (mvT hZ (hw _ (List.mem_of_getElem? (i := 10) rfl))) (mvT hZ (hw _ (List.mem_of_getElem? (i := 11) rfl))) (mvT hZ (hw _ (List.mem_of_getElem? (i := 2) rfl))) (mvT hZ (hw _ (List.mem_of_getElem? (i := 12) rfl))) (by decide) (backOf (W := 0) (rm3 l Z a0 hw [] (own_secs p1 p2 p3) h0 n0 Z0 ) hZ (hw _ (List.mem_of_getElem? (i := 12) rfl)) (hw _ (List.mem_of_getElem? (i := 2) rfl)) (by decide) (by decide)) (g := (mkF m 101 #[.val (.int p1), .val (.int p2), .val (.int p3), .val (.int (own_valid p1 p2 p3)), .val (.int (own_parts p1 p2 p3)), .val (.long (own_total p1 p2 p3)), .second, .val (.int (own_exp p1 p2 p3)), .val (.int (own_secs p1 p2 p3))] [(.int (own_secs p1 p2 p3))])) rfl (by rw [hml]; rfl) (argsL := [(.int (own_secs p1 p2 p3))]) (rest := []) (lenOf pd_x2 rfl) rfl (by show 2 * 0 + _ ≤ _; exact Nat.le_of_eq rfl) (hb hby at_101) (fun _ _ => ⟨rfl, q5, (by decide : 0 + 0 ≤ _), (by decide : 0 + 0 ≤ _)⟩)
    dsimp only [Pt.U, Pt.locs, Pt.cells, Pt.slots] at X6 l6 y6 z6 st6 hQ6
    subst l6 y6 z6
    obtain ⟨rfl, N6q, q6⟩ := hQ6
    have N6 := Fr.app N5 N6q
    obtain ⟨fs, hr, hrun, hended, hW, hsame⟩ := X6.leave (v := some (.int (1 : Int32))) (fun h => by rw [Bd.returns] at h; cases h)
    refine ⟨_, _, pre0 _ ?_, hrun, hended, _, _, rfl, ?_, ⟨_, rfl⟩, hW, hsame.mono (by decide) (by decide)⟩
    · show Steps p.tables e below (s₁.setTop (mkF m 0 #[.val (.int p1), .val (.int p2), .val (.int p3), .unset, .unset, .unset, .unset, .unset, .unset] [])) _
      refine XS.iloadN X0.here hx rfl (hb hby at_0) rfl ?_
      show Steps p.tables e below (s₁.setTop (mkF m 1 #[.val (.int p1), .val (.int p2), .val (.int p3), .unset, .unset, .unset, .unset, .unset, .unset] [(.int p1)])) _
      refine XS.iloadN X0.here hx rfl (hb hby at_1) rfl ?_
      show Steps p.tables e below (s₁.setTop (mkF m 2 #[.val (.int p1), .val (.int p2), .val (.int p3), .unset, .unset, .unset, .unset, .unset, .unset] [(.int p2), (.int p1)])) _
      refine XS.iloadN X0.here hx rfl (hb hby at_2) rfl ?_
      show Steps p.tables e below (s₁.setTop (mkF m 3 #[.val (.int p1), .val (.int p2), .val (.int p3), .unset, .unset, .unset, .unset, .unset, .unset] [(.int p3), (.int p2), (.int p1)])) _
      refine st4 _ ?_
      show Steps p.tables e below (T4.setTop (mkF m 6 #[.val (.int p1), .val (.int p2), .val (.int p3), .unset, .unset, .unset, .unset, .unset, .unset] [(.int (own_valid p1 p2 p3))])) _
      refine XS.istoreN X4.here hx rfl (hb hby at_6) rfl (l' := #[.val (.int p1), .val (.int p2), .val (.int p3), .val (.int (own_valid p1 p2 p3)), .unset, .unset, .unset, .unset, .unset]) rfl ?_
      show Steps p.tables e below (T4.setTop (mkF m 7 #[.val (.int p1), .val (.int p2), .val (.int p3), .val (.int (own_valid p1 p2 p3)), .unset, .unset, .unset, .unset, .unset] [])) _
      refine own_seg7 (p1 := p1) (p2 := p2) (p3 := p3) (gt := (own_valid p1 p2 p3)) X4 hx hZ hw hby hown _ ?_
      show Steps p.tables e below (T4.setTop (mkF m 38 #[.val (.int p1), .val (.int p2), .val (.int p3), .val (.int (own_valid p1 p2 p3)), .val (.int (own_parts p1 p2 p3)), .unset, .unset, .unset, .unset] [])) _
      refine XS.iloadN X4.here hx rfl (hb hby at_38) rfl ?_
      show Steps p.tables e below (T4.setTop (mkF m 39 #[.val (.int p1), .val (.int p2), .val (.int p3), .val (.int (own_valid p1 p2 p3)), .val (.int (own_parts p1 p2 p3)), .unset, .unset, .unset, .unset] [(.int p1)])) _
      refine XS.i2l X4.here hx rfl (hb hby at_39) rfl ?_
      show Steps p.tables e below (T4.setTop (mkF m 40 #[.val (.int p1), .val (.int p2), .val (.int p3), .val (.int (own_valid p1 p2 p3)), .val (.int (own_parts p1 p2 p3)), .unset, .unset, .unset, .unset] [(.long (p1.toInt64))])) _
      refine X4.ldc2Long hx hown (mvT hZ (hw _ (List.mem_of_getElem? (i := 4) rfl))) (g := (mkF m 40 #[.val (.int p1), .val (.int p2), .val (.int p3), .val (.int (own_valid p1 p2 p3)), .val (.int (own_parts p1 p2 p3)), .unset, .unset, .unset, .unset] [(.long (p1.toInt64))])) rfl (hb hby at_40) _ ?_
      show Steps p.tables e below (T4.setTop (mkF m 43 #[.val (.int p1), .val (.int p2), .val (.int p3), .val (.int (own_valid p1 p2 p3)), .val (.int (own_parts p1 p2 p3)), .unset, .unset, .unset, .unset] [(.long (3600 : Int64)), (.long (p1.toInt64))])) _
      refine XS.lmul X4.here hx rfl (hb hby at_43) rfl ?_
      show Steps p.tables e below (T4.setTop (mkF m 44 #[.val (.int p1), .val (.int p2), .val (.int p3), .val (.int (own_valid p1 p2 p3)), .val (.int (own_parts p1 p2 p3)), .unset, .unset, .unset, .unset] [(.long ((p1.toInt64) * (3600 : Int64)))])) _
      refine XS.iloadN X4.here hx rfl (hb hby at_44) rfl ?_
      show Steps p.tables e below (T4.setTop (mkF m 45 #[.val (.int p1), .val (.int p2), .val (.int p3), .val (.int (own_valid p1 p2 p3)), .val (.int (own_parts p1 p2 p3)), .unset, .unset, .unset, .unset] [(.int p2), (.long ((p1.toInt64) * (3600 : Int64)))])) _
      refine XS.i2l X4.here hx rfl (hb hby at_45) rfl ?_
      show Steps p.tables e below (T4.setTop (mkF m 46 #[.val (.int p1), .val (.int p2), .val (.int p3), .val (.int (own_valid p1 p2 p3)), .val (.int (own_parts p1 p2 p3)), .unset, .unset, .unset, .unset] [(.long (p2.toInt64)), (.long ((p1.toInt64) * (3600 : Int64)))])) _
      refine X4.ldc2Long hx hown (mvT hZ (hw _ (List.mem_of_getElem? (i := 5) rfl))) (g := (mkF m 46 #[.val (.int p1), .val (.int p2), .val (.int p3), .val (.int (own_valid p1 p2 p3)), .val (.int (own_parts p1 p2 p3)), .unset, .unset, .unset, .unset] [(.long (p2.toInt64)), (.long ((p1.toInt64) * (3600 : Int64)))])) rfl (hb hby at_46) _ ?_
      show Steps p.tables e below (T4.setTop (mkF m 49 #[.val (.int p1), .val (.int p2), .val (.int p3), .val (.int (own_valid p1 p2 p3)), .val (.int (own_parts p1 p2 p3)), .unset, .unset, .unset, .unset] [(.long (60 : Int64)), (.long (p2.toInt64)), (.long ((p1.toInt64) * (3600 : Int64)))])) _
      refine XS.lmul X4.here hx rfl (hb hby at_49) rfl ?_
      show Steps p.tables e below (T4.setTop (mkF m 50 #[.val (.int p1), .val (.int p2), .val (.int p3), .val (.int (own_valid p1 p2 p3)), .val (.int (own_parts p1 p2 p3)), .unset, .unset, .unset, .unset] [(.long ((p2.toInt64) * (60 : Int64))), (.long ((p1.toInt64) * (3600 : Int64)))])) _
      refine XS.ladd X4.here hx rfl (hb hby at_50) rfl ?_
      show Steps p.tables e below (T4.setTop (mkF m 51 #[.val (.int p1), .val (.int p2), .val (.int p3), .val (.int (own_valid p1 p2 p3)), .val (.int (own_parts p1 p2 p3)), .unset, .unset, .unset, .unset] [(.long (((p1.toInt64) * (3600 : Int64)) + ((p2.toInt64) * (60 : Int64))))])) _
      refine XS.iloadN X4.here hx rfl (hb hby at_51) rfl ?_
      show Steps p.tables e below (T4.setTop (mkF m 52 #[.val (.int p1), .val (.int p2), .val (.int p3), .val (.int (own_valid p1 p2 p3)), .val (.int (own_parts p1 p2 p3)), .unset, .unset, .unset, .unset] [(.int p3), (.long (((p1.toInt64) * (3600 : Int64)) + ((p2.toInt64) * (60 : Int64))))])) _
      refine XS.i2l X4.here hx rfl (hb hby at_52) rfl ?_
      show Steps p.tables e below (T4.setTop (mkF m 53 #[.val (.int p1), .val (.int p2), .val (.int p3), .val (.int (own_valid p1 p2 p3)), .val (.int (own_parts p1 p2 p3)), .unset, .unset, .unset, .unset] [(.long (p3.toInt64)), (.long (((p1.toInt64) * (3600 : Int64)) + ((p2.toInt64) * (60 : Int64))))])) _
      refine XS.ladd X4.here hx rfl (hb hby at_53) rfl ?_
      show Steps p.tables e below (T4.setTop (mkF m 54 #[.val (.int p1), .val (.int p2), .val (.int p3), .val (.int (own_valid p1 p2 p3)), .val (.int (own_parts p1 p2 p3)), .unset, .unset, .unset, .unset] [(.long (own_total p1 p2 p3))])) _
      refine XS.lstore X4.here hx rfl (hb hby at_54) rfl (l' := #[.val (.int p1), .val (.int p2), .val (.int p3), .val (.int (own_valid p1 p2 p3)), .val (.int (own_parts p1 p2 p3)), .val (.long (own_total p1 p2 p3)), .second, .unset, .unset]) rfl ?_
      show Steps p.tables e below (T4.setTop (mkF m 56 #[.val (.int p1), .val (.int p2), .val (.int p3), .val (.int (own_valid p1 p2 p3)), .val (.int (own_parts p1 p2 p3)), .val (.long (own_total p1 p2 p3)), .second, .unset, .unset] [])) _
      refine own_seg56 (p1 := p1) (p2 := p2) (p3 := p3) (gt := (own_valid p1 p2 p3)) X4 hx hZ hw hby hown _ ?_
      show Steps p.tables e below (T4.setTop (mkF m 77 #[.val (.int p1), .val (.int p2), .val (.int p3), .val (.int (own_valid p1 p2 p3)), .val (.int (own_parts p1 p2 p3)), .val (.long (own_total p1 p2 p3)), .second, .val (.int (own_exp p1 p2 p3)), .unset] [])) _
      refine XS.iloadN X4.here hx rfl (hb hby at_77) rfl ?_
      show Steps p.tables e below (T4.setTop (mkF m 78 #[.val (.int p1), .val (.int p2), .val (.int p3), .val (.int (own_valid p1 p2 p3)), .val (.int (own_parts p1 p2 p3)), .val (.long (own_total p1 p2 p3)), .second, .val (.int (own_exp p1 p2 p3)), .unset] [(.int (own_valid p1 p2 p3))])) _
      refine XS.iload X4.here hx rfl (hb hby at_78) rfl ?_
      show Steps p.tables e below (T4.setTop (mkF m 80 #[.val (.int p1), .val (.int p2), .val (.int p3), .val (.int (own_valid p1 p2 p3)), .val (.int (own_parts p1 p2 p3)), .val (.long (own_total p1 p2 p3)), .second, .val (.int (own_exp p1 p2 p3)), .unset] [(.int (own_exp p1 p2 p3)), (.int (own_valid p1 p2 p3))])) _
      refine XS.icmpYes X4.here hx rfl (pc0 := 80) (pc' := 85) rfl (hb hby at_80) rfl (teq (own_same p1 p2 p3)).1 (by decide) (by decide) ?_
      show Steps p.tables e below (T4.setTop (mkF m 85 #[.val (.int p1), .val (.int p2), .val (.int p3), .val (.int (own_valid p1 p2 p3)), .val (.int (own_parts p1 p2 p3)), .val (.long (own_total p1 p2 p3)), .second, .val (.int (own_exp p1 p2 p3)), .unset] [])) _
      refine XS.iloadN X4.here hx rfl (hb hby at_85) rfl ?_
      show Steps p.tables e below (T4.setTop (mkF m 86 #[.val (.int p1), .val (.int p2), .val (.int p3), .val (.int (own_valid p1 p2 p3)), .val (.int (own_parts p1 p2 p3)), .val (.long (own_total p1 p2 p3)), .second, .val (.int (own_exp p1 p2 p3)), .unset] [(.int (own_valid p1 p2 p3))])) _
      refine XS.ifYes X4.here hx rfl (pc0 := 86) (pc' := 91) rfl (hb hby at_86) rfl ((if0 _ _).trans (feq hv).2) (by decide) (by decide) ?_
      show Steps p.tables e below (T4.setTop (mkF m 91 #[.val (.int p1), .val (.int p2), .val (.int p3), .val (.int (own_valid p1 p2 p3)), .val (.int (own_parts p1 p2 p3)), .val (.long (own_total p1 p2 p3)), .second, .val (.int (own_exp p1 p2 p3)), .unset] [])) _
      refine XS.iloadN X4.here hx rfl (hb hby at_91) rfl ?_
      show Steps p.tables e below (T4.setTop (mkF m 92 #[.val (.int p1), .val (.int p2), .val (.int p3), .val (.int (own_valid p1 p2 p3)), .val (.int (own_parts p1 p2 p3)), .val (.long (own_total p1 p2 p3)), .second, .val (.int (own_exp p1 p2 p3)), .unset] [(.int p1)])) _
      refine XS.iloadN X4.here hx rfl (hb hby at_92) rfl ?_
      show Steps p.tables e below (T4.setTop (mkF m 93 #[.val (.int p1), .val (.int p2), .val (.int p3), .val (.int (own_valid p1 p2 p3)), .val (.int (own_parts p1 p2 p3)), .val (.long (own_total p1 p2 p3)), .second, .val (.int (own_exp p1 p2 p3)), .unset] [(.int p2), (.int p1)])) _
      refine XS.iloadN X4.here hx rfl (hb hby at_93) rfl ?_
      show Steps p.tables e below (T4.setTop (mkF m 94 #[.val (.int p1), .val (.int p2), .val (.int p3), .val (.int (own_valid p1 p2 p3)), .val (.int (own_parts p1 p2 p3)), .val (.long (own_total p1 p2 p3)), .second, .val (.int (own_exp p1 p2 p3)), .unset] [(.int p3), (.int p2), (.int p1)])) _
      refine st5 _ ?_
      show Steps p.tables e below (T5.setTop (mkF m 97 #[.val (.int p1), .val (.int p2), .val (.int p3), .val (.int (own_valid p1 p2 p3)), .val (.int (own_parts p1 p2 p3)), .val (.long (own_total p1 p2 p3)), .second, .val (.int (own_exp p1 p2 p3)), .unset] [(.int (own_secs p1 p2 p3))])) _
      refine XS.istore X5.here hx rfl (hb hby at_97) rfl (l' := #[.val (.int p1), .val (.int p2), .val (.int p3), .val (.int (own_valid p1 p2 p3)), .val (.int (own_parts p1 p2 p3)), .val (.long (own_total p1 p2 p3)), .second, .val (.int (own_exp p1 p2 p3)), .val (.int (own_secs p1 p2 p3))]) rfl ?_
      show Steps p.tables e below (T5.setTop (mkF m 99 #[.val (.int p1), .val (.int p2), .val (.int p3), .val (.int (own_valid p1 p2 p3)), .val (.int (own_parts p1 p2 p3)), .val (.long (own_total p1 p2 p3)), .second, .val (.int (own_exp p1 p2 p3)), .val (.int (own_secs p1 p2 p3))] [])) _
      refine XS.iload X5.here hx rfl (hb hby at_99) rfl ?_
      show Steps p.tables e below (T5.setTop (mkF m 101 #[.val (.int p1), .val (.int p2), .val (.int p3), .val (.int (own_valid p1 p2 p3)), .val (.int (own_parts p1 p2 p3)), .val (.long (own_total p1 p2 p3)), .second, .val (.int (own_exp p1 p2 p3)), .val (.int (own_secs p1 p2 p3))] [(.int (own_secs p1 p2 p3))])) _
      refine st6 _ ?_
      show Steps p.tables e below (T6.setTop (mkF m 104 #[.val (.int p1), .val (.int p2), .val (.int p3), .val (.int (own_valid p1 p2 p3)), .val (.int (own_parts p1 p2 p3)), .val (.long (own_total p1 p2 p3)), .second, .val (.int (own_exp p1 p2 p3)), .val (.int (own_secs p1 p2 p3))] [(.int (own_time (own_secs p1 p2 p3)))])) _
      refine XS.iloadN X6.here hx rfl (hb hby at_104) rfl ?_
      show Steps p.tables e below (T6.setTop (mkF m 105 #[.val (.int p1), .val (.int p2), .val (.int p3), .val (.int (own_valid p1 p2 p3)), .val (.int (own_parts p1 p2 p3)), .val (.long (own_total p1 p2 p3)), .second, .val (.int (own_exp p1 p2 p3)), .val (.int (own_secs p1 p2 p3))] [(.int p1), (.int (own_time (own_secs p1 p2 p3)))])) _
      refine XS.sipush X6.here hx rfl (hb hby at_105) ?_
      show Steps p.tables e below (T6.setTop (mkF m 108 #[.val (.int p1), .val (.int p2), .val (.int p3), .val (.int (own_valid p1 p2 p3)), .val (.int (own_parts p1 p2 p3)), .val (.long (own_total p1 p2 p3)), .second, .val (.int (own_exp p1 p2 p3)), .val (.int (own_secs p1 p2 p3))] [(.int (10000 : Int32)), (.int p1), (.int (own_time (own_secs p1 p2 p3)))])) _
      refine XS.imul X6.here hx rfl (hb hby at_108) rfl ?_
      show Steps p.tables e below (T6.setTop (mkF m 109 #[.val (.int p1), .val (.int p2), .val (.int p3), .val (.int (own_valid p1 p2 p3)), .val (.int (own_parts p1 p2 p3)), .val (.long (own_total p1 p2 p3)), .second, .val (.int (own_exp p1 p2 p3)), .val (.int (own_secs p1 p2 p3))] [(.int (p1 * (10000 : Int32))), (.int (own_time (own_secs p1 p2 p3)))])) _
      refine XS.iloadN X6.here hx rfl (hb hby at_109) rfl ?_
      show Steps p.tables e below (T6.setTop (mkF m 110 #[.val (.int p1), .val (.int p2), .val (.int p3), .val (.int (own_valid p1 p2 p3)), .val (.int (own_parts p1 p2 p3)), .val (.long (own_total p1 p2 p3)), .second, .val (.int (own_exp p1 p2 p3)), .val (.int (own_secs p1 p2 p3))] [(.int p2), (.int (p1 * (10000 : Int32))), (.int (own_time (own_secs p1 p2 p3)))])) _
      refine XS.bipush X6.here hx rfl (hb hby at_110) ?_
      show Steps p.tables e below (T6.setTop (mkF m 112 #[.val (.int p1), .val (.int p2), .val (.int p3), .val (.int (own_valid p1 p2 p3)), .val (.int (own_parts p1 p2 p3)), .val (.long (own_total p1 p2 p3)), .second, .val (.int (own_exp p1 p2 p3)), .val (.int (own_secs p1 p2 p3))] [(.int (100 : Int32)), (.int p2), (.int (p1 * (10000 : Int32))), (.int (own_time (own_secs p1 p2 p3)))])) _
      refine XS.imul X6.here hx rfl (hb hby at_112) rfl ?_
      show Steps p.tables e below (T6.setTop (mkF m 113 #[.val (.int p1), .val (.int p2), .val (.int p3), .val (.int (own_valid p1 p2 p3)), .val (.int (own_parts p1 p2 p3)), .val (.long (own_total p1 p2 p3)), .second, .val (.int (own_exp p1 p2 p3)), .val (.int (own_secs p1 p2 p3))] [(.int (p2 * (100 : Int32))), (.int (p1 * (10000 : Int32))), (.int (own_time (own_secs p1 p2 p3)))])) _
      refine XS.iadd X6.here hx rfl (hb hby at_113) rfl ?_
      show Steps p.tables e below (T6.setTop (mkF m 114 #[.val (.int p1), .val (.int p2), .val (.int p3), .val (.int (own_valid p1 p2 p3)), .val (.int (own_parts p1 p2 p3)), .val (.long (own_total p1 p2 p3)), .second, .val (.int (own_exp p1 p2 p3)), .val (.int (own_secs p1 p2 p3))] [(.int ((p1 * (10000 : Int32)) + (p2 * (100 : Int32)))), (.int (own_time (own_secs p1 p2 p3)))])) _
      refine XS.iloadN X6.here hx rfl (hb hby at_114) rfl ?_
      show Steps p.tables e below (T6.setTop (mkF m 115 #[.val (.int p1), .val (.int p2), .val (.int p3), .val (.int (own_valid p1 p2 p3)), .val (.int (own_parts p1 p2 p3)), .val (.long (own_total p1 p2 p3)), .second, .val (.int (own_exp p1 p2 p3)), .val (.int (own_secs p1 p2 p3))] [(.int p3), (.int ((p1 * (10000 : Int32)) + (p2 * (100 : Int32)))), (.int (own_time (own_secs p1 p2 p3)))])) _
      refine XS.iadd X6.here hx rfl (hb hby at_115) rfl ?_
      show Steps p.tables e below (T6.setTop (mkF m 116 #[.val (.int p1), .val (.int p2), .val (.int p3), .val (.int (own_valid p1 p2 p3)), .val (.int (own_parts p1 p2 p3)), .val (.long (own_total p1 p2 p3)), .second, .val (.int (own_exp p1 p2 p3)), .val (.int (own_secs p1 p2 p3))] [(.int (((p1 * (10000 : Int32)) + (p2 * (100 : Int32))) + p3)), (.int (own_time (own_secs p1 p2 p3)))])) _
      refine XS.icmpNo X6.here hx rfl (hb hby at_116) rfl (teq (own_back hv)).2 ?_
      show Steps p.tables e below (T6.setTop (mkF m 119 #[.val (.int p1), .val (.int p2), .val (.int p3), .val (.int (own_valid p1 p2 p3)), .val (.int (own_parts p1 p2 p3)), .val (.long (own_total p1 p2 p3)), .second, .val (.int (own_exp p1 p2 p3)), .val (.int (own_secs p1 p2 p3))] [])) _
      refine XS.iconst X6.here hx rfl (hb hby at_119) ?_
      show Steps p.tables e below (T6.setTop (mkF m 120 #[.val (.int p1), .val (.int p2), .val (.int p3), .val (.int (own_valid p1 p2 p3)), .val (.int (own_parts p1 p2 p3)), .val (.long (own_total p1 p2 p3)), .second, .val (.int (own_exp p1 p2 p3)), .val (.int (own_secs p1 p2 p3))] [(.int (1 : Int32))])) _
      refine XS.goto X6.here hx rfl (pc0 := 120) (pc' := 124) rfl (hb hby at_120) (by decide) (by decide) ?_
      show Steps p.tables e below (T6.setTop (mkF m 124 #[.val (.int p1), .val (.int p2), .val (.int p3), .val (.int (own_valid p1 p2 p3)), .val (.int (own_parts p1 p2 p3)), .val (.long (own_total p1 p2 p3)), .second, .val (.int (own_exp p1 p2 p3)), .val (.int (own_secs p1 p2 p3))] [(.int (1 : Int32))])) _
      exact retN X6 hx (t := .boolean) Bd.returns (by simp) (hb hby at_124) hr
    · show Q0 Z p1 p2 p3 h0 n0 _ T6.heap _
      exact ⟨rfl, N6⟩
set_option maxRecDepth 65536 in
set_option maxHeartbeats 40000000 in
theorem comes_1 {Post : Tables → Env → Array Value → State → Outcome → State → Prop} (hpost : ∀ tb e args s v u, (limb_1_1.after args s (.returned v) u = true ∧ limb_1_2.after args s (.returned v) u = true ∧ True) → FrameEnd s (.returned v) u (Jvm.fieldLocs frame_1_writes args s ++ Jvm.arrayLocs frame_1_arrays args s ++ Jvm.staticLocs frame_1_statics s) 0 0 → Post tb e args s (.returned v) u) :
    ArmFor flags0 classFile x code maxLocals ret World_1 tables_1 room_1 Calls_1 rest_1 Pre_1 Post := by
  intro l hfl _ _ p e ha hc hk s m args below hf hA hF happ hP
  obtain ⟨hcalls, hrest, hpre⟩ := hP
  obtain ⟨-, -, -, hnamed, -, -, -, hat⟩ := (Spec.applies_iff hf).mp happ
  obtain ⟨hg, hn⟩ := and_e (Cond.before_iff.mp (show (Jvm.Cond.and given_1 narrow_1).before args s = true from hpre))
  obtain ⟨g1, k1⟩ := and_e hg
  obtain ⟨g2, k2⟩ := and_e k1
  obtain ⟨g3, g4⟩ := and_e k2
  obtain ⟨w0, w1, w2, rfl⟩ : ∃ w0 w1 w2 : Value, args = #[w0, w1, w2] := by
    have hs : args.size = 3 := by simpa [Cond.value, given_1] using g1
    obtain ⟨L⟩ := args
    match L, hs with
    | [w0, w1, w2], _ => exact ⟨w0, w1, w2, rfl⟩
  have hw := fun d (hd : d ∈ tables_1) => atoms_spec (ws := Jvm.Cond.code x code maxLocals ret :: tables_1) hat d (List.mem_cons_of_mem _ hd)
  have hfit : Fit s := fun {y c} hc i hi => by
    obtain ⟨ha, rfl⟩ := Array.getElem?_eq_some_iff.mp hc
    have q := List.all_eq_true.mp ((Array.all_eq_true_iff_forall_mem.mp hF) _ (Array.getElem_mem ha)) i (List.mem_range.mpr hi)
    simpa [Array.getElem?_eq_getElem hi] using q
  obtain ⟨i0, ei0⟩ := is_v g2
  obtain rfl : w0 = (.int i0) := Option.some.inj ei0
  obtain ⟨i1, ei1⟩ := is_v g3
  obtain rfl : w1 = (.int i1) := Option.some.inj ei1
  obtain ⟨i2, ei2⟩ := is_v g4
  obtain rfl : w2 = (.int i2) := Option.some.inj ei2
  obtain ⟨n, o, h1, h2, h3, _, L, rfl, ⟨rfl, N⟩, hq⟩ := rm0 l s _ hw tables_1 i0 i1 i2 s.heap s.heap.size (Nat.le_refl _) p e ha hc hk s m _ below hf ((Spec.applies_iff_loose hf).mp happ).1 ⟨rfl, State.Warmed39.refl s, rfl⟩ trivial
  refine ⟨n, _, h1, h2, h3, hpost _ _ _ _ _ _ ⟨Cond.after_iff.mpr rfl, Cond.after_iff.mpr (eq_i res_at (Term.int_eval (1)) rfl), trivial⟩ ⟨hq.1, hq.2.1, (hq.2.2.sift fun y hy => Or.inr (N y hy)).mono (by decide) (by decide)⟩⟩
theorem main_1_1 : Claimed_1_1 := comes_1 fun _ _ _ _ _ _ h hF => ⟨h.1, hF⟩
theorem main_1_2 : Claimed_1_2 := comes_1 fun _ _ _ _ _ _ h hF => ⟨h.2.1, hF⟩
end Jvm.Pilot.@@N@@
namespace Jvm.Pilot.@@N@@
open Jvm Jvm.ClassFile Sem Op Lib Jvm.Free Jvm.Stand Jvm.Pilot.@@N@@.Jvm.D
/-! MADE BY PROGRAM (witnessworld.py) out of the Statement's table words and the real class files: 9 classes; the members and pool entries that the words name. The judged class is class 1, her method 1. -/
namespace start1
open Jvm.ClassFile
def u (s : String) : CpInfo := .utf8 (stringToUtf16 s)
/-- a pool by its gaps: so many unusable entries, then the entry; so many at the end -/
def gap : Nat → List CpInfo → List CpInfo
  | 0, r => r
  | n + 1, r => .unusable :: gap n r
def poolList (es : List (Nat × CpInfo)) (last : Nat) : List CpInfo := es.foldr (fun e r => gap e.1 (e.2 :: r)) (gap last [])
def pool (es : List (Nat × CpInfo)) (last : Nat) : Array CpInfo := ⟨poolList es last⟩
def fileOf (pool : Array CpInfo) (this : Nat) (attrs : Array Attribute := #[]) (ms : Array MethodInfo := #[]) (fl : Nat := 33) (sup : Nat := 0) (ifs : Array Nat := #[]) (fds : Array FieldInfo := #[]) : ClassFile where
  minorVersion := 0
  majorVersion := 65
  constantPool := pool
  accessFlags := fl
  thisClass := this
  superClass := sup
  interfaces := ifs
  fields := fds
  methods := ms
  attributes := attrs
def plain (name : String) (sup : Option ClassId) : Class where
  name := name
  kind := .ordinary
  loader := none
  accessFlags := 33
  super := sup
  interfaces := #[]
  cf := none
  fields := #[]
  methods := #[]
  instanceTypes := #[]
  staticTypes := #[]
  resolved := #[]
  callSites := []
  init := .initialized
  statics := none
  mirror := none

def pool0 : Array CpInfo := pool [(5, u "<init>"), (0, u "()V"), (1, .class_ 10), (1, u "java/lang/Object")] 113

def k0m0 : Method := { name := "<init>", desc := "()V", sig := { parameters := [], returnType := none }, accessFlags := 1, code := none }
/-- java/lang/Object -/
def k0 : Class := { plain "java/lang/Object" none with
  accessFlags := 33
  interfaces := #[]
  cf := some (fileOf pool0 8 #[] #[{ accessFlags := 1, nameIndex := 5, descriptorIndex := 6, attributes := #[] }] 33 0 #[] #[])
  fields := #[]
  methods := #[k0m0]
  instanceTypes := #[]
  staticTypes := #[]
  resolved := Array.replicate 124 none
  statics := none }

def pool1 : Array CpInfo := pool [(2, .class_ 4), (1, u "java/lang/Object"), (0, u "<init>"), (0, u "()V"), (0, .methodref 8 9), (0, .class_ 10), (0, .nameAndType 11 12), (0, u "com/example/daymark/daymark/calendar/TwentyFourHourClock"), (0, u "isValidTime"), (0, u "(III)Z"), (0, .long 3600), (1, .long 60), (1, .long 86400), (1, .methodref 8 20), (0, .nameAndType 21 22), (0, u "secondsSinceMidnight"), (0, u "(III)I"), (0, .methodref 8 24), (0, .nameAndType 25 26), (0, u "timeOfSeconds"), (0, u "(I)I"), (0, .class_ 28), (0, u "com/example/daymark/daymark/calendar/TwentyFourHourClockIsValidTimePinLaw"), (2, u "law")] 3

def k1m0 : Method := { name := "<init>", desc := "()V", sig := { parameters := [], returnType := none }, accessFlags := 2, code := none }
def k1c1 : Code := { maxStack := 6, maxLocals := 9, code := code, exceptionTable := #[], attributes := #[] }
def k1m1 : Method := { name := "law", desc := "(III)Z", sig := { parameters := [.int, .int, .int], returnType := some .boolean }, accessFlags := 9, code := some k1c1 }
/-- com/example/daymark/daymark/calendar/TwentyFourHourClockIsValidTimePinLaw -/
def k1 : Class := { plain "com/example/daymark/daymark/calendar/TwentyFourHourClockIsValidTimePinLaw" (some 0) with
  accessFlags := 49
  interfaces := #[]
  cf := some (fileOf pool1 27 #[] #[{ accessFlags := 2, nameIndex := 5, descriptorIndex := 6, attributes := #[] }, { accessFlags := 9, nameIndex := 31, descriptorIndex := 12, attributes := #[] }] 49 2 #[] #[])
  fields := #[]
  methods := #[k1m0, k1m1]
  instanceTypes := #[]
  staticTypes := #[]
  resolved := Array.replicate 35 none
  statics := none }

def pool2 : Array CpInfo := pool [(2, .class_ 4), (1, u "java/lang/Object"), (0, u "<init>"), (0, u "()V"), (0, .class_ 8), (0, u "com/example/daymark/daymark/calendar/TwentyFourHourClock"), (0, u "LAST_HOUR"), (0, u "I"), (2, u "LAST_MINUTE"), (1, u "LAST_SECOND"), (0, u "SECONDS_PER_DAY"), (1, u "SECONDS_PER_HOUR"), (1, u "SECONDS_PER_MINUTE"), (3, u "isValidTime"), (0, u "(III)Z"), (2, u "secondsSinceMidnight"), (0, u "(III)I"), (0, u "timeOfSeconds"), (0, u "(I)I")] 2

def k2m0 : Method := { name := "<init>", desc := "()V", sig := { parameters := [], returnType := none }, accessFlags := 2, code := none }
def k2c1 : Code := { maxStack := 2, maxLocals := 3, code := prog_13_method_2_code, exceptionTable := #[], attributes := #[] }
def k2m1 : Method := { name := "isValidTime", desc := "(III)Z", sig := { parameters := [.int, .int, .int], returnType := some .boolean }, accessFlags := 9, code := some k2c1 }
def k2c2 : Code := { maxStack := 3, maxLocals := 3, code := prog_13_method_4_code, exceptionTable := #[], attributes := #[] }
def k2m2 : Method := { name := "secondsSinceMidnight", desc := "(III)I", sig := { parameters := [.int, .int, .int], returnType := some .int }, accessFlags := 9, code := some k2c2 }
def k2c3 : Code := { maxStack := 3, maxLocals := 4, code := prog_13_method_5_code, exceptionTable := #[], attributes := #[] }
def k2m3 : Method := { name := "timeOfSeconds", desc := "(I)I", sig := { parameters := [.int], returnType := some .int }, accessFlags := 9, code := some k2c3 }
/-- com/example/daymark/daymark/calendar/TwentyFourHourClock -/
def k2 : Class := { plain "com/example/daymark/daymark/calendar/TwentyFourHourClock" (some 0) with
  accessFlags := 49
  interfaces := #[]
  cf := some (fileOf pool2 7 #[] #[{ accessFlags := 2, nameIndex := 5, descriptorIndex := 6, attributes := #[] }, { accessFlags := 9, nameIndex := 24, descriptorIndex := 25, attributes := #[] }, { accessFlags := 9, nameIndex := 28, descriptorIndex := 29, attributes := #[] }, { accessFlags := 9, nameIndex := 30, descriptorIndex := 31, attributes := #[] }] 49 2 #[] #[{ accessFlags := 26, nameIndex := 9, descriptorIndex := 10, attributes := #[] }, { accessFlags := 26, nameIndex := 13, descriptorIndex := 10, attributes := #[] }, { accessFlags := 26, nameIndex := 15, descriptorIndex := 10, attributes := #[] }, { accessFlags := 25, nameIndex := 16, descriptorIndex := 10, attributes := #[] }, { accessFlags := 25, nameIndex := 18, descriptorIndex := 10, attributes := #[] }, { accessFlags := 25, nameIndex := 20, descriptorIndex := 10, attributes := #[] }])
  fields := #[{ name := "LAST_HOUR", type := .int, accessFlags := 26, slot := 0, constantValue := 0 }, { name := "LAST_MINUTE", type := .int, accessFlags := 26, slot := 1, constantValue := 0 }, { name := "LAST_SECOND", type := .int, accessFlags := 26, slot := 2, constantValue := 0 }, { name := "SECONDS_PER_DAY", type := .int, accessFlags := 25, slot := 3, constantValue := 0 }, { name := "SECONDS_PER_HOUR", type := .int, accessFlags := 25, slot := 4, constantValue := 0 }, { name := "SECONDS_PER_MINUTE", type := .int, accessFlags := 25, slot := 5, constantValue := 0 }]
  methods := #[k2m0, k2m1, k2m2, k2m3]
  instanceTypes := #[]
  staticTypes := #[.int, .int, .int, .int, .int, .int]
  resolved := Array.replicate 34 none
  statics := none }

def pool3 : Array CpInfo := pool [(1, u "java/lang/Cloneable"), (0, .class_ 1), (0, u "java/lang/Object"), (0, .class_ 3)] 3

/-- java/lang/Cloneable -/
def k3 : Class := { plain "java/lang/Cloneable" (some 0) with
  accessFlags := 1537
  interfaces := #[]
  cf := some (fileOf pool3 2 #[] #[] 1537 4 #[] #[])
  fields := #[]
  methods := #[]
  instanceTypes := #[]
  staticTypes := #[]
  resolved := Array.replicate 8 none
  statics := none }

def pool4 : Array CpInfo := pool [(1, u "java/io/Serializable"), (0, .class_ 1), (0, u "java/lang/Object"), (0, .class_ 3)] 3

/-- java/io/Serializable -/
def k4 : Class := { plain "java/io/Serializable" (some 0) with
  accessFlags := 1537
  interfaces := #[]
  cf := some (fileOf pool4 2 #[] #[] 1537 4 #[] #[])
  fields := #[]
  methods := #[]
  instanceTypes := #[]
  staticTypes := #[]
  resolved := Array.replicate 8 none
  statics := none }

/-- the primitive byte -/
def k5 : Class := { plain "byte" none with kind := .primitive 'B', accessFlags := 0x411 }
/-- [B -/
def k6 : Class := { plain "[B" (some 0) with kind := .array 5 .byte, interfaces := #[3, 4], accessFlags := 1041 }

/-- the primitive int -/
def k7 : Class := { plain "int" none with kind := .primitive 'I', accessFlags := 0x411 }
/-- [I -/
def k8 : Class := { plain "[I" (some 0) with kind := .array 7 .int, interfaces := #[3, 4], accessFlags := 1041 }

def heap : Heap := #[]
def classes : Array Class := #[k0, k1, k2, k3, k4, k5, k6, k7, k8]
def interned : List (Array UInt16 × Addr) := []
def slotsUsed : Nat := 0
def theMethod : MethodId := ⟨1, 1⟩
def args0 : Array Value := #[.int 5, .int 6, .int 7]
def aboutOver (below : List Frame) : State where
  vm := { classes := classes, interned := interned.toArray }
  heap := heap
  slotsUsed := slotsUsed
  threads := #[{ frames := .invoking theMethod args0 :: below }]
def below0 : List Frame := [.native { method := ⟨0, 0⟩, args := #[] }]
def about1 : State := aboutOver below0
def p0 : Program := .bare "" "" ""
def e0 : Env := launch0.env 0 0 0
theorem w_frames : about1.frames = Frame.invoking theMethod args0 :: below0 := rfl
set_option maxRecDepth 65536 in
theorem w_args : argsFit about1.vm theMethod args0 = true := by decide +kernel
set_option maxRecDepth 65536 in
theorem w_heap : heapFits about1 = true := by decide +kernel
set_option maxRecDepth 65536 in
theorem w_runnable : about1.curStatus? = some .runnable := by decide +kernel
set_option maxRecDepth 65536 in
theorem w_alone : about1.alone = true := by decide +kernel
set_option maxRecDepth 65536 in
theorem w_named : about1.methodNamed? x = some theMethod := by decide +kernel
set_option maxRecDepth 65536 in
theorem w_hears : about1.hears theMethod below0 = true := by decide +kernel
set_option maxRecDepth 65536 in
theorem w_ripe : about1.ripe theMethod args0 below0 = true := by decide +kernel
theorem w_running : about1.status = .running := rfl
set_option maxRecDepth 65536 in
theorem w_room : about1.hasRoom e0.platform room_1 = true :=
  launch0.hasRoom_least _ room_1 (by decide +kernel) (by decide +kernel) (by decide +kernel) (by decide +kernel) (by decide +kernel) (by decide +kernel)
theorem allAtoms_all (ts : List Jvm.Cond) (a : Array Jvm.Value) (st : Jvm.State) : (allAtoms ts).before a st = ts.all (fun c => c.before a st) := by
  induction ts with
  | nil => rfl
  | cons c t ih =>
    show (Jvm.Cond.and c (allAtoms t)).before a st = _
    rw [Jvm.Cond.before_and, ih, List.all_cons]
def words1 : List Jvm.Cond := Jvm.Cond.code x code maxLocals ret :: tables_1
/-- a 'code' word, met by the world's own term for the bytes: nothing is compared byte by byte -/
theorem code_word {y : MethodName} {bytes : ByteArray} {mx : Nat} {rt : Option FieldType} {a : Array Value} {s : State} {m : MethodId} {meth : Method} {c : Code} (h1 : s.methodNamed? y = some m) (h2 : s.vm.method? m = some meth) (h3 : meth.code = some c) (h4 : c.code = bytes)
    (h5 : (c.maxLocals == mx && c.exceptionTable.isEmpty && decide (c.maxStack ≤ mostOperands) && decide (meth.sig.returnType = rt) && !meth.locks && decide (parseMethodDescriptor y.desc = some meth.sig)) = true) : (Jvm.Cond.code y bytes mx rt).before a s = true := by
  simp only [Bool.and_eq_true, beq_iff_eq, Bool.not_eq_true', decide_eq_true_eq] at h5
  obtain ⟨⟨⟨⟨⟨g1, g2⟩, g3⟩, g4⟩, g5⟩, g6⟩ := h5
  simp [Cond.before, Cond.holds, Cond.value, h1, h2, h3, h4, g1, g2, g3, g4, g5, g6]
def isCode : Jvm.Cond → Bool
  | .code _ _ _ _ => true
  | _ => false
theorem all_split {L : List Jvm.Cond} {P : Jvm.Cond → Bool} (h1 : L.all (fun c => isCode c || P c) = true) (h2 : ∀ c ∈ L.filter isCode, P c = true) : L.all P = true := by
  refine List.all_eq_true.mpr fun c hc => ?_
  have h := List.all_eq_true.mp h1 c hc
  rcases Bool.eq_false_or_eq_true (isCode c) with hi | hi
  · exact h2 c (List.mem_filter.mpr ⟨hc, hi⟩)
  · simpa [hi] using h
set_option maxRecDepth 65536 in
theorem w_c0 : (Jvm.Cond.code x code maxLocals ret).before args0 about1 = true := code_word (m := ⟨1, 1⟩) (meth := k1m1) (c := k1c1) (by decide +kernel) rfl rfl rfl (by decide +kernel)
set_option maxRecDepth 65536 in
theorem w_c1 : (Jvm.Cond.code ({ cls := "com/example/daymark/daymark/calendar/TwentyFourHourClock", name := "isValidTime", desc := "(III)Z" } : Jvm.MethodName) prog_13_method_2_code (3 : Nat) (Option.some Jvm.ClassFile.FieldType.boolean)).before args0 about1 = true := code_word (m := ⟨2, 1⟩) (meth := k2m1) (c := k2c1) (by decide +kernel) rfl rfl rfl (by decide +kernel)
set_option maxRecDepth 65536 in
theorem w_c2 : (Jvm.Cond.code ({ cls := "com/example/daymark/daymark/calendar/TwentyFourHourClock", name := "secondsSinceMidnight", desc := "(III)I" } : Jvm.MethodName) prog_13_method_4_code (3 : Nat) (Option.some Jvm.ClassFile.FieldType.int)).before args0 about1 = true := code_word (m := ⟨2, 2⟩) (meth := k2m2) (c := k2c2) (by decide +kernel) rfl rfl rfl (by decide +kernel)
set_option maxRecDepth 65536 in
theorem w_c3 : (Jvm.Cond.code ({ cls := "com/example/daymark/daymark/calendar/TwentyFourHourClock", name := "timeOfSeconds", desc := "(I)I" } : Jvm.MethodName) prog_13_method_5_code (4 : Nat) (Option.some Jvm.ClassFile.FieldType.int)).before args0 about1 = true := code_word (m := ⟨2, 3⟩) (meth := k2m3) (c := k2c3) (by decide +kernel) rfl rfl rfl (by decide +kernel)
def codes1 : List Jvm.Cond := [Jvm.Cond.code x code maxLocals ret, Jvm.Cond.code ({ cls := "com/example/daymark/daymark/calendar/TwentyFourHourClock", name := "isValidTime", desc := "(III)Z" } : Jvm.MethodName) prog_13_method_2_code (3 : Nat) (Option.some Jvm.ClassFile.FieldType.boolean), Jvm.Cond.code ({ cls := "com/example/daymark/daymark/calendar/TwentyFourHourClock", name := "secondsSinceMidnight", desc := "(III)I" } : Jvm.MethodName) prog_13_method_4_code (3 : Nat) (Option.some Jvm.ClassFile.FieldType.int), Jvm.Cond.code ({ cls := "com/example/daymark/daymark/calendar/TwentyFourHourClock", name := "timeOfSeconds", desc := "(I)I" } : Jvm.MethodName) prog_13_method_5_code (4 : Nat) (Option.some Jvm.ClassFile.FieldType.int)]
set_option maxRecDepth 65536 in
theorem codes_eq : words1.filter isCode = codes1 := rfl
theorem w_codes : ∀ c ∈ words1.filter isCode, c.before args0 about1 = true := by
  rw [codes_eq]
  intro c hc
  simp only [codes1, List.mem_cons, List.not_mem_nil, or_false] at hc
  rcases hc with rfl | rfl | rfl | rfl
  · exact w_c0
  · exact w_c1
  · exact w_c2
  · exact w_c3
set_option maxRecDepth 65536 in
theorem w_t1 : words1.all (fun c => isCode c || c.before args0 about1) = true := by decide +kernel
theorem w_tables : (allAtoms (Jvm.Cond.code x code maxLocals ret :: tables_1)).before args0 about1 = true := by
  rw [allAtoms_all]
  show words1.all (fun c => c.before args0 about1) = true
  refine all_split ?_ w_codes
  rw [w_t1]
set_option maxRecDepth 65536 in
theorem w_case : (Jvm.Cond.and given_1 narrow_1).before args0 about1 = true := by decide +kernel
theorem w_applies : (headSpec (Jvm.Cond.code x code maxLocals ret :: tables_1) room_1).applies x e0.platform about1 = true :=
  (Spec.applies_iff w_frames).mpr ⟨w_running, w_runnable, w_alone, w_named, w_hears, w_ripe, w_room, w_tables⟩
theorem atStart : AtStart classFile x code maxLocals ret World_1 tables_1 room_1 Calls_1 rest_1 Pre_1 launch0 p0 e0 about1 theMethod args0 below0 :=
  ⟨lists_1, trivial, launch0.admits_env _ _ _, launch0.least_env, fairChoices_fair.cas, fairChoices_fair.clock, w_frames, w_args, w_heap, w_applies, trivial, trivial, w_case⟩
end start1
theorem witness_1 : WitnessClaimed_1 := ⟨start1.p0, start1.e0, start1.about1, start1.theMethod, start1.args0, start1.below0, start1.atStart⟩
end Jvm.Pilot.@@N@@
