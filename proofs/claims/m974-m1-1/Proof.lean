import JvmDerived
import JvmDerived.Pilot.@@N@@Statement
import JvmDerived.Pilot.@@N@@Code
set_option linter.unusedVariables false
set_option linter.unusedSimpArgs false
namespace Jvm.RoadKit
open Sem ClassFile Op Lib Jvm.Stand Jvm.Free Jvm.LawKit
section New
variable {p : Program} {l : Launch} {e : Env} {R : Room} {s : State} {m : MethodId} {args : Array Value} {below : List Frame} {meth : Method} {c : Code} {T : State} {locs : List Loc} {cells slots : Nat}
theorem retI (X : Stand p l e R s m args below meth c T locs cells slots) (hx : p.tables.exec = Jvm.exec) {pc : Nat} {Ls : Array Slot} {z : Int32} {rest : List Value} (hret : meth.sig.returnType = some .int) (hd : decode c.code pc = .ok (.ireturn, 1)) {fs : List Frame}
    (hl : ∀ (f : JFrame) (acts : List Action), f.method = m → f.locked = none → f.entered = [] → (doReturn e (T.setTop f) acts (some (.int z))).1 = T.setFrames fs) : Steps p.tables e below (T.setTop (mkF m pc Ls (.int z :: rest))) (T.setFrames fs) := by
  have hm' : T.vm.method? m = some meth := X.method'
  have hn : narrow .int (.int z) = .int z := rfl
  show Steps p.tables e below (T.setTop { method := m, pc := pc, locals := Ls, stack := _ :: rest, locked := none }) _
  jvm_step X.here [X.here.top, hx, hd, hm', hret, hn]
  first | (intro acts; rw [hl _ acts rfl rfl rfl]) | rw [hl _ _ rfl rfl rfl]
  exact Steps.refl _
end New
end Jvm.RoadKit
@@BLOCK:NumsL.lean.txt@@
namespace Jvm.Pilot.@@N@@
open Jvm Jvm.ClassFile Sem Op Lib Jvm.Free Jvm.Stand Jvm.LawKit Jvm.RoadKit Bundle Jvm.Pilot.@@N@@.Jvm.D
/-! own: the mixing of a draw, by steps -/
def own_g : Int64 := -7046029254386353131
def own_m1 (w : Int64) : Int64 := (w ^^^ ((w.toUInt64 >>> ((30 : Int32) &&& 0x3f).toInt64.toUInt64).toInt64)) * (-4658895280553007687 : Int64)
def own_m2 (w : Int64) : Int64 := (w ^^^ ((w.toUInt64 >>> ((27 : Int32) &&& 0x3f).toInt64.toUInt64).toInt64)) * (-7723592293110705685 : Int64)
def own_m3 (w : Int64) : Int64 := w ^^^ ((w.toUInt64 >>> ((31 : Int32) &&& 0x3f).toInt64.toUInt64).toInt64)
def own_mix (w : Int64) : Int64 := own_m3 (own_m2 (own_m1 w))
theorem own_anchor : own_mix (0 + own_g) = (-2152535657050944081 : Int64) := by decide +kernel
-- 1. FACTS
theorem d1_0 : decode prog_30_method_1_code 0 = .ok (.aload_n 0, 1) := by decide +kernel
theorem d1_1 : decode prog_30_method_1_code 1 = .ok (.invokespecial 1, 3) := by decide +kernel
theorem d1_4 : decode prog_30_method_1_code 4 = .ok (.aload_n 0, 1) := by decide +kernel
theorem d1_5 : decode prog_30_method_1_code 5 = .ok (.lload_n 1, 1) := by decide +kernel
theorem d1_6 : decode prog_30_method_1_code 6 = .ok (.putfield 7, 3) := by decide +kernel
theorem d1_9 : decode prog_30_method_1_code 9 = .ok (.return_, 1) := by decide +kernel
theorem pn_1 : plainName "com/example/caudal/caudal/bench/RandomStream" = true := by first | (simp [plainName, overriddenIn]; done) | decide +kernel
theorem ef_1 (m : MethodId) (x0 : Addr) (x1 : Int64) : entryFrame m #[(.ref x0), (.long x1)] 3 = mkF m 0 #[.val (.ref x0), .val (.long x1), .second] [] := by first | (simp [entryFrame, mkF, argsToLocals, Value.category]; done) | rfl
-- 2. THE CONTRACT: what this body leaves is yours
def Q1 (Z : State) (a1 : Addr) (q2 : Int64) (u_state_a1 : Value) (h0 : Heap) (n0 : Nat) (v : Option Value) (h : Heap) (L : List Loc) : Prop := v = none ∧ Fr n0 L ∧ Keep h0 h [a1] ∧ Exa Z h a1 "com/example/caudal/caudal/bench/RandomStream" ∧ Fld Z h a1 "com/example/caudal/caudal/bench/RandomStream" "state" "J" (.long q2)
set_option maxRecDepth 65536 in
set_option maxHeartbeats 40000000 in
theorem rm1 (l : Launch) (Z : State) (a0 : Array Value) (hw : ∀ d ∈ tables_1, d.before a0 Z = true) (ws : List Jvm.Cond) (a1 : Addr) (q2 : Int64) (u_state_a1 : Value) (h0 : Heap) (n0 : Nat) (Z0 : n0 ≤ h0.size) (E_a1 : Exa Z h0 a1 "com/example/caudal/caudal/bench/RandomStream") (F_state_a1 : Fld Z h0 a1 "com/example/caudal/caudal/bench/RandomStream" "state" "J" u_state_a1) (g_a1 : n0 ≤ a1) :
    MetFree l (⟨"com/example/caudal/caudal/bench/RandomStream", "<init>", "(J)V"⟩ : MethodName) (head1 (Jvm.Cond.code (⟨"com/example/caudal/caudal/bench/RandomStream", "<init>", "(J)V"⟩ : MethodName) prog_30_method_1_code 3 none :: ws) ({ frames := 1, cells := 0, slots := 0, locals := 12 } : Room)) (fun a U => a = #[(.ref a1), (.long q2)] ∧ Z.Warmed39 U.vm ∧ U.heap = h0) (fun _ _ _ _ _ => True) (fun _ U o U' => ∃ v L, o = .returned v ∧ Q1 Z a1 q2 u_state_a1 h0 n0 v U'.heap L ∧ FrameEnd U o U' L ({ frames := 1, cells := 0, slots := 0, locals := 12 } : Room).cells ({ frames := 1, cells := 0, slots := 0, locals := 12 } : Room).slots) := by
  refine MetFree.of_bodySF (plainFor_of_name pn_1) hisR ?_
  intro p e s m args below meth c s₁ Bd hml0 hP hK
  obtain ⟨rfl, hZ, hh⟩ := hP
  have hx := Bd.exec
  have hby := Bd.bytes
  have hml : c.maxLocals = 3 := hml0
  have hown : s.vm.findClass "com/example/caudal/caudal/bench/RandomStream" = some m.cls := findClass_of_methodNamed Bd.named
  have hnm := (name_of_methodNamed Bd.named Bd.method).1
  have X0 : Stand p l e ({ frames := 1, cells := 0, slots := 0, locals := 12 } : Room) s m #[(.ref a1), (.long q2)] below meth c s₁ [] 0 0 := Stand.of_body Bd
  have e0 : s₁.heap = h0 := by rw [← hh, Bd.state]; rfl
  have N0 := Fr.nil n0
  have pre0 : ∀ t, Steps p.tables e below (s₁.setTop (mkF m 0 #[.val (.ref a1), .val (.long q2), .second] [])) t → Steps p.tables e below (s₁.setTop (entryFrame m #[(.ref a1), (.long q2)] 3)) t := fun t k => castTop (ef_1 m a1 q2) k
  -- 3. LAWS
  obtain ⟨T3, X3, e3, st3⟩ := initO X0 hx hZ hown (hw _ (List.mem_of_getElem? (i := 6) rfl)) (hw _ (List.mem_of_getElem? (i := 7) rfl)) (hw _ (List.mem_of_getElem? (i := 8) rfl)) e0 (g := (mkF m 1 #[.val (.ref a1), .val (.long q2), .second] [(.ref a1)])) rfl (by rw [hml]; rfl) rfl (hb hby d1_1) (by decide) (W := 0) (by show 2 * 0 + _ ≤ _; exact Nat.le_of_eq rfl) (by decide)
  obtain ⟨T4, h4, X4, e4, W4, st4⟩ := putF X3 hx hZ hown (host := "") (Or.inl (hw _ (List.mem_of_getElem? (i := 9) rfl))) Via.refl e3 F_state_a1 E_a1 (Or.inl (hw _ (List.mem_of_getElem? (i := 10) rfl))) (hw _ (List.mem_of_getElem? (i := 1) rfl)) (ty := .long) (by decide) rfl rfl (g := (mkF m 6 #[.val (.ref a1), .val (.long q2), .second] [(.long q2), (.ref a1)])) rfl rfl (hb hby d1_6)
  have Fw4 := F_state_a1.same W4      -- the field now holds (.long q2)
  have K4 : Keep h0 h4 [a1] := (Keep.refl h0 [a1]).wr W4 (Or.inl (List.mem_of_getElem? (i := 0) rfl))
  have N4 := Fr.snoc X4 N0 g_a1
  obtain ⟨fs, hr, hrun, hended, hW, hsame⟩ := X4.leave (v := none) (fun _ => rfl)
  refine ⟨_, _, pre0 _ ?_, hrun, hended, _, _, rfl, ?_, ⟨_, rfl⟩, hW, hsame.mono (by decide) (by decide)⟩
  -- 4. STEPS
  · show Steps p.tables e below (s₁.setTop (mkF m 0 #[.val (.ref a1), .val (.long q2), .second] [])) _
    refine XS.aloadN X0.here hx rfl (hb hby d1_0) rfl rfl ?_
    show Steps p.tables e below (s₁.setTop (mkF m 1 #[.val (.ref a1), .val (.long q2), .second] [(.ref a1)])) _
    refine st3 _ ?_
    show Steps p.tables e below (T3.setTop (mkF m 4 #[.val (.ref a1), .val (.long q2), .second] [])) _
    refine XS.aloadN X3.here hx rfl (hb hby d1_4) rfl rfl ?_
    show Steps p.tables e below (T3.setTop (mkF m 5 #[.val (.ref a1), .val (.long q2), .second] [(.ref a1)])) _
    refine XS.lloadN X3.here hx rfl (hb hby d1_5) rfl ?_
    show Steps p.tables e below (T3.setTop (mkF m 6 #[.val (.ref a1), .val (.long q2), .second] [(.long q2), (.ref a1)])) _
    refine st4 _ ?_
    show Steps p.tables e below (T4.setTop (mkF m 9 #[.val (.ref a1), .val (.long q2), .second] [])) _
    exact X4.returnOut hx Bd.returns (hb hby d1_9) hr
  · show Q1 Z a1 q2 u_state_a1 h0 n0 _ T4.heap _
    rw [e4]
    exact ⟨rfl, N4, K4, (E_a1.wr W4), Fw4⟩

-- 1. FACTS
theorem d3_0 : decode prog_30_method_2_code 0 = .ok (.aload_n 0, 1) := by decide +kernel
theorem d3_1 : decode prog_30_method_2_code 1 = .ok (.dup, 1) := by decide +kernel
theorem d3_2 : decode prog_30_method_2_code 2 = .ok (.getfield 7, 3) := by decide +kernel
theorem d3_5 : decode prog_30_method_2_code 5 = .ok (.ldc2_w 13, 3) := by decide +kernel
theorem d3_8 : decode prog_30_method_2_code 8 = .ok (.ladd, 1) := by decide +kernel
theorem d3_9 : decode prog_30_method_2_code 9 = .ok (.putfield 7, 3) := by decide +kernel
theorem d3_12 : decode prog_30_method_2_code 12 = .ok (.aload_n 0, 1) := by decide +kernel
theorem d3_13 : decode prog_30_method_2_code 13 = .ok (.getfield 7, 3) := by decide +kernel
theorem d3_16 : decode prog_30_method_2_code 16 = .ok (.lstore_n 1, 1) := by decide +kernel
theorem d3_17 : decode prog_30_method_2_code 17 = .ok (.lload_n 1, 1) := by decide +kernel
theorem d3_18 : decode prog_30_method_2_code 18 = .ok (.lload_n 1, 1) := by decide +kernel
theorem d3_19 : decode prog_30_method_2_code 19 = .ok (.bipush 30, 2) := by decide +kernel
theorem d3_21 : decode prog_30_method_2_code 21 = .ok (.lushr, 1) := by decide +kernel
theorem d3_22 : decode prog_30_method_2_code 22 = .ok (.lxor, 1) := by decide +kernel
theorem d3_23 : decode prog_30_method_2_code 23 = .ok (.ldc2_w 15, 3) := by decide +kernel
theorem d3_26 : decode prog_30_method_2_code 26 = .ok (.lmul, 1) := by decide +kernel
theorem d3_27 : decode prog_30_method_2_code 27 = .ok (.lstore_n 1, 1) := by decide +kernel
theorem d3_28 : decode prog_30_method_2_code 28 = .ok (.lload_n 1, 1) := by decide +kernel
theorem d3_29 : decode prog_30_method_2_code 29 = .ok (.lload_n 1, 1) := by decide +kernel
theorem d3_30 : decode prog_30_method_2_code 30 = .ok (.bipush 27, 2) := by decide +kernel
theorem d3_32 : decode prog_30_method_2_code 32 = .ok (.lushr, 1) := by decide +kernel
theorem d3_33 : decode prog_30_method_2_code 33 = .ok (.lxor, 1) := by decide +kernel
theorem d3_34 : decode prog_30_method_2_code 34 = .ok (.ldc2_w 17, 3) := by decide +kernel
theorem d3_37 : decode prog_30_method_2_code 37 = .ok (.lmul, 1) := by decide +kernel
theorem d3_38 : decode prog_30_method_2_code 38 = .ok (.lstore_n 1, 1) := by decide +kernel
theorem d3_39 : decode prog_30_method_2_code 39 = .ok (.lload_n 1, 1) := by decide +kernel
theorem d3_40 : decode prog_30_method_2_code 40 = .ok (.lload_n 1, 1) := by decide +kernel
theorem d3_41 : decode prog_30_method_2_code 41 = .ok (.bipush 31, 2) := by decide +kernel
theorem d3_43 : decode prog_30_method_2_code 43 = .ok (.lushr, 1) := by decide +kernel
theorem d3_44 : decode prog_30_method_2_code 44 = .ok (.lxor, 1) := by decide +kernel
theorem d3_45 : decode prog_30_method_2_code 45 = .ok (.lreturn, 1) := by decide +kernel
theorem pn_3 : plainName "com/example/caudal/caudal/bench/RandomStream" = true := by first | (simp [plainName, overriddenIn]; done) | decide +kernel
theorem ef_3 (m : MethodId) (x0 : Addr) : entryFrame m #[(.ref x0)] 3 = mkF m 0 #[.val (.ref x0), .unset, .unset] [] := by first | (simp [entryFrame, mkF, argsToLocals, Value.category]; done) | rfl
-- 2. THE CONTRACT: what this body leaves is yours
def Q3 (Z : State) (a1 : Addr) (w2 : Int64) (h0 : Heap) (n0 : Nat) (v : Option Value) (h : Heap) (L : List Loc) : Prop := v = some (.long (own_mix (w2 + (-7046029254386353131 : Int64)))) ∧ Fr n0 L ∧ Keep h0 h [a1] ∧ Exa Z h a1 "com/example/caudal/caudal/bench/RandomStream" ∧ Fld Z h a1 "com/example/caudal/caudal/bench/RandomStream" "state" "J" (.long (w2 + (-7046029254386353131 : Int64)))
set_option maxRecDepth 65536 in
set_option maxHeartbeats 40000000 in
theorem rm3 (l : Launch) (Z : State) (a0 : Array Value) (hw : ∀ d ∈ tables_1, d.before a0 Z = true) (ws : List Jvm.Cond) (a1 : Addr) (w2 : Int64) (h0 : Heap) (n0 : Nat) (Z0 : n0 ≤ h0.size) (F_state_a1 : Fld Z h0 a1 "com/example/caudal/caudal/bench/RandomStream" "state" "J" (.long w2)) (E_a1 : Exa Z h0 a1 "com/example/caudal/caudal/bench/RandomStream") (g_a1 : n0 ≤ a1) :
    MetFree l (⟨"com/example/caudal/caudal/bench/RandomStream", "nextLong", "()J"⟩ : MethodName) (head1 (Jvm.Cond.code (⟨"com/example/caudal/caudal/bench/RandomStream", "nextLong", "()J"⟩ : MethodName) prog_30_method_2_code 3 (some .long) :: ws) ({ frames := 0, cells := 0, slots := 0, locals := 0 } : Room)) (fun a U => a = #[(.ref a1)] ∧ Z.Warmed39 U.vm ∧ U.heap = h0) (fun _ _ _ _ _ => True) (fun _ U o U' => ∃ v L, o = .returned v ∧ Q3 Z a1 w2 h0 n0 v U'.heap L ∧ FrameEnd U o U' L ({ frames := 0, cells := 0, slots := 0, locals := 0 } : Room).cells ({ frames := 0, cells := 0, slots := 0, locals := 0 } : Room).slots) := by
  refine MetFree.of_bodySF (plainFor_of_name pn_3) hisR ?_
  intro p e s m args below meth c s₁ Bd hml0 hP hK
  obtain ⟨rfl, hZ, hh⟩ := hP
  have hx := Bd.exec
  have hby := Bd.bytes
  have hml : c.maxLocals = 3 := hml0
  have hown : s.vm.findClass "com/example/caudal/caudal/bench/RandomStream" = some m.cls := findClass_of_methodNamed Bd.named
  have hnm := (name_of_methodNamed Bd.named Bd.method).1
  have X0 : Stand p l e ({ frames := 0, cells := 0, slots := 0, locals := 0 } : Room) s m #[(.ref a1)] below meth c s₁ [] 0 0 := Stand.of_body Bd
  have e0 : s₁.heap = h0 := by rw [← hh, Bd.state]; rfl
  have N0 := Fr.nil n0
  have pre0 : ∀ t, Steps p.tables e below (s₁.setTop (mkF m 0 #[.val (.ref a1), .unset, .unset] [])) t → Steps p.tables e below (s₁.setTop (entryFrame m #[(.ref a1)] 3)) t := fun t k => castTop (ef_3 m a1) k
  -- 3. LAWS
  obtain ⟨T3, X3, e3, st3⟩ := getF X0 hx hZ hown (host := "") (Or.inl (hw _ (List.mem_of_getElem? (i := 9) rfl))) Via.refl e0 F_state_a1 (g := (mkF m 2 #[.val (.ref a1), .unset, .unset] [(.ref a1), (.ref a1)])) rfl rfl (hb hby d3_2)
  obtain ⟨T4, h4, X4, e4, W4, st4⟩ := putF X3 hx hZ hown (host := "") (Or.inl (hw _ (List.mem_of_getElem? (i := 9) rfl))) Via.refl e3 F_state_a1 E_a1 (Or.inl (hw _ (List.mem_of_getElem? (i := 10) rfl))) (hw _ (List.mem_of_getElem? (i := 1) rfl)) (ty := .long) (by decide) rfl rfl (g := (mkF m 9 #[.val (.ref a1), .unset, .unset] [(.long (w2 + (-7046029254386353131 : Int64))), (.ref a1)])) rfl rfl (hb hby d3_9)
  have Fw4 := F_state_a1.same W4      -- the field now holds (.long (w2 + (-7046029254386353131 : Int64)))
  have K4 : Keep h0 h4 [a1] := (Keep.refl h0 [a1]).wr W4 (Or.inl (List.mem_of_getElem? (i := 0) rfl))
  have N4 := Fr.snoc X4 N0 g_a1
  obtain ⟨T5, X5, e5, st5⟩ := getF X4 hx hZ hown (host := "") (Or.inl (hw _ (List.mem_of_getElem? (i := 9) rfl))) Via.refl e4 Fw4 (g := (mkF m 13 #[.val (.ref a1), .unset, .unset] [(.ref a1)])) rfl rfl (hb hby d3_13)
  obtain ⟨fs, hr, hrun, hended, hW, hsame⟩ := X5.leave (v := some (.long (own_mix (w2 + (-7046029254386353131 : Int64))))) (fun h => by rw [Bd.returns] at h; cases h)
  refine ⟨_, _, pre0 _ ?_, hrun, hended, _, _, rfl, ?_, ⟨_, rfl⟩, hW, hsame.mono (by decide) (by decide)⟩
  -- 4. STEPS
  · show Steps p.tables e below (s₁.setTop (mkF m 0 #[.val (.ref a1), .unset, .unset] [])) _
    refine XS.aloadN X0.here hx rfl (hb hby d3_0) rfl rfl ?_
    show Steps p.tables e below (s₁.setTop (mkF m 1 #[.val (.ref a1), .unset, .unset] [(.ref a1)])) _
    refine XS.dup X0.here hx rfl (hb hby d3_1) rfl rfl ?_
    show Steps p.tables e below (s₁.setTop (mkF m 2 #[.val (.ref a1), .unset, .unset] [(.ref a1), (.ref a1)])) _
    refine st3 _ ?_
    show Steps p.tables e below (T3.setTop (mkF m 5 #[.val (.ref a1), .unset, .unset] [(.long w2), (.ref a1)])) _
    refine X3.ldc2Long hx hown (mvT hZ (hw _ (List.mem_of_getElem? (i := 17) rfl))) (g := (mkF m 5 #[.val (.ref a1), .unset, .unset] [(.long w2), (.ref a1)])) rfl (hb hby d3_5) _ ?_
    show Steps p.tables e below (T3.setTop (mkF m 8 #[.val (.ref a1), .unset, .unset] [(.long (-7046029254386353131 : Int64)), (.long w2), (.ref a1)])) _
    refine XS.ladd X3.here hx rfl (hb hby d3_8) rfl ?_
    show Steps p.tables e below (T3.setTop (mkF m 9 #[.val (.ref a1), .unset, .unset] [(.long (w2 + (-7046029254386353131 : Int64))), (.ref a1)])) _
    refine st4 _ ?_
    show Steps p.tables e below (T4.setTop (mkF m 12 #[.val (.ref a1), .unset, .unset] [])) _
    refine XS.aloadN X4.here hx rfl (hb hby d3_12) rfl rfl ?_
    show Steps p.tables e below (T4.setTop (mkF m 13 #[.val (.ref a1), .unset, .unset] [(.ref a1)])) _
    refine st5 _ ?_
    show Steps p.tables e below (T5.setTop (mkF m 16 #[.val (.ref a1), .unset, .unset] [(.long (w2 + (-7046029254386353131 : Int64)))])) _
    refine XS.lstoreN X5.here hx rfl (hb hby d3_16) rfl (l' := #[.val (.ref a1), .val (.long (w2 + (-7046029254386353131 : Int64))), .second]) rfl ?_
    show Steps p.tables e below (T5.setTop (mkF m 17 #[.val (.ref a1), .val (.long (w2 + (-7046029254386353131 : Int64))), .second] [])) _
    refine XS.lloadN X5.here hx rfl (hb hby d3_17) rfl ?_
    show Steps p.tables e below (T5.setTop (mkF m 18 #[.val (.ref a1), .val (.long (w2 + (-7046029254386353131 : Int64))), .second] [(.long (w2 + (-7046029254386353131 : Int64)))])) _
    refine XS.lloadN X5.here hx rfl (hb hby d3_18) rfl ?_
    show Steps p.tables e below (T5.setTop (mkF m 19 #[.val (.ref a1), .val (.long (w2 + (-7046029254386353131 : Int64))), .second] [(.long (w2 + (-7046029254386353131 : Int64))), (.long (w2 + (-7046029254386353131 : Int64)))])) _
    refine XS.bipush X5.here hx rfl (hb hby d3_19) ?_
    show Steps p.tables e below (T5.setTop (mkF m 21 #[.val (.ref a1), .val (.long (w2 + (-7046029254386353131 : Int64))), .second] [(.int (30 : Int32)), (.long (w2 + (-7046029254386353131 : Int64))), (.long (w2 + (-7046029254386353131 : Int64)))])) _
    refine XS.lushr X5.here hx rfl (hb hby d3_21) rfl ?_
    show Steps p.tables e below (T5.setTop (mkF m 22 #[.val (.ref a1), .val (.long (w2 + (-7046029254386353131 : Int64))), .second] [(.long (((w2 + (-7046029254386353131 : Int64)).toUInt64 >>> ((30 : Int32) &&& 0x3f).toInt64.toUInt64).toInt64)), (.long (w2 + (-7046029254386353131 : Int64)))])) _
    refine XS.lxor X5.here hx rfl (hb hby d3_22) rfl ?_
    show Steps p.tables e below (T5.setTop (mkF m 23 #[.val (.ref a1), .val (.long (w2 + (-7046029254386353131 : Int64))), .second] [(.long ((w2 + (-7046029254386353131 : Int64)) ^^^ (((w2 + (-7046029254386353131 : Int64)).toUInt64 >>> ((30 : Int32) &&& 0x3f).toInt64.toUInt64).toInt64)))])) _
    refine X5.ldc2Long hx hown (mvT hZ (hw _ (List.mem_of_getElem? (i := 18) rfl))) (g := (mkF m 23 #[.val (.ref a1), .val (.long (w2 + (-7046029254386353131 : Int64))), .second] [(.long ((w2 + (-7046029254386353131 : Int64)) ^^^ (((w2 + (-7046029254386353131 : Int64)).toUInt64 >>> ((30 : Int32) &&& 0x3f).toInt64.toUInt64).toInt64)))])) rfl (hb hby d3_23) _ ?_
    show Steps p.tables e below (T5.setTop (mkF m 26 #[.val (.ref a1), .val (.long (w2 + (-7046029254386353131 : Int64))), .second] [(.long (-4658895280553007687 : Int64)), (.long ((w2 + (-7046029254386353131 : Int64)) ^^^ (((w2 + (-7046029254386353131 : Int64)).toUInt64 >>> ((30 : Int32) &&& 0x3f).toInt64.toUInt64).toInt64)))])) _
    refine XS.lmul X5.here hx rfl (hb hby d3_26) rfl ?_
    show Steps p.tables e below (T5.setTop (mkF m 27 #[.val (.ref a1), .val (.long (w2 + (-7046029254386353131 : Int64))), .second] [(.long (own_m1 (w2 + (-7046029254386353131 : Int64))))])) _
    refine XS.lstoreN X5.here hx rfl (hb hby d3_27) rfl (l' := #[.val (.ref a1), .val (.long (own_m1 (w2 + (-7046029254386353131 : Int64)))), .second]) rfl ?_
    show Steps p.tables e below (T5.setTop (mkF m 28 #[.val (.ref a1), .val (.long (own_m1 (w2 + (-7046029254386353131 : Int64)))), .second] [])) _
    refine XS.lloadN X5.here hx rfl (hb hby d3_28) rfl ?_
    show Steps p.tables e below (T5.setTop (mkF m 29 #[.val (.ref a1), .val (.long (own_m1 (w2 + (-7046029254386353131 : Int64)))), .second] [(.long (own_m1 (w2 + (-7046029254386353131 : Int64))))])) _
    refine XS.lloadN X5.here hx rfl (hb hby d3_29) rfl ?_
    show Steps p.tables e below (T5.setTop (mkF m 30 #[.val (.ref a1), .val (.long (own_m1 (w2 + (-7046029254386353131 : Int64)))), .second] [(.long (own_m1 (w2 + (-7046029254386353131 : Int64)))), (.long (own_m1 (w2 + (-7046029254386353131 : Int64))))])) _
    refine XS.bipush X5.here hx rfl (hb hby d3_30) ?_
    show Steps p.tables e below (T5.setTop (mkF m 32 #[.val (.ref a1), .val (.long (own_m1 (w2 + (-7046029254386353131 : Int64)))), .second] [(.int (27 : Int32)), (.long (own_m1 (w2 + (-7046029254386353131 : Int64)))), (.long (own_m1 (w2 + (-7046029254386353131 : Int64))))])) _
    refine XS.lushr X5.here hx rfl (hb hby d3_32) rfl ?_
    show Steps p.tables e below (T5.setTop (mkF m 33 #[.val (.ref a1), .val (.long (own_m1 (w2 + (-7046029254386353131 : Int64)))), .second] [(.long (((own_m1 (w2 + (-7046029254386353131 : Int64))).toUInt64 >>> ((27 : Int32) &&& 0x3f).toInt64.toUInt64).toInt64)), (.long (own_m1 (w2 + (-7046029254386353131 : Int64))))])) _
    refine XS.lxor X5.here hx rfl (hb hby d3_33) rfl ?_
    show Steps p.tables e below (T5.setTop (mkF m 34 #[.val (.ref a1), .val (.long (own_m1 (w2 + (-7046029254386353131 : Int64)))), .second] [(.long ((own_m1 (w2 + (-7046029254386353131 : Int64))) ^^^ (((own_m1 (w2 + (-7046029254386353131 : Int64))).toUInt64 >>> ((27 : Int32) &&& 0x3f).toInt64.toUInt64).toInt64)))])) _
    refine X5.ldc2Long hx hown (mvT hZ (hw _ (List.mem_of_getElem? (i := 19) rfl))) (g := (mkF m 34 #[.val (.ref a1), .val (.long (own_m1 (w2 + (-7046029254386353131 : Int64)))), .second] [(.long ((own_m1 (w2 + (-7046029254386353131 : Int64))) ^^^ (((own_m1 (w2 + (-7046029254386353131 : Int64))).toUInt64 >>> ((27 : Int32) &&& 0x3f).toInt64.toUInt64).toInt64)))])) rfl (hb hby d3_34) _ ?_
    show Steps p.tables e below (T5.setTop (mkF m 37 #[.val (.ref a1), .val (.long (own_m1 (w2 + (-7046029254386353131 : Int64)))), .second] [(.long (-7723592293110705685 : Int64)), (.long ((own_m1 (w2 + (-7046029254386353131 : Int64))) ^^^ (((own_m1 (w2 + (-7046029254386353131 : Int64))).toUInt64 >>> ((27 : Int32) &&& 0x3f).toInt64.toUInt64).toInt64)))])) _
    refine XS.lmul X5.here hx rfl (hb hby d3_37) rfl ?_
    show Steps p.tables e below (T5.setTop (mkF m 38 #[.val (.ref a1), .val (.long (own_m1 (w2 + (-7046029254386353131 : Int64)))), .second] [(.long (own_m2 (own_m1 (w2 + (-7046029254386353131 : Int64)))))])) _
    refine XS.lstoreN X5.here hx rfl (hb hby d3_38) rfl (l' := #[.val (.ref a1), .val (.long (own_m2 (own_m1 (w2 + (-7046029254386353131 : Int64))))), .second]) rfl ?_
    show Steps p.tables e below (T5.setTop (mkF m 39 #[.val (.ref a1), .val (.long (own_m2 (own_m1 (w2 + (-7046029254386353131 : Int64))))), .second] [])) _
    refine XS.lloadN X5.here hx rfl (hb hby d3_39) rfl ?_
    show Steps p.tables e below (T5.setTop (mkF m 40 #[.val (.ref a1), .val (.long (own_m2 (own_m1 (w2 + (-7046029254386353131 : Int64))))), .second] [(.long (own_m2 (own_m1 (w2 + (-7046029254386353131 : Int64)))))])) _
    refine XS.lloadN X5.here hx rfl (hb hby d3_40) rfl ?_
    show Steps p.tables e below (T5.setTop (mkF m 41 #[.val (.ref a1), .val (.long (own_m2 (own_m1 (w2 + (-7046029254386353131 : Int64))))), .second] [(.long (own_m2 (own_m1 (w2 + (-7046029254386353131 : Int64))))), (.long (own_m2 (own_m1 (w2 + (-7046029254386353131 : Int64)))))])) _
    refine XS.bipush X5.here hx rfl (hb hby d3_41) ?_
    show Steps p.tables e below (T5.setTop (mkF m 43 #[.val (.ref a1), .val (.long (own_m2 (own_m1 (w2 + (-7046029254386353131 : Int64))))), .second] [(.int (31 : Int32)), (.long (own_m2 (own_m1 (w2 + (-7046029254386353131 : Int64))))), (.long (own_m2 (own_m1 (w2 + (-7046029254386353131 : Int64)))))])) _
    refine XS.lushr X5.here hx rfl (hb hby d3_43) rfl ?_
    show Steps p.tables e below (T5.setTop (mkF m 44 #[.val (.ref a1), .val (.long (own_m2 (own_m1 (w2 + (-7046029254386353131 : Int64))))), .second] [(.long (((own_m2 (own_m1 (w2 + (-7046029254386353131 : Int64)))).toUInt64 >>> ((31 : Int32) &&& 0x3f).toInt64.toUInt64).toInt64)), (.long (own_m2 (own_m1 (w2 + (-7046029254386353131 : Int64)))))])) _
    refine XS.lxor X5.here hx rfl (hb hby d3_44) rfl ?_
    show Steps p.tables e below (T5.setTop (mkF m 45 #[.val (.ref a1), .val (.long (own_m2 (own_m1 (w2 + (-7046029254386353131 : Int64))))), .second] [(.long (own_mix (w2 + (-7046029254386353131 : Int64))))])) _
    jvm_step X5.here [X5.here.top, hx, (hb hby d3_45), X5.method', Bd.returns, narrow]
    first | (intro acts; rw [hr _ acts rfl rfl rfl]) | rw [hr _ _ rfl rfl rfl]
    exact Steps.refl _
  · show Q3 Z a1 w2 h0 n0 _ T5.heap _
    rw [e5]
    exact ⟨rfl, N4, K4, (E_a1.wr W4), Fw4⟩

/-! own: the three streams, what each holds -/
def own_F (Z : State) (h : Heap) (n0 : Nat) (b : Addr) (v : Int64) : Prop := Exa Z h b "com/example/caudal/caudal/bench/RandomStream" ∧ Fld Z h b "com/example/caudal/caudal/bench/RandomStream" "state" "J" (.long v) ∧ n0 ≤ b
theorem own_F.keep {Z : State} {h h' : Heap} {n0 : Nat} {b a : Addr} {v : Int64} (F : own_F Z h n0 b v) (K : Keep h h' [a]) (hne : b ≠ a) : own_F Z h' n0 b v := ⟨F.1.keep K, F.2.1.keep K (by simpa using hne), F.2.2⟩
theorem own_F.ext {Z : State} {h h' : Heap} {n0 : Nat} {b : Addr} {v : Int64} (F : own_F Z h n0 b v) (E : Ext h h') : own_F Z h' n0 b v := ⟨F.1.ext E, F.2.1.ext E, F.2.2⟩
theorem own_F.lt {Z : State} {h : Heap} {n0 : Nat} {b : Addr} {v : Int64} (F : own_F Z h n0 b v) : b < h.size := F.1.lt
theorem pn_0 : plainName "com/example/caudal/caudal/bench/RandomStreamNextLongPinLaw" = true := by first | (simp [plainName, overriddenIn]; done) | decide +kernel
theorem pd_0_0 : parseMethodDescriptor "(J)V" = some ⟨[.long], none⟩ := by decide +kernel
theorem pd_0_2 : parseMethodDescriptor "()J" = some ⟨[], some .long⟩ := by decide +kernel
theorem ef_0 (m : MethodId) (x0 : Int64) (x1 : Int32) : entryFrame m #[(.long x0), (.int x1)] maxLocals = mkF m 0 #[.val (.long x0), .second, .val (.int x1), .unset, .unset, .unset, .unset, .unset, .unset, .unset, .unset, .unset, .unset] [] := by first | (simp [entryFrame, mkF, argsToLocals, Value.category, maxLocals]; done) | rfl
set_option maxRecDepth 65536 in
set_option maxHeartbeats 40000000 in
theorem own_call1 {p : Program} {l : Launch} {e : Env} {s : State} {m : MethodId} {args : Array Value} {below : List Frame} {meth : Method} {c : Code} {T0 : State} {locs : List Loc} {Z : State} {a0 : Array Value} {n0 : Nat} {q1 : Int64} {p2 k : Int32} {b3 b5 b7 : Addr} {v3 v5 v7 : Int64}
    (X0 : Stand p l e room_1 s m args below meth c T0 locs 3 3) (hx : p.tables.exec = Jvm.exec) (hZ : Z.Warmed39 s.vm) (hw : ∀ d ∈ tables_1, d.before a0 Z = true) (hby : c.code = code) (hml : c.maxLocals = 13) (hown : s.vm.findClass "com/example/caudal/caudal/bench/RandomStreamNextLongPinLaw" = some m.cls)
    (N0 : Fr n0 locs) (Z0 : n0 ≤ T0.heap.size) (h35 : b5 ≠ b3) (h37 : b7 ≠ b3) (F3 : own_F Z T0.heap n0 b3 v3) (F5 : own_F Z T0.heap n0 b5 v5) (F7 : own_F Z T0.heap n0 b7 v7) :
    ∃ (T' : State) (locs' : List Loc), Stand p l e room_1 s m args below meth c T' locs' 3 3 ∧ Fr n0 locs' ∧ n0 ≤ T'.heap.size ∧ own_F Z T'.heap n0 b3 (if k < (1 : Int32) then v3 else v3 + own_g) ∧ own_F Z T'.heap n0 b5 v5 ∧ own_F Z T'.heap n0 b7 v7 ∧
      ∀ target, Steps p.tables e below (T'.setTop (mkF m 52 #[.val (.long q1), .second, .val (.int p2), .val (.int k), .val (.ref b3), .val (.ref b5), .val (.ref b7), .unset, .unset, .unset, .unset, .unset, .unset] [])) target → Steps p.tables e below (T0.setTop (mkF m 41 #[.val (.long q1), .second, .val (.int p2), .val (.int k), .val (.ref b3), .val (.ref b5), .val (.ref b7), .unset, .unset, .unset, .unset, .unset, .unset] [])) target := by
  by_cases hc : k < (1 : Int32)
  · refine ⟨T0, locs, X0, N0, Z0, by rw [if_pos hc]; exact F3, F5, F7, fun target kt => ?_⟩
    refine XS.iloadN X0.here hx rfl (hb hby at_41) rfl ?_
    refine XS.iconst X0.here hx rfl (hb hby at_42) ?_
    refine XS.icmpYes X0.here hx rfl (pc0 := 43) (pc' := 52) rfl (hb hby at_43) rfl (tlt hc).1 (by decide) (by decide) ?_
    exact kt
  · obtain ⟨cq3, kq3, q3a, q3b, q3c⟩ := isOf hZ rfl F3.1
    obtain ⟨_, _, ⟨T3, L3, k3, n3⟩, -, X3, ⟨Lc3, hQ3, l3, y3, z3⟩, st3⟩ := X0.virtualBack hx (y := (⟨"com/example/caudal/caudal/bench/RandomStream", "nextLong", "()J"⟩ : MethodName)) (z := (⟨"com/example/caudal/caudal/bench/RandomStream", "nextLong", "()J"⟩ : MethodName)) hown (mvT hZ (hw _ (List.mem_of_getElem? (i := 12) rfl))) (mvT hZ (hw _ (List.mem_of_getElem? (i := 13) rfl))) (notFace_of_selects (args := #[]) (mvT hZ (hw _ (List.mem_of_getElem? (i := 15) rfl)))) (mvT hZ (hw _ (List.mem_of_getElem? (i := 15) rfl))) (mvT hZ (hw _ (List.mem_of_getElem? (i := 14) rfl))) (by decide) (backOf (W := 0) (rm3 l Z a0 hw [] b3 v3 T0.heap n0 Z0 F3.2.1 F3.1 F3.2.2) hZ (hw _ (List.mem_of_getElem? (i := 16) rfl)) (hw _ (List.mem_of_getElem? (i := 2) rfl)) (by decide) (by decide)) q3a q3c (g := (mkF m 48 #[.val (.long q1), .second, .val (.int p2), .val (.int k), .val (.ref b3), .val (.ref b5), .val (.ref b7), .unset, .unset, .unset, .unset, .unset, .unset] [(.ref b3)])) rfl (by rw [hml]; rfl) (Steps.refl _) (argsL := []) (rest := []) (lenOf pd_0_2 rfl) rfl (by show 2 * 0 + _ ≤ _; exact Nat.le_of_eq rfl) (hb hby at_48) (fun _ _ => ⟨rfl, rfl, (by decide : 3 + 0 ≤ _), (by decide : 3 + 0 ≤ _)⟩)
    dsimp only [Pt.U, Pt.locs, Pt.cells, Pt.slots] at X3 l3 y3 z3 st3 hQ3
    subst l3 y3 z3
    obtain ⟨rfl, N3q, K3, E3, F3'⟩ := hQ3
    have N3 := Fr.app N0 N3q
    refine ⟨T3, _, X3, N3, Nat.le_trans Z0 K3.1, by rw [if_neg hc]; exact ⟨E3, F3', F3.2.2⟩, F5.keep K3 h35, F7.keep K3 h37, fun target kt => ?_⟩
    refine XS.iloadN X0.here hx rfl (hb hby at_41) rfl ?_
    refine XS.iconst X0.here hx rfl (hb hby at_42) ?_
    refine XS.icmpNo X0.here hx rfl (hb hby at_43) rfl (flt hc).1 ?_
    refine XS.aload X0.here hx rfl (hb hby at_46) rfl rfl ?_
    refine st3.trans ?_
    show Steps p.tables e below (T3.setTop (mkF m 51 #[.val (.long q1), .second, .val (.int p2), .val (.int k), .val (.ref b3), .val (.ref b5), .val (.ref b7), .unset, .unset, .unset, .unset, .unset, .unset] [(.long (own_mix (v3 + own_g)))])) _
    jvm_step X3.here [X3.here.top, hx, (hb hby at_51), Value.category]
    exact kt
set_option maxRecDepth 65536 in
set_option maxHeartbeats 40000000 in
theorem own_call2 {p : Program} {l : Launch} {e : Env} {s : State} {m : MethodId} {args : Array Value} {below : List Frame} {meth : Method} {c : Code} {T0 : State} {locs : List Loc} {Z : State} {a0 : Array Value} {n0 : Nat} {q1 : Int64} {p2 k : Int32} {b3 b5 b7 : Addr} {v3 v5 v7 : Int64}
    (X0 : Stand p l e room_1 s m args below meth c T0 locs 3 3) (hx : p.tables.exec = Jvm.exec) (hZ : Z.Warmed39 s.vm) (hw : ∀ d ∈ tables_1, d.before a0 Z = true) (hby : c.code = code) (hml : c.maxLocals = 13) (hown : s.vm.findClass "com/example/caudal/caudal/bench/RandomStreamNextLongPinLaw" = some m.cls)
    (N0 : Fr n0 locs) (Z0 : n0 ≤ T0.heap.size) (h35 : b5 ≠ b3) (h37 : b7 ≠ b3) (F3 : own_F Z T0.heap n0 b3 v3) (F5 : own_F Z T0.heap n0 b5 v5) (F7 : own_F Z T0.heap n0 b7 v7) :
    ∃ (T' : State) (locs' : List Loc), Stand p l e room_1 s m args below meth c T' locs' 3 3 ∧ Fr n0 locs' ∧ n0 ≤ T'.heap.size ∧ own_F Z T'.heap n0 b3 (if k < (2 : Int32) then v3 else v3 + own_g) ∧ own_F Z T'.heap n0 b5 v5 ∧ own_F Z T'.heap n0 b7 v7 ∧
      ∀ target, Steps p.tables e below (T'.setTop (mkF m 63 #[.val (.long q1), .second, .val (.int p2), .val (.int k), .val (.ref b3), .val (.ref b5), .val (.ref b7), .unset, .unset, .unset, .unset, .unset, .unset] [])) target → Steps p.tables e below (T0.setTop (mkF m 52 #[.val (.long q1), .second, .val (.int p2), .val (.int k), .val (.ref b3), .val (.ref b5), .val (.ref b7), .unset, .unset, .unset, .unset, .unset, .unset] [])) target := by
  by_cases hc : k < (2 : Int32)
  · refine ⟨T0, locs, X0, N0, Z0, by rw [if_pos hc]; exact F3, F5, F7, fun target kt => ?_⟩
    refine XS.iloadN X0.here hx rfl (hb hby at_52) rfl ?_
    refine XS.iconst X0.here hx rfl (hb hby at_53) ?_
    refine XS.icmpYes X0.here hx rfl (pc0 := 54) (pc' := 63) rfl (hb hby at_54) rfl (tlt hc).1 (by decide) (by decide) ?_
    exact kt
  · obtain ⟨cq3, kq3, q3a, q3b, q3c⟩ := isOf hZ rfl F3.1
    obtain ⟨_, _, ⟨T3, L3, k3, n3⟩, -, X3, ⟨Lc3, hQ3, l3, y3, z3⟩, st3⟩ := X0.virtualBack hx (y := (⟨"com/example/caudal/caudal/bench/RandomStream", "nextLong", "()J"⟩ : MethodName)) (z := (⟨"com/example/caudal/caudal/bench/RandomStream", "nextLong", "()J"⟩ : MethodName)) hown (mvT hZ (hw _ (List.mem_of_getElem? (i := 12) rfl))) (mvT hZ (hw _ (List.mem_of_getElem? (i := 13) rfl))) (notFace_of_selects (args := #[]) (mvT hZ (hw _ (List.mem_of_getElem? (i := 15) rfl)))) (mvT hZ (hw _ (List.mem_of_getElem? (i := 15) rfl))) (mvT hZ (hw _ (List.mem_of_getElem? (i := 14) rfl))) (by decide) (backOf (W := 0) (rm3 l Z a0 hw [] b3 v3 T0.heap n0 Z0 F3.2.1 F3.1 F3.2.2) hZ (hw _ (List.mem_of_getElem? (i := 16) rfl)) (hw _ (List.mem_of_getElem? (i := 2) rfl)) (by decide) (by decide)) q3a q3c (g := (mkF m 59 #[.val (.long q1), .second, .val (.int p2), .val (.int k), .val (.ref b3), .val (.ref b5), .val (.ref b7), .unset, .unset, .unset, .unset, .unset, .unset] [(.ref b3)])) rfl (by rw [hml]; rfl) (Steps.refl _) (argsL := []) (rest := []) (lenOf pd_0_2 rfl) rfl (by show 2 * 0 + _ ≤ _; exact Nat.le_of_eq rfl) (hb hby at_59) (fun _ _ => ⟨rfl, rfl, (by decide : 3 + 0 ≤ _), (by decide : 3 + 0 ≤ _)⟩)
    dsimp only [Pt.U, Pt.locs, Pt.cells, Pt.slots] at X3 l3 y3 z3 st3 hQ3
    subst l3 y3 z3
    obtain ⟨rfl, N3q, K3, E3, F3'⟩ := hQ3
    have N3 := Fr.app N0 N3q
    refine ⟨T3, _, X3, N3, Nat.le_trans Z0 K3.1, by rw [if_neg hc]; exact ⟨E3, F3', F3.2.2⟩, F5.keep K3 h35, F7.keep K3 h37, fun target kt => ?_⟩
    refine XS.iloadN X0.here hx rfl (hb hby at_52) rfl ?_
    refine XS.iconst X0.here hx rfl (hb hby at_53) ?_
    refine XS.icmpNo X0.here hx rfl (hb hby at_54) rfl (flt hc).1 ?_
    refine XS.aload X0.here hx rfl (hb hby at_57) rfl rfl ?_
    refine st3.trans ?_
    show Steps p.tables e below (T3.setTop (mkF m 62 #[.val (.long q1), .second, .val (.int p2), .val (.int k), .val (.ref b3), .val (.ref b5), .val (.ref b7), .unset, .unset, .unset, .unset, .unset, .unset] [(.long (own_mix (v3 + own_g)))])) _
    jvm_step X3.here [X3.here.top, hx, (hb hby at_62), Value.category]
    exact kt
set_option maxRecDepth 65536 in
set_option maxHeartbeats 40000000 in
theorem own_call3 {p : Program} {l : Launch} {e : Env} {s : State} {m : MethodId} {args : Array Value} {below : List Frame} {meth : Method} {c : Code} {T0 : State} {locs : List Loc} {Z : State} {a0 : Array Value} {n0 : Nat} {q1 : Int64} {p2 k : Int32} {b3 b5 b7 : Addr} {v3 v5 v7 : Int64}
    (X0 : Stand p l e room_1 s m args below meth c T0 locs 3 3) (hx : p.tables.exec = Jvm.exec) (hZ : Z.Warmed39 s.vm) (hw : ∀ d ∈ tables_1, d.before a0 Z = true) (hby : c.code = code) (hml : c.maxLocals = 13) (hown : s.vm.findClass "com/example/caudal/caudal/bench/RandomStreamNextLongPinLaw" = some m.cls)
    (N0 : Fr n0 locs) (Z0 : n0 ≤ T0.heap.size) (h35 : b5 ≠ b3) (h37 : b7 ≠ b3) (F3 : own_F Z T0.heap n0 b3 v3) (F5 : own_F Z T0.heap n0 b5 v5) (F7 : own_F Z T0.heap n0 b7 v7) :
    ∃ (T' : State) (locs' : List Loc), Stand p l e room_1 s m args below meth c T' locs' 3 3 ∧ Fr n0 locs' ∧ n0 ≤ T'.heap.size ∧ own_F Z T'.heap n0 b3 (if k < (3 : Int32) then v3 else v3 + own_g) ∧ own_F Z T'.heap n0 b5 v5 ∧ own_F Z T'.heap n0 b7 v7 ∧
      ∀ target, Steps p.tables e below (T'.setTop (mkF m 74 #[.val (.long q1), .second, .val (.int p2), .val (.int k), .val (.ref b3), .val (.ref b5), .val (.ref b7), .unset, .unset, .unset, .unset, .unset, .unset] [])) target → Steps p.tables e below (T0.setTop (mkF m 63 #[.val (.long q1), .second, .val (.int p2), .val (.int k), .val (.ref b3), .val (.ref b5), .val (.ref b7), .unset, .unset, .unset, .unset, .unset, .unset] [])) target := by
  by_cases hc : k < (3 : Int32)
  · refine ⟨T0, locs, X0, N0, Z0, by rw [if_pos hc]; exact F3, F5, F7, fun target kt => ?_⟩
    refine XS.iloadN X0.here hx rfl (hb hby at_63) rfl ?_
    refine XS.iconst X0.here hx rfl (hb hby at_64) ?_
    refine XS.icmpYes X0.here hx rfl (pc0 := 65) (pc' := 74) rfl (hb hby at_65) rfl (tlt hc).1 (by decide) (by decide) ?_
    exact kt
  · obtain ⟨cq3, kq3, q3a, q3b, q3c⟩ := isOf hZ rfl F3.1
    obtain ⟨_, _, ⟨T3, L3, k3, n3⟩, -, X3, ⟨Lc3, hQ3, l3, y3, z3⟩, st3⟩ := X0.virtualBack hx (y := (⟨"com/example/caudal/caudal/bench/RandomStream", "nextLong", "()J"⟩ : MethodName)) (z := (⟨"com/example/caudal/caudal/bench/RandomStream", "nextLong", "()J"⟩ : MethodName)) hown (mvT hZ (hw _ (List.mem_of_getElem? (i := 12) rfl))) (mvT hZ (hw _ (List.mem_of_getElem? (i := 13) rfl))) (notFace_of_selects (args := #[]) (mvT hZ (hw _ (List.mem_of_getElem? (i := 15) rfl)))) (mvT hZ (hw _ (List.mem_of_getElem? (i := 15) rfl))) (mvT hZ (hw _ (List.mem_of_getElem? (i := 14) rfl))) (by decide) (backOf (W := 0) (rm3 l Z a0 hw [] b3 v3 T0.heap n0 Z0 F3.2.1 F3.1 F3.2.2) hZ (hw _ (List.mem_of_getElem? (i := 16) rfl)) (hw _ (List.mem_of_getElem? (i := 2) rfl)) (by decide) (by decide)) q3a q3c (g := (mkF m 70 #[.val (.long q1), .second, .val (.int p2), .val (.int k), .val (.ref b3), .val (.ref b5), .val (.ref b7), .unset, .unset, .unset, .unset, .unset, .unset] [(.ref b3)])) rfl (by rw [hml]; rfl) (Steps.refl _) (argsL := []) (rest := []) (lenOf pd_0_2 rfl) rfl (by show 2 * 0 + _ ≤ _; exact Nat.le_of_eq rfl) (hb hby at_70) (fun _ _ => ⟨rfl, rfl, (by decide : 3 + 0 ≤ _), (by decide : 3 + 0 ≤ _)⟩)
    dsimp only [Pt.U, Pt.locs, Pt.cells, Pt.slots] at X3 l3 y3 z3 st3 hQ3
    subst l3 y3 z3
    obtain ⟨rfl, N3q, K3, E3, F3'⟩ := hQ3
    have N3 := Fr.app N0 N3q
    refine ⟨T3, _, X3, N3, Nat.le_trans Z0 K3.1, by rw [if_neg hc]; exact ⟨E3, F3', F3.2.2⟩, F5.keep K3 h35, F7.keep K3 h37, fun target kt => ?_⟩
    refine XS.iloadN X0.here hx rfl (hb hby at_63) rfl ?_
    refine XS.iconst X0.here hx rfl (hb hby at_64) ?_
    refine XS.icmpNo X0.here hx rfl (hb hby at_65) rfl (flt hc).1 ?_
    refine XS.aload X0.here hx rfl (hb hby at_68) rfl rfl ?_
    refine st3.trans ?_
    show Steps p.tables e below (T3.setTop (mkF m 73 #[.val (.long q1), .second, .val (.int p2), .val (.int k), .val (.ref b3), .val (.ref b5), .val (.ref b7), .unset, .unset, .unset, .unset, .unset, .unset] [(.long (own_mix (v3 + own_g)))])) _
    jvm_step X3.here [X3.here.top, hx, (hb hby at_73), Value.category]
    exact kt
def own_v3 (q1 : Int64) (k : Int32) : Int64 := if k < (3 : Int32) then (if k < (2 : Int32) then (if k < (1 : Int32) then q1 else q1 + own_g) else (if k < (1 : Int32) then q1 else q1 + own_g) + own_g) else (if k < (2 : Int32) then (if k < (1 : Int32) then q1 else q1 + own_g) else (if k < (1 : Int32) then q1 else q1 + own_g) + own_g) + own_g
theorem own_and3 (p : Int32) : p &&& 3 = 0 ∨ p &&& 3 = 1 ∨ p &&& 3 = 2 ∨ p &&& 3 = 3 := by
  have e : (p &&& 3).toInt = p.toInt % 2 ^ 2 := Jvm.Kit.i32_mask p 3 (k := 2) (by decide) (by decide)
  have h : (p &&& 3).toInt = 0 ∨ (p &&& 3).toInt = 1 ∨ (p &&& 3).toInt = 2 ∨ (p &&& 3).toInt = 3 := by omega
  rcases h with h | h | h | h
  · exact Or.inl (Int32.toInt_inj.mp h)
  · exact Or.inr (Or.inl (Int32.toInt_inj.mp h))
  · exact Or.inr (Or.inr (Or.inl (Int32.toInt_inj.mp h)))
  · exact Or.inr (Or.inr (Or.inr (Int32.toInt_inj.mp h)))
theorem own_same (q1 : Int64) (p : Int32) : own_v3 q1 (p &&& 3) + own_g = q1 + ((p &&& 3).toInt64 * own_g) + own_g := by
  rcases own_and3 p with h | h | h | h <;> rw [h]
  · show q1 + own_g = q1 + (0 : Int32).toInt64 * own_g + own_g
    rw [show (0 : Int32).toInt64 * own_g = 0 by decide, Int64.add_zero]
  · show q1 + own_g + own_g = q1 + (1 : Int32).toInt64 * own_g + own_g
    rw [show (1 : Int32).toInt64 * own_g = own_g by decide]
  · show q1 + own_g + own_g + own_g = q1 + (2 : Int32).toInt64 * own_g + own_g
    rw [show (2 : Int32).toInt64 * own_g = own_g + own_g by decide, Int64.add_assoc q1]
  · show q1 + own_g + own_g + own_g + own_g = q1 + (3 : Int32).toInt64 * own_g + own_g
    rw [show (3 : Int32).toInt64 * own_g = own_g + (own_g + own_g) by decide]
    simp only [Int64.add_assoc]
-- 2. THE CONTRACT: what this body leaves is yours
def Q0 (Z : State) (q1 : Int64) (p2 : Int32) (h0 : Heap) (n0 : Nat) (v : Option Value) (h : Heap) (L : List Loc) : Prop := v = some (.int (1 : Int32)) ∧ Fr n0 L
-- its room: frames: the greatest, locals: the greatest, cells 3 + .., slots 3 + ..: rm1: frames + 1; locals 1 + 3 + 11 + its room's locals; its cells and slots besides; rm1: frames + 1; locals 1 + 3 + 11 + its room's locals; its cells and slots besides; rm1: frames + 1; locals 1 + 3 + 11 + its room's locals; its cells and slots besides; rm3: frames + 1; locals 0 + 3 + 11 + its room's locals; its cells and slots besides; rm3: frames + 1; locals 0 + 3 + 11 + its room's locals; its cells and slots besides; rm3: frames + 1; locals 0 + 3 + 11 + its room's locals; its cells and slots besides
set_option maxRecDepth 65536 in
set_option maxHeartbeats 40000000 in
theorem rm0 (l : Launch) (Z : State) (a0 : Array Value) (hw : ∀ d ∈ tables_1, d.before a0 Z = true) (ws : List Jvm.Cond) (q1 : Int64) (p2 : Int32) (h0 : Heap) (n0 : Nat) (Z0 : n0 ≤ h0.size) :
    MetFree l x (head1 (Jvm.Cond.code x code maxLocals ret :: ws) room_1) (fun a U => a = #[(.long q1), (.int p2)] ∧ Z.Warmed39 U.vm ∧ U.heap = h0) (fun _ _ _ _ _ => True) (fun _ U o U' => ∃ v L, o = .returned v ∧ Q0 Z q1 p2 h0 n0 v U'.heap L ∧ FrameEnd U o U' L room_1.cells room_1.slots) := by
  refine MetFree.of_bodySF (plainFor_of_name pn_0) hisR ?_
  intro p e s m args below meth c s₁ Bd hml0 hP hK
  obtain ⟨rfl, hZ, hh⟩ := hP
  have hx := Bd.exec
  have hby := Bd.bytes
  have hml : c.maxLocals = 13 := hml0
  have hown : s.vm.findClass "com/example/caudal/caudal/bench/RandomStreamNextLongPinLaw" = some m.cls := findClass_of_methodNamed Bd.named
  have hnm := (name_of_methodNamed Bd.named Bd.method).1
  have X0 : Stand p l e room_1 s m #[(.long q1), (.int p2)] below meth c s₁ [] 0 0 := Stand.of_body Bd
  have e0 : s₁.heap = h0 := by rw [← hh, Bd.state]; rfl
  have N0 := Fr.nil n0
  have pre0 : ∀ t, Steps p.tables e below (s₁.setTop (mkF m 0 #[.val (.long q1), .second, .val (.int p2), .unset, .unset, .unset, .unset, .unset, .unset, .unset, .unset, .unset, .unset] [])) t → Steps p.tables e below (s₁.setTop (entryFrame m #[(.long q1), (.int p2)] maxLocals)) t := fun t k => castTop (ef_0 m q1 p2) k
  -- 3. LAWS
  obtain ⟨T3, h3, X3, e3, E3, A3, D3, -, st3⟩ := newO X0 hx hZ hown (hw _ (List.mem_of_getElem? (i := 0) rfl)) (hw _ (List.mem_of_getElem? (i := 1) rfl)) (hw _ (List.mem_of_getElem? (i := 2) rfl)) e0 (g := (mkF m 4 #[.val (.long q1), .second, .val (.int p2), .val (.int (p2 &&& (3 : Int32))), .unset, .unset, .unset, .unset, .unset, .unset, .unset, .unset, .unset] [])) rfl (hb hby at_4) (by decide) (by decide)
  obtain ⟨b3, g3⟩ : ∃ z, z = h0.size := ⟨_, rfl⟩      -- the fresh object's address
  rw [← g3] at A3 D3 st3      -- A3 : Exa Z h3 b3 "com/example/caudal/caudal/bench/RandomStream"; E3 : Ext h0 h3 (carries every older fact: .ext E3)
  have F_state_b3 : Fld Z h3 b3 "com/example/caudal/caudal/bench/RandomStream" "state" "J" (.long (0 : Int64)) := D3 (Or.inl (hw _ (List.mem_of_getElem? (i := 10) rfl))) (ty := .long) (by decide)
  have E_b3 := A3
  have g_b3 : n0 ≤ b3 := Nat.le_trans Z0 (Nat.le_of_eq g3.symm)
  have Z4 : n0 ≤ h3.size := Nat.le_trans Z0 E3.1
  -- pc 9: the constructor of com/example/caudal/caudal/bench/RandomStream by its contract rm1
  obtain ⟨_, _, ⟨T4, L4, k4, n4⟩, -, X4, ⟨Lc4, hQ4, l4, y4, z4⟩, st4⟩ := X3.specialBack hx (y := (⟨"com/example/caudal/caudal/bench/RandomStream", "<init>", "(J)V"⟩ : MethodName)) rfl hown (mvT hZ (hw _ (List.mem_of_getElem? (i := 3) rfl))) (mvT hZ (hw _ (List.mem_of_getElem? (i := 4) rfl))) (mvT hZ (hw _ (List.mem_of_getElem? (i := 5) rfl))) (by decide) (backOf (W := 1) (rm1 l Z a0 hw [] b3 q1 (.long 0) h3 n0 Z4 E_b3 F_state_b3 g_b3) hZ (hw _ (List.mem_of_getElem? (i := 5) rfl)) (hw _ (List.mem_of_getElem? (i := 2) rfl)) (by decide) (by decide)) (g := (mkF m 9 #[.val (.long q1), .second, .val (.int p2), .val (.int (p2 &&& (3 : Int32))), .unset, .unset, .unset, .unset, .unset, .unset, .unset, .unset, .unset] [(.long q1), (.ref b3), (.ref b3)])) rfl (by rw [hml]; rfl) (Steps.refl _) (a := b3) (argsL := [(.long q1)]) (rest := [(.ref b3)]) (lenOf pd_0_0 rfl) rfl (by show 2 * 0 + _ ≤ _; exact Nat.le_of_eq rfl) (hb hby at_9) (fun _ _ => ⟨rfl, e3, (by decide : 1 + 0 ≤ _), (by decide : 1 + 0 ≤ _)⟩)
  dsimp only [Pt.U, Pt.locs, Pt.cells, Pt.slots] at X4 l4 y4 z4 st4 hQ4
  subst l4 y4 z4
  obtain ⟨rfl, N4q, Kc4, Ec4, Fc4⟩ := hQ4      -- what it returned, that it wrote nothing old, and the rest of your Q1
  have N4 := Fr.app N0 N4q
  obtain ⟨T5, h5, X5, e5, E5, A5, D5, -, st5⟩ := newO X4 hx hZ hown (hw _ (List.mem_of_getElem? (i := 0) rfl)) (hw _ (List.mem_of_getElem? (i := 1) rfl)) (hw _ (List.mem_of_getElem? (i := 2) rfl)) rfl (g := (mkF m 14 #[.val (.long q1), .second, .val (.int p2), .val (.int (p2 &&& (3 : Int32))), .val (.ref b3), .unset, .unset, .unset, .unset, .unset, .unset, .unset, .unset] [])) rfl (hb hby at_14) (by decide) (by decide)
  obtain ⟨b5, g5⟩ : ∃ z, z = T4.heap.size := ⟨_, rfl⟩      -- the fresh object's address
  rw [← g5] at A5 D5 st5      -- A5 : Exa Z h5 b5 "com/example/caudal/caudal/bench/RandomStream"; E5 : Ext T4.heap h5 (carries every older fact: .ext E5)
  have F_state_b5 : Fld Z h5 b5 "com/example/caudal/caudal/bench/RandomStream" "state" "J" (.long (0 : Int64)) := D5 (Or.inl (hw _ (List.mem_of_getElem? (i := 10) rfl))) (ty := .long) (by decide)
  have E_b5 := A5
  have g_b5 : n0 ≤ b5 := Nat.le_trans (Nat.le_trans (Nat.le_trans Z0 E3.1) Kc4.1) (Nat.le_of_eq g5.symm)
  have Z6 : n0 ≤ h5.size := Nat.le_trans (Nat.le_trans Z4 Kc4.1) E5.1
  -- pc 26: the constructor of com/example/caudal/caudal/bench/RandomStream by its contract rm1
  obtain ⟨_, _, ⟨T6, L6, k6, n6⟩, -, X6, ⟨Lc6, hQ6, l6, y6, z6⟩, st6⟩ := X5.specialBack hx (y := (⟨"com/example/caudal/caudal/bench/RandomStream", "<init>", "(J)V"⟩ : MethodName)) rfl hown (mvT hZ (hw _ (List.mem_of_getElem? (i := 3) rfl))) (mvT hZ (hw _ (List.mem_of_getElem? (i := 4) rfl))) (mvT hZ (hw _ (List.mem_of_getElem? (i := 5) rfl))) (by decide) (backOf (W := 1) (rm1 l Z a0 hw [] b5 (q1 + (((p2 &&& (3 : Int32)).toInt64) * own_g)) (.long 0) h5 n0 Z6 E_b5 F_state_b5 g_b5) hZ (hw _ (List.mem_of_getElem? (i := 5) rfl)) (hw _ (List.mem_of_getElem? (i := 2) rfl)) (by decide) (by decide)) (g := (mkF m 26 #[.val (.long q1), .second, .val (.int p2), .val (.int (p2 &&& (3 : Int32))), .val (.ref b3), .unset, .unset, .unset, .unset, .unset, .unset, .unset, .unset] [(.long (q1 + (((p2 &&& (3 : Int32)).toInt64) * own_g))), (.ref b5), (.ref b5)])) rfl (by rw [hml]; rfl) (Steps.refl _) (a := b5) (argsL := [(.long (q1 + (((p2 &&& (3 : Int32)).toInt64) * own_g)))]) (rest := [(.ref b5)]) (lenOf pd_0_0 rfl) rfl (by show 2 * 0 + _ ≤ _; exact Nat.le_of_eq rfl) (hb hby at_26) (fun _ _ => ⟨rfl, e5, (by decide : 2 + 0 ≤ _), (by decide : 2 + 0 ≤ _)⟩)
  dsimp only [Pt.U, Pt.locs, Pt.cells, Pt.slots] at X6 l6 y6 z6 st6 hQ6
  subst l6 y6 z6
  obtain ⟨rfl, N6q, Kc6, Ec6, Fc6⟩ := hQ6      -- what it returned, that it wrote nothing old, and the rest of your Q1
  have N6 := Fr.app N4 N6q
  obtain ⟨T7, h7, X7, e7, E7, A7, D7, -, st7⟩ := newO X6 hx hZ hown (hw _ (List.mem_of_getElem? (i := 0) rfl)) (hw _ (List.mem_of_getElem? (i := 1) rfl)) (hw _ (List.mem_of_getElem? (i := 2) rfl)) rfl (g := (mkF m 31 #[.val (.long q1), .second, .val (.int p2), .val (.int (p2 &&& (3 : Int32))), .val (.ref b3), .val (.ref b5), .unset, .unset, .unset, .unset, .unset, .unset, .unset] [])) rfl (hb hby at_31) (by decide) (by decide)
  obtain ⟨b7, g7⟩ : ∃ z, z = T6.heap.size := ⟨_, rfl⟩      -- the fresh object's address
  rw [← g7] at A7 D7 st7      -- A7 : Exa Z h7 b7 "com/example/caudal/caudal/bench/RandomStream"; E7 : Ext T6.heap h7 (carries every older fact: .ext E7)
  have F_state_b7 : Fld Z h7 b7 "com/example/caudal/caudal/bench/RandomStream" "state" "J" (.long (0 : Int64)) := D7 (Or.inl (hw _ (List.mem_of_getElem? (i := 10) rfl))) (ty := .long) (by decide)
  have E_b7 := A7
  have g_b7 : n0 ≤ b7 := Nat.le_trans (Nat.le_trans (Nat.le_trans (Nat.le_trans (Nat.le_trans Z0 E3.1) Kc4.1) E5.1) Kc6.1) (Nat.le_of_eq g7.symm)
  have Z8 : n0 ≤ h7.size := Nat.le_trans (Nat.le_trans Z6 Kc6.1) E7.1
  -- pc 36: the constructor of com/example/caudal/caudal/bench/RandomStream by its contract rm1
  obtain ⟨_, _, ⟨T8, L8, k8, n8⟩, -, X8, ⟨Lc8, hQ8, l8, y8, z8⟩, st8⟩ := X7.specialBack hx (y := (⟨"com/example/caudal/caudal/bench/RandomStream", "<init>", "(J)V"⟩ : MethodName)) rfl hown (mvT hZ (hw _ (List.mem_of_getElem? (i := 3) rfl))) (mvT hZ (hw _ (List.mem_of_getElem? (i := 4) rfl))) (mvT hZ (hw _ (List.mem_of_getElem? (i := 5) rfl))) (by decide) (backOf (W := 1) (rm1 l Z a0 hw [] b7 (0 : Int64) (.long 0) h7 n0 Z8 E_b7 F_state_b7 g_b7) hZ (hw _ (List.mem_of_getElem? (i := 5) rfl)) (hw _ (List.mem_of_getElem? (i := 2) rfl)) (by decide) (by decide)) (g := (mkF m 36 #[.val (.long q1), .second, .val (.int p2), .val (.int (p2 &&& (3 : Int32))), .val (.ref b3), .val (.ref b5), .unset, .unset, .unset, .unset, .unset, .unset, .unset] [(.long (0 : Int64)), (.ref b7), (.ref b7)])) rfl (by rw [hml]; rfl) (Steps.refl _) (a := b7) (argsL := [(.long (0 : Int64))]) (rest := [(.ref b7)]) (lenOf pd_0_0 rfl) rfl (by show 2 * 0 + _ ≤ _; exact Nat.le_of_eq rfl) (hb hby at_36) (fun _ _ => ⟨rfl, e7, (by decide : 3 + 0 ≤ _), (by decide : 3 + 0 ≤ _)⟩)
  dsimp only [Pt.U, Pt.locs, Pt.cells, Pt.slots] at X8 l8 y8 z8 st8 hQ8
  subst l8 y8 z8
  obtain ⟨rfl, N8q, Kc8, Ec8, Fc8⟩ := hQ8      -- what it returned, that it wrote nothing old, and the rest of your Q1
  have N8 := Fr.app N6 N8q
  -- pc 76: com/example/caudal/caudal/bench/RandomStream.nextLong by the contract of the body that the receiver's class selects, rm3
  have G3 : own_F Z T4.heap n0 b3 q1 := ⟨Ec4, Fc4, g_b3⟩
  have h35 : b5 ≠ b3 := by rw [g5]; exact Nat.ne_of_gt G3.lt
  have G5 : own_F Z T6.heap n0 b5 (q1 + (((p2 &&& (3 : Int32)).toInt64) * own_g)) := ⟨Ec6, Fc6, g_b5⟩
  have G3' : own_F Z T6.heap n0 b3 q1 := (G3.ext E5).keep Kc6 (fun q => h35 q.symm)
  have h37 : b7 ≠ b3 := by rw [g7]; exact Nat.ne_of_gt G3'.lt
  have h57 : b7 ≠ b5 := by rw [g7]; exact Nat.ne_of_gt G5.lt
  have G7 : own_F Z T8.heap n0 b7 0 := ⟨Ec8, Fc8, g_b7⟩
  obtain ⟨U1, M1, Y1, J1, S1, A31, A51, A71, t1⟩ := own_call1 (q1 := q1) (p2 := p2) (k := p2 &&& 3) X8 hx hZ hw hby hml hown N8 (Nat.le_trans Z8 Kc8.1) h35 h37 ((G3'.ext E7).keep Kc8 (fun q => h37 q.symm)) ((G5.ext E7).keep Kc8 (fun q => h57 q.symm)) G7
  obtain ⟨U2, M2, Y2, J2, S2, A32, A52, A72, t2⟩ := own_call2 (q1 := q1) (p2 := p2) (k := p2 &&& 3) Y1 hx hZ hw hby hml hown J1 S1 h35 h37 A31 A51 A71
  obtain ⟨U3, M3, Y3, J3, S3, A33, A53, A73, t3⟩ := own_call3 (q1 := q1) (p2 := p2) (k := p2 &&& 3) Y2 hx hZ hw hby hml hown J2 S2 h35 h37 A32 A52 A72
  obtain ⟨cq9, kq9, q9a, q9b, q9c⟩ := isOf hZ rfl A33.1
  obtain ⟨_, _, ⟨T9, L9, k9, n9⟩, -, X9, ⟨Lc9, hQ9, l9, y9, z9⟩, st9⟩ := Y3.virtualBack hx (y := (⟨"com/example/caudal/caudal/bench/RandomStream", "nextLong", "()J"⟩ : MethodName)) (z := (⟨"com/example/caudal/caudal/bench/RandomStream", "nextLong", "()J"⟩ : MethodName)) hown (mvT hZ (hw _ (List.mem_of_getElem? (i := 12) rfl))) (mvT hZ (hw _ (List.mem_of_getElem? (i := 13) rfl))) (notFace_of_selects (args := #[]) (mvT hZ (hw _ (List.mem_of_getElem? (i := 15) rfl)))) (mvT hZ (hw _ (List.mem_of_getElem? (i := 15) rfl))) (mvT hZ (hw _ (List.mem_of_getElem? (i := 14) rfl))) (by decide) (backOf (W := 0) (rm3 l Z a0 hw [] b3 (own_v3 q1 (p2 &&& 3)) U3.heap n0 S3 A33.2.1 A33.1 A33.2.2) hZ (hw _ (List.mem_of_getElem? (i := 16) rfl)) (hw _ (List.mem_of_getElem? (i := 2) rfl)) (by decide) (by decide)) q9a q9c (g := (mkF m 76 #[.val (.long q1), .second, .val (.int p2), .val (.int (p2 &&& (3 : Int32))), .val (.ref b3), .val (.ref b5), .val (.ref b7), .unset, .unset, .unset, .unset, .unset, .unset] [(.ref b3)])) rfl (by rw [hml]; rfl) (Steps.refl _) (argsL := []) (rest := []) (lenOf pd_0_2 rfl) rfl (by show 2 * 0 + _ ≤ _; exact Nat.le_of_eq rfl) (hb hby at_76) (fun _ _ => ⟨rfl, rfl, (by decide : 3 + 0 ≤ _), (by decide : 3 + 0 ≤ _)⟩)
  dsimp only [Pt.U, Pt.locs, Pt.cells, Pt.slots] at X9 l9 y9 z9 st9 hQ9
  subst l9 y9 z9
  obtain ⟨rfl, N9q, K9, E9, F9⟩ := hQ9      -- what it returned, that it wrote nothing old, and the rest of your Q3
  have N9 := Fr.app J3 N9q
  have S9 : n0 ≤ T9.heap.size := Nat.le_trans S3 K9.1
  have B59 := A53.keep K9 h35
  have B79 := A73.keep K9 h37
  -- pc 83: com/example/caudal/caudal/bench/RandomStream.nextLong by the contract of the body that the receiver's class selects, rm3
  obtain ⟨cq10, kq10, q10a, q10b, q10c⟩ := isOf hZ rfl B59.1
  obtain ⟨_, _, ⟨T10, L10, k10, n10⟩, -, X10, ⟨Lc10, hQ10, l10, y10, z10⟩, st10⟩ := X9.virtualBack hx (y := (⟨"com/example/caudal/caudal/bench/RandomStream", "nextLong", "()J"⟩ : MethodName)) (z := (⟨"com/example/caudal/caudal/bench/RandomStream", "nextLong", "()J"⟩ : MethodName)) hown (mvT hZ (hw _ (List.mem_of_getElem? (i := 12) rfl))) (mvT hZ (hw _ (List.mem_of_getElem? (i := 13) rfl))) (notFace_of_selects (args := #[]) (mvT hZ (hw _ (List.mem_of_getElem? (i := 15) rfl)))) (mvT hZ (hw _ (List.mem_of_getElem? (i := 15) rfl))) (mvT hZ (hw _ (List.mem_of_getElem? (i := 14) rfl))) (by decide) (backOf (W := 0) (rm3 l Z a0 hw [] b5 (q1 + (((p2 &&& (3 : Int32)).toInt64) * own_g)) T9.heap n0 S9 B59.2.1 B59.1 B59.2.2) hZ (hw _ (List.mem_of_getElem? (i := 16) rfl)) (hw _ (List.mem_of_getElem? (i := 2) rfl)) (by decide) (by decide)) q10a q10c (g := (mkF m 83 #[.val (.long q1), .second, .val (.int p2), .val (.int (p2 &&& (3 : Int32))), .val (.ref b3), .val (.ref b5), .val (.ref b7), .val (.long (own_mix (own_v3 q1 (p2 &&& 3) + own_g))), .second, .unset, .unset, .unset, .unset] [(.ref b5)])) rfl (by rw [hml]; rfl) (Steps.refl _) (argsL := []) (rest := []) (lenOf pd_0_2 rfl) rfl (by show 2 * 0 + _ ≤ _; exact Nat.le_of_eq rfl) (hb hby at_83) (fun _ _ => ⟨rfl, rfl, (by decide : 3 + 0 ≤ _), (by decide : 3 + 0 ≤ _)⟩)
  dsimp only [Pt.U, Pt.locs, Pt.cells, Pt.slots] at X10 l10 y10 z10 st10 hQ10
  subst l10 y10 z10
  obtain ⟨rfl, N10q, K10, E10, F10⟩ := hQ10      -- what it returned, that it wrote nothing old, and the rest of your Q3
  have N10 := Fr.app N9 N10q
  have S10 : n0 ≤ T10.heap.size := Nat.le_trans S9 K10.1
  have B710 := B79.keep K10 h57
  -- pc 90: com/example/caudal/caudal/bench/RandomStream.nextLong by the contract of the body that the receiver's class selects, rm3
  obtain ⟨cq11, kq11, q11a, q11b, q11c⟩ := isOf hZ rfl B710.1
  obtain ⟨_, _, ⟨T11, L11, k11, n11⟩, -, X11, ⟨Lc11, hQ11, l11, y11, z11⟩, st11⟩ := X10.virtualBack hx (y := (⟨"com/example/caudal/caudal/bench/RandomStream", "nextLong", "()J"⟩ : MethodName)) (z := (⟨"com/example/caudal/caudal/bench/RandomStream", "nextLong", "()J"⟩ : MethodName)) hown (mvT hZ (hw _ (List.mem_of_getElem? (i := 12) rfl))) (mvT hZ (hw _ (List.mem_of_getElem? (i := 13) rfl))) (notFace_of_selects (args := #[]) (mvT hZ (hw _ (List.mem_of_getElem? (i := 15) rfl)))) (mvT hZ (hw _ (List.mem_of_getElem? (i := 15) rfl))) (mvT hZ (hw _ (List.mem_of_getElem? (i := 14) rfl))) (by decide) (backOf (W := 0) (rm3 l Z a0 hw [] b7 0 T10.heap n0 S10 B710.2.1 B710.1 B710.2.2) hZ (hw _ (List.mem_of_getElem? (i := 16) rfl)) (hw _ (List.mem_of_getElem? (i := 2) rfl)) (by decide) (by decide)) q11a q11c (g := (mkF m 90 #[.val (.long q1), .second, .val (.int p2), .val (.int (p2 &&& (3 : Int32))), .val (.ref b3), .val (.ref b5), .val (.ref b7), .val (.long (own_mix (own_v3 q1 (p2 &&& 3) + own_g))), .second, .val (.long (own_mix (q1 + ((p2 &&& 3).toInt64 * own_g) + own_g))), .second, .unset, .unset] [(.ref b7)])) rfl (by rw [hml]; rfl) (Steps.refl _) (argsL := []) (rest := []) (lenOf pd_0_2 rfl) rfl (by show 2 * 0 + _ ≤ _; exact Nat.le_of_eq rfl) (hb hby at_90) (fun _ _ => ⟨rfl, rfl, (by decide : 3 + 0 ≤ _), (by decide : 3 + 0 ≤ _)⟩)
  dsimp only [Pt.U, Pt.locs, Pt.cells, Pt.slots] at X11 l11 y11 z11 st11 hQ11
  subst l11 y11 z11
  obtain ⟨rfl, N11q, K11, E11, F11⟩ := hQ11      -- what it returned, that it wrote nothing old, and the rest of your Q3
  have N11 := Fr.app N10 N11q
  obtain ⟨fs, hr, hrun, hended, hW, hsame⟩ := X11.leave (v := some (.int (1 : Int32))) (fun h => by rw [Bd.returns] at h; cases h)
  have q9 : own_mix (own_v3 q1 (p2 &&& 3) + own_g) = own_mix (q1 + ((p2 &&& 3).toInt64 * own_g) + own_g) := by rw [own_same]
  refine ⟨_, _, pre0 _ ?_, hrun, hended, _, _, rfl, ?_, ⟨_, rfl⟩, hW, hsame.mono (by decide) (by decide)⟩
  -- 4. STEPS
  · show Steps p.tables e below (s₁.setTop (mkF m 0 #[.val (.long q1), .second, .val (.int p2), .unset, .unset, .unset, .unset, .unset, .unset, .unset, .unset, .unset, .unset] [])) _
    refine XS.iloadN X0.here hx rfl (hb hby at_0) rfl ?_
    show Steps p.tables e below (s₁.setTop (mkF m 1 #[.val (.long q1), .second, .val (.int p2), .unset, .unset, .unset, .unset, .unset, .unset, .unset, .unset, .unset, .unset] [(.int p2)])) _
    refine XS.iconst X0.here hx rfl (hb hby at_1) ?_
    show Steps p.tables e below (s₁.setTop (mkF m 2 #[.val (.long q1), .second, .val (.int p2), .unset, .unset, .unset, .unset, .unset, .unset, .unset, .unset, .unset, .unset] [(.int (3 : Int32)), (.int p2)])) _
    refine XS.iand X0.here hx rfl (hb hby at_2) rfl ?_
    show Steps p.tables e below (s₁.setTop (mkF m 3 #[.val (.long q1), .second, .val (.int p2), .unset, .unset, .unset, .unset, .unset, .unset, .unset, .unset, .unset, .unset] [(.int (p2 &&& (3 : Int32)))])) _
    refine XS.istoreN X0.here hx rfl (hb hby at_3) rfl (l' := #[.val (.long q1), .second, .val (.int p2), .val (.int (p2 &&& (3 : Int32))), .unset, .unset, .unset, .unset, .unset, .unset, .unset, .unset, .unset]) rfl ?_
    show Steps p.tables e below (s₁.setTop (mkF m 4 #[.val (.long q1), .second, .val (.int p2), .val (.int (p2 &&& (3 : Int32))), .unset, .unset, .unset, .unset, .unset, .unset, .unset, .unset, .unset] [])) _
    refine st3 _ ?_
    show Steps p.tables e below (T3.setTop (mkF m 7 #[.val (.long q1), .second, .val (.int p2), .val (.int (p2 &&& (3 : Int32))), .unset, .unset, .unset, .unset, .unset, .unset, .unset, .unset, .unset] [(.ref b3)])) _
    refine XS.dup X3.here hx rfl (hb hby at_7) rfl rfl ?_
    show Steps p.tables e below (T3.setTop (mkF m 8 #[.val (.long q1), .second, .val (.int p2), .val (.int (p2 &&& (3 : Int32))), .unset, .unset, .unset, .unset, .unset, .unset, .unset, .unset, .unset] [(.ref b3), (.ref b3)])) _
    refine XS.lloadN X3.here hx rfl (hb hby at_8) rfl ?_
    show Steps p.tables e below (T3.setTop (mkF m 9 #[.val (.long q1), .second, .val (.int p2), .val (.int (p2 &&& (3 : Int32))), .unset, .unset, .unset, .unset, .unset, .unset, .unset, .unset, .unset] [(.long q1), (.ref b3), (.ref b3)])) _
    refine st4.trans ?_
    show Steps p.tables e below (T4.setTop (mkF m 12 #[.val (.long q1), .second, .val (.int p2), .val (.int (p2 &&& (3 : Int32))), .unset, .unset, .unset, .unset, .unset, .unset, .unset, .unset, .unset] [(.ref b3)])) _
    refine XS.astore X4.here hx rfl (hb hby at_12) rfl rfl (l' := #[.val (.long q1), .second, .val (.int p2), .val (.int (p2 &&& (3 : Int32))), .val (.ref b3), .unset, .unset, .unset, .unset, .unset, .unset, .unset, .unset]) rfl ?_
    show Steps p.tables e below (T4.setTop (mkF m 14 #[.val (.long q1), .second, .val (.int p2), .val (.int (p2 &&& (3 : Int32))), .val (.ref b3), .unset, .unset, .unset, .unset, .unset, .unset, .unset, .unset] [])) _
    refine st5 _ ?_
    show Steps p.tables e below (T5.setTop (mkF m 17 #[.val (.long q1), .second, .val (.int p2), .val (.int (p2 &&& (3 : Int32))), .val (.ref b3), .unset, .unset, .unset, .unset, .unset, .unset, .unset, .unset] [(.ref b5)])) _
    refine XS.dup X5.here hx rfl (hb hby at_17) rfl rfl ?_
    show Steps p.tables e below (T5.setTop (mkF m 18 #[.val (.long q1), .second, .val (.int p2), .val (.int (p2 &&& (3 : Int32))), .val (.ref b3), .unset, .unset, .unset, .unset, .unset, .unset, .unset, .unset] [(.ref b5), (.ref b5)])) _
    refine XS.lloadN X5.here hx rfl (hb hby at_18) rfl ?_
    show Steps p.tables e below (T5.setTop (mkF m 19 #[.val (.long q1), .second, .val (.int p2), .val (.int (p2 &&& (3 : Int32))), .val (.ref b3), .unset, .unset, .unset, .unset, .unset, .unset, .unset, .unset] [(.long q1), (.ref b5), (.ref b5)])) _
    refine XS.iloadN X5.here hx rfl (hb hby at_19) rfl ?_
    show Steps p.tables e below (T5.setTop (mkF m 20 #[.val (.long q1), .second, .val (.int p2), .val (.int (p2 &&& (3 : Int32))), .val (.ref b3), .unset, .unset, .unset, .unset, .unset, .unset, .unset, .unset] [(.int (p2 &&& (3 : Int32))), (.long q1), (.ref b5), (.ref b5)])) _
    refine XS.i2l X5.here hx rfl (hb hby at_20) rfl ?_
    show Steps p.tables e below (T5.setTop (mkF m 21 #[.val (.long q1), .second, .val (.int p2), .val (.int (p2 &&& (3 : Int32))), .val (.ref b3), .unset, .unset, .unset, .unset, .unset, .unset, .unset, .unset] [(.long ((p2 &&& (3 : Int32)).toInt64)), (.long q1), (.ref b5), (.ref b5)])) _
    refine X5.ldc2Long hx hown (mvT hZ (hw _ (List.mem_of_getElem? (i := 11) rfl))) (g := (mkF m 21 #[.val (.long q1), .second, .val (.int p2), .val (.int (p2 &&& (3 : Int32))), .val (.ref b3), .unset, .unset, .unset, .unset, .unset, .unset, .unset, .unset] [(.long ((p2 &&& (3 : Int32)).toInt64)), (.long q1), (.ref b5), (.ref b5)])) rfl (hb hby at_21) _ ?_
    show Steps p.tables e below (T5.setTop (mkF m 24 #[.val (.long q1), .second, .val (.int p2), .val (.int (p2 &&& (3 : Int32))), .val (.ref b3), .unset, .unset, .unset, .unset, .unset, .unset, .unset, .unset] [(.long own_g), (.long ((p2 &&& (3 : Int32)).toInt64)), (.long q1), (.ref b5), (.ref b5)])) _
    refine XS.lmul X5.here hx rfl (hb hby at_24) rfl ?_
    show Steps p.tables e below (T5.setTop (mkF m 25 #[.val (.long q1), .second, .val (.int p2), .val (.int (p2 &&& (3 : Int32))), .val (.ref b3), .unset, .unset, .unset, .unset, .unset, .unset, .unset, .unset] [(.long (((p2 &&& (3 : Int32)).toInt64) * own_g)), (.long q1), (.ref b5), (.ref b5)])) _
    refine XS.ladd X5.here hx rfl (hb hby at_25) rfl ?_
    show Steps p.tables e below (T5.setTop (mkF m 26 #[.val (.long q1), .second, .val (.int p2), .val (.int (p2 &&& (3 : Int32))), .val (.ref b3), .unset, .unset, .unset, .unset, .unset, .unset, .unset, .unset] [(.long (q1 + (((p2 &&& (3 : Int32)).toInt64) * own_g))), (.ref b5), (.ref b5)])) _
    refine st6.trans ?_
    show Steps p.tables e below (T6.setTop (mkF m 29 #[.val (.long q1), .second, .val (.int p2), .val (.int (p2 &&& (3 : Int32))), .val (.ref b3), .unset, .unset, .unset, .unset, .unset, .unset, .unset, .unset] [(.ref b5)])) _
    refine XS.astore X6.here hx rfl (hb hby at_29) rfl rfl (l' := #[.val (.long q1), .second, .val (.int p2), .val (.int (p2 &&& (3 : Int32))), .val (.ref b3), .val (.ref b5), .unset, .unset, .unset, .unset, .unset, .unset, .unset]) rfl ?_
    show Steps p.tables e below (T6.setTop (mkF m 31 #[.val (.long q1), .second, .val (.int p2), .val (.int (p2 &&& (3 : Int32))), .val (.ref b3), .val (.ref b5), .unset, .unset, .unset, .unset, .unset, .unset, .unset] [])) _
    refine st7 _ ?_
    show Steps p.tables e below (T7.setTop (mkF m 34 #[.val (.long q1), .second, .val (.int p2), .val (.int (p2 &&& (3 : Int32))), .val (.ref b3), .val (.ref b5), .unset, .unset, .unset, .unset, .unset, .unset, .unset] [(.ref b7)])) _
    refine XS.dup X7.here hx rfl (hb hby at_34) rfl rfl ?_
    show Steps p.tables e below (T7.setTop (mkF m 35 #[.val (.long q1), .second, .val (.int p2), .val (.int (p2 &&& (3 : Int32))), .val (.ref b3), .val (.ref b5), .unset, .unset, .unset, .unset, .unset, .unset, .unset] [(.ref b7), (.ref b7)])) _
    refine XS.lconst X7.here hx rfl (hb hby at_35) ?_
    show Steps p.tables e below (T7.setTop (mkF m 36 #[.val (.long q1), .second, .val (.int p2), .val (.int (p2 &&& (3 : Int32))), .val (.ref b3), .val (.ref b5), .unset, .unset, .unset, .unset, .unset, .unset, .unset] [(.long (0 : Int64)), (.ref b7), (.ref b7)])) _
    refine st8.trans ?_
    show Steps p.tables e below (T8.setTop (mkF m 39 #[.val (.long q1), .second, .val (.int p2), .val (.int (p2 &&& (3 : Int32))), .val (.ref b3), .val (.ref b5), .unset, .unset, .unset, .unset, .unset, .unset, .unset] [(.ref b7)])) _
    refine XS.astore X8.here hx rfl (hb hby at_39) rfl rfl (l' := #[.val (.long q1), .second, .val (.int p2), .val (.int (p2 &&& (3 : Int32))), .val (.ref b3), .val (.ref b5), .val (.ref b7), .unset, .unset, .unset, .unset, .unset, .unset]) rfl ?_
    show Steps p.tables e below (T8.setTop (mkF m 41 #[.val (.long q1), .second, .val (.int p2), .val (.int (p2 &&& (3 : Int32))), .val (.ref b3), .val (.ref b5), .val (.ref b7), .unset, .unset, .unset, .unset, .unset, .unset] [])) _
    refine t1 _ ?_
    refine t2 _ ?_
    refine t3 _ ?_
    refine XS.aload Y3.here hx rfl (hb hby at_74) rfl rfl ?_
    show Steps p.tables e below (U3.setTop (mkF m 76 #[.val (.long q1), .second, .val (.int p2), .val (.int (p2 &&& (3 : Int32))), .val (.ref b3), .val (.ref b5), .val (.ref b7), .unset, .unset, .unset, .unset, .unset, .unset] [(.ref b3)])) _
    refine st9.trans ?_
    show Steps p.tables e below (T9.setTop (mkF m 79 #[.val (.long q1), .second, .val (.int p2), .val (.int (p2 &&& (3 : Int32))), .val (.ref b3), .val (.ref b5), .val (.ref b7), .unset, .unset, .unset, .unset, .unset, .unset] [(.long (own_mix (own_v3 q1 (p2 &&& 3) + own_g)))])) _
    refine XS.lstore X9.here hx rfl (hb hby at_79) rfl (l' := #[.val (.long q1), .second, .val (.int p2), .val (.int (p2 &&& (3 : Int32))), .val (.ref b3), .val (.ref b5), .val (.ref b7), .val (.long (own_mix (own_v3 q1 (p2 &&& 3) + own_g))), .second, .unset, .unset, .unset, .unset]) rfl ?_
    show Steps p.tables e below (T9.setTop (mkF m 81 #[.val (.long q1), .second, .val (.int p2), .val (.int (p2 &&& (3 : Int32))), .val (.ref b3), .val (.ref b5), .val (.ref b7), .val (.long (own_mix (own_v3 q1 (p2 &&& 3) + own_g))), .second, .unset, .unset, .unset, .unset] [])) _
    refine XS.aload X9.here hx rfl (hb hby at_81) rfl rfl ?_
    show Steps p.tables e below (T9.setTop (mkF m 83 #[.val (.long q1), .second, .val (.int p2), .val (.int (p2 &&& (3 : Int32))), .val (.ref b3), .val (.ref b5), .val (.ref b7), .val (.long (own_mix (own_v3 q1 (p2 &&& 3) + own_g))), .second, .unset, .unset, .unset, .unset] [(.ref b5)])) _
    refine st10.trans ?_
    show Steps p.tables e below (T10.setTop (mkF m 86 #[.val (.long q1), .second, .val (.int p2), .val (.int (p2 &&& (3 : Int32))), .val (.ref b3), .val (.ref b5), .val (.ref b7), .val (.long (own_mix (own_v3 q1 (p2 &&& 3) + own_g))), .second, .unset, .unset, .unset, .unset] [(.long (own_mix (q1 + ((p2 &&& 3).toInt64 * own_g) + own_g)))])) _
    refine XS.lstore X10.here hx rfl (hb hby at_86) rfl (l' := #[.val (.long q1), .second, .val (.int p2), .val (.int (p2 &&& (3 : Int32))), .val (.ref b3), .val (.ref b5), .val (.ref b7), .val (.long (own_mix (own_v3 q1 (p2 &&& 3) + own_g))), .second, .val (.long (own_mix (q1 + ((p2 &&& 3).toInt64 * own_g) + own_g))), .second, .unset, .unset]) rfl ?_
    show Steps p.tables e below (T10.setTop (mkF m 88 #[.val (.long q1), .second, .val (.int p2), .val (.int (p2 &&& (3 : Int32))), .val (.ref b3), .val (.ref b5), .val (.ref b7), .val (.long (own_mix (own_v3 q1 (p2 &&& 3) + own_g))), .second, .val (.long (own_mix (q1 + ((p2 &&& 3).toInt64 * own_g) + own_g))), .second, .unset, .unset] [])) _
    refine XS.aload X10.here hx rfl (hb hby at_88) rfl rfl ?_
    show Steps p.tables e below (T10.setTop (mkF m 90 #[.val (.long q1), .second, .val (.int p2), .val (.int (p2 &&& (3 : Int32))), .val (.ref b3), .val (.ref b5), .val (.ref b7), .val (.long (own_mix (own_v3 q1 (p2 &&& 3) + own_g))), .second, .val (.long (own_mix (q1 + ((p2 &&& 3).toInt64 * own_g) + own_g))), .second, .unset, .unset] [(.ref b7)])) _
    refine st11.trans ?_
    show Steps p.tables e below (T11.setTop (mkF m 93 #[.val (.long q1), .second, .val (.int p2), .val (.int (p2 &&& (3 : Int32))), .val (.ref b3), .val (.ref b5), .val (.ref b7), .val (.long (own_mix (own_v3 q1 (p2 &&& 3) + own_g))), .second, .val (.long (own_mix (q1 + ((p2 &&& 3).toInt64 * own_g) + own_g))), .second, .unset, .unset] [(.long (own_mix (0 + own_g)))])) _
    refine XS.lstore X11.here hx rfl (hb hby at_93) rfl (l' := #[.val (.long q1), .second, .val (.int p2), .val (.int (p2 &&& (3 : Int32))), .val (.ref b3), .val (.ref b5), .val (.ref b7), .val (.long (own_mix (own_v3 q1 (p2 &&& 3) + own_g))), .second, .val (.long (own_mix (q1 + ((p2 &&& 3).toInt64 * own_g) + own_g))), .second, .val (.long (own_mix (0 + own_g))), .second]) rfl ?_
    show Steps p.tables e below (T11.setTop (mkF m 95 #[.val (.long q1), .second, .val (.int p2), .val (.int (p2 &&& (3 : Int32))), .val (.ref b3), .val (.ref b5), .val (.ref b7), .val (.long (own_mix (own_v3 q1 (p2 &&& 3) + own_g))), .second, .val (.long (own_mix (q1 + ((p2 &&& 3).toInt64 * own_g) + own_g))), .second, .val (.long (own_mix (0 + own_g))), .second] [])) _
    refine XS.lload X11.here hx rfl (hb hby at_95) rfl ?_
    show Steps p.tables e below (T11.setTop (mkF m 97 #[.val (.long q1), .second, .val (.int p2), .val (.int (p2 &&& (3 : Int32))), .val (.ref b3), .val (.ref b5), .val (.ref b7), .val (.long (own_mix (own_v3 q1 (p2 &&& 3) + own_g))), .second, .val (.long (own_mix (q1 + ((p2 &&& 3).toInt64 * own_g) + own_g))), .second, .val (.long (own_mix (0 + own_g))), .second] [(.long (own_mix (own_v3 q1 (p2 &&& 3) + own_g)))])) _
    refine XS.lload X11.here hx rfl (hb hby at_97) rfl ?_
    show Steps p.tables e below (T11.setTop (mkF m 99 #[.val (.long q1), .second, .val (.int p2), .val (.int (p2 &&& (3 : Int32))), .val (.ref b3), .val (.ref b5), .val (.ref b7), .val (.long (own_mix (own_v3 q1 (p2 &&& 3) + own_g))), .second, .val (.long (own_mix (q1 + ((p2 &&& 3).toInt64 * own_g) + own_g))), .second, .val (.long (own_mix (0 + own_g))), .second] [(.long (own_mix (q1 + ((p2 &&& 3).toInt64 * own_g) + own_g))), (.long (own_mix (own_v3 q1 (p2 &&& 3) + own_g)))])) _
    refine XS.lcmp X11.here hx rfl (hb hby at_99) rfl ?_
    show Steps p.tables e below (T11.setTop (mkF m 100 #[.val (.long q1), .second, .val (.int p2), .val (.int (p2 &&& (3 : Int32))), .val (.ref b3), .val (.ref b5), .val (.ref b7), .val (.long (own_mix (own_v3 q1 (p2 &&& 3) + own_g))), .second, .val (.long (own_mix (q1 + ((p2 &&& 3).toInt64 * own_g) + own_g))), .second, .val (.long (own_mix (0 + own_g))), .second] [(.int (lcmpW (own_mix (own_v3 q1 (p2 &&& 3) + own_g)) (own_mix (q1 + ((p2 &&& 3).toInt64 * own_g) + own_g))))])) _
    refine XS.ifNo X11.here hx rfl (hb hby at_100) rfl ((if0 _ _).trans (teq ((lw_eq _ _).2 q9 : (lcmpW (own_mix (own_v3 q1 (p2 &&& 3) + own_g)) (own_mix (q1 + ((p2 &&& 3).toInt64 * own_g) + own_g))) = (0 : Int32))).2) ?_
    show Steps p.tables e below (T11.setTop (mkF m 103 #[.val (.long q1), .second, .val (.int p2), .val (.int (p2 &&& (3 : Int32))), .val (.ref b3), .val (.ref b5), .val (.ref b7), .val (.long (own_mix (own_v3 q1 (p2 &&& 3) + own_g))), .second, .val (.long (own_mix (q1 + ((p2 &&& 3).toInt64 * own_g) + own_g))), .second, .val (.long (own_mix (0 + own_g))), .second] [])) _
    refine XS.lload X11.here hx rfl (hb hby at_103) rfl ?_
    show Steps p.tables e below (T11.setTop (mkF m 105 #[.val (.long q1), .second, .val (.int p2), .val (.int (p2 &&& (3 : Int32))), .val (.ref b3), .val (.ref b5), .val (.ref b7), .val (.long (own_mix (own_v3 q1 (p2 &&& 3) + own_g))), .second, .val (.long (own_mix (q1 + ((p2 &&& 3).toInt64 * own_g) + own_g))), .second, .val (.long (own_mix (0 + own_g))), .second] [(.long (own_mix (0 + own_g)))])) _
    refine X11.ldc2Long hx hown (mvT hZ (hw _ (List.mem_of_getElem? (i := 20) rfl))) (g := (mkF m 105 #[.val (.long q1), .second, .val (.int p2), .val (.int (p2 &&& (3 : Int32))), .val (.ref b3), .val (.ref b5), .val (.ref b7), .val (.long (own_mix (own_v3 q1 (p2 &&& 3) + own_g))), .second, .val (.long (own_mix (q1 + ((p2 &&& 3).toInt64 * own_g) + own_g))), .second, .val (.long (own_mix (0 + own_g))), .second] [(.long (own_mix (0 + own_g)))])) rfl (hb hby at_105) _ ?_
    show Steps p.tables e below (T11.setTop (mkF m 108 #[.val (.long q1), .second, .val (.int p2), .val (.int (p2 &&& (3 : Int32))), .val (.ref b3), .val (.ref b5), .val (.ref b7), .val (.long (own_mix (own_v3 q1 (p2 &&& 3) + own_g))), .second, .val (.long (own_mix (q1 + ((p2 &&& 3).toInt64 * own_g) + own_g))), .second, .val (.long (own_mix (0 + own_g))), .second] [(.long (-2152535657050944081 : Int64)), (.long (own_mix (0 + own_g)))])) _
    refine XS.lcmp X11.here hx rfl (hb hby at_108) rfl ?_
    show Steps p.tables e below (T11.setTop (mkF m 109 #[.val (.long q1), .second, .val (.int p2), .val (.int (p2 &&& (3 : Int32))), .val (.ref b3), .val (.ref b5), .val (.ref b7), .val (.long (own_mix (own_v3 q1 (p2 &&& 3) + own_g))), .second, .val (.long (own_mix (q1 + ((p2 &&& 3).toInt64 * own_g) + own_g))), .second, .val (.long (own_mix (0 + own_g))), .second] [(.int (lcmpW (own_mix (0 + own_g)) (-2152535657050944081 : Int64)))])) _
    refine XS.ifNo X11.here hx rfl (hb hby at_109) rfl ((if0 _ _).trans (teq ((lw_eq _ _).2 own_anchor : (lcmpW (own_mix (0 + own_g)) (-2152535657050944081 : Int64)) = (0 : Int32))).2) ?_
    show Steps p.tables e below (T11.setTop (mkF m 112 #[.val (.long q1), .second, .val (.int p2), .val (.int (p2 &&& (3 : Int32))), .val (.ref b3), .val (.ref b5), .val (.ref b7), .val (.long (own_mix (own_v3 q1 (p2 &&& 3) + own_g))), .second, .val (.long (own_mix (q1 + ((p2 &&& 3).toInt64 * own_g) + own_g))), .second, .val (.long (own_mix (0 + own_g))), .second] [])) _
    refine XS.iconst X11.here hx rfl (hb hby at_112) ?_
    show Steps p.tables e below (T11.setTop (mkF m 113 #[.val (.long q1), .second, .val (.int p2), .val (.int (p2 &&& (3 : Int32))), .val (.ref b3), .val (.ref b5), .val (.ref b7), .val (.long (own_mix (own_v3 q1 (p2 &&& 3) + own_g))), .second, .val (.long (own_mix (q1 + ((p2 &&& 3).toInt64 * own_g) + own_g))), .second, .val (.long (own_mix (0 + own_g))), .second] [(.int (1 : Int32))])) _
    refine XS.goto X11.here hx rfl (pc0 := 113) (pc' := 117) rfl (hb hby at_113) (by decide) (by decide) ?_
    show Steps p.tables e below (T11.setTop (mkF m 117 #[.val (.long q1), .second, .val (.int p2), .val (.int (p2 &&& (3 : Int32))), .val (.ref b3), .val (.ref b5), .val (.ref b7), .val (.long (own_mix (own_v3 q1 (p2 &&& 3) + own_g))), .second, .val (.long (own_mix (q1 + ((p2 &&& 3).toInt64 * own_g) + own_g))), .second, .val (.long (own_mix (0 + own_g))), .second] [(.int (1 : Int32))])) _
    exact retN X11 hx (t := .boolean) Bd.returns (by simp) (hb hby at_117) hr
  · show Q0 Z q1 p2 h0 n0 _ T11.heap _
    exact ⟨rfl, N11⟩
-- 5. FROM THE CASE'S WORDS TO rm0, AND THE OWED THEOREMS
set_option maxRecDepth 65536 in
set_option maxHeartbeats 40000000 in
theorem comes_1 {Post : Tables → Env → Array Value → State → Outcome → State → Prop} (hpost : ∀ tb e args s v u, (limb_1_1.after args s (.returned v) u = true ∧ limb_1_2.after args s (.returned v) u = true ∧ True) → FrameEnd s (.returned v) u (Jvm.fieldLocs frame_1_writes args s ++ Jvm.arrayLocs frame_1_arrays args s ++ Jvm.staticLocs frame_1_statics s) 16 128 → Post tb e args s (.returned v) u) :
    ArmFor flags0 classFile x code maxLocals ret World_1 tables_1 room_1 Calls_1 rest_1 Pre_1 Post := by
  intro l hfl _ _ p e ha hc hk s m args below hf hA hF happ hP
  obtain ⟨hcalls, hrest, hpre⟩ := hP
  obtain ⟨-, -, -, hnamed, -, -, -, hat⟩ := (Spec.applies_iff hf).mp happ
  obtain ⟨hg, hn⟩ := and_e (Cond.before_iff.mp (show (Jvm.Cond.and given_1 narrow_1).before args s = true from hpre))
  obtain ⟨g12, g13⟩ := and_e hg
  obtain ⟨g14, g15⟩ := and_e g13
  obtain ⟨w0, w1, rfl⟩ : ∃ w0 w1 : Value, args = #[w0, w1] := by
    have hs : args.size = 2 := by simpa [Cond.value, given_1] using g12
    obtain ⟨L⟩ := args
    match L, hs with
    | [w0, w1], _ => exact ⟨w0, w1, rfl⟩
  have hw := fun d (hd : d ∈ tables_1) => atoms_spec (ws := Jvm.Cond.code x code maxLocals ret :: tables_1) hat d (List.mem_cons_of_mem _ hd)
  have hfit : Fit s := fun {y c} hc i hi => by
    obtain ⟨ha, rfl⟩ := Array.getElem?_eq_some_iff.mp hc
    have q := List.all_eq_true.mp ((Array.all_eq_true_iff_forall_mem.mp hF) _ (Array.getElem_mem ha)) i (List.mem_range.mpr hi)
    simpa [Array.getElem?_eq_getElem hi] using q
  obtain ⟨i0, ei0⟩ := isL_v g14
  obtain rfl : w0 = (.long i0) := Option.some.inj ei0
  obtain ⟨i1, ei1⟩ := is_v g15
  obtain rfl : w1 = (.int i1) := Option.some.inj ei1
  obtain ⟨n, o, h1, h2, h3, _, L, rfl, ⟨rfl, N⟩, hq⟩ := rm0 l s _ hw tables_1 i0 i1 s.heap s.heap.size (Nat.le_refl _) p e ha hc hk s m _ below hf ((Spec.applies_iff_loose hf).mp happ).1 ⟨rfl, State.Warmed39.refl s, rfl⟩ trivial
  refine ⟨n, _, h1, h2, h3, hpost _ _ _ _ _ _ ⟨Cond.after_iff.mpr rfl, Cond.after_iff.mpr (eq_i res_at (Term.int_eval (1)) rfl), trivial⟩ ⟨hq.1, hq.2.1, (hq.2.2.sift fun y hy => Or.inr (N y hy)).mono (by decide) (by decide)⟩⟩
theorem main_1_1 : Claimed_1_1 := comes_1 fun _ _ _ _ _ _ h hF => ⟨h.1, hF⟩
theorem main_1_2 : Claimed_1_2 := comes_1 fun _ _ _ _ _ _ h hF => ⟨h.2.1, hF⟩
-- 6. THE WITNESS: 'witness <made dir> --arg ..' lays it behind; then: end Jvm.Pilot.@@N@@

end Jvm.Pilot.@@N@@
namespace Jvm.Pilot.@@N@@
open Jvm Jvm.ClassFile Sem Op Lib Jvm.Free Jvm.Stand Jvm.Pilot.@@N@@.Jvm.D
/-! MADE BY PROGRAM (witnessworld.py) out of the Statement's table words and the real class files: 9 classes; the members and pool entries that the words name. The judged class is class 1, her method 1. -/
namespace start1
open Jvm.ClassFile
def u (s : String) : CpInfo := .utf8 (stringToUtf16 s)
/-- a pool by its gaps: so many unusable entries, then the entry; so many at the end -/
def gap : Nat → List CpInfo → List CpInfo
  | 0, r => r
  | n + 1, r => .unusable :: gap n r
def poolList (es : List (Nat × CpInfo)) (last : Nat) : List CpInfo := es.foldr (fun e r => gap e.1 (e.2 :: r)) (gap last [])
def pool (es : List (Nat × CpInfo)) (last : Nat) : Array CpInfo := ⟨poolList es last⟩
def fileOf (pool : Array CpInfo) (this : Nat) (attrs : Array Attribute := #[]) (ms : Array MethodInfo := #[]) (fl : Nat := 33) (sup : Nat := 0) (ifs : Array Nat := #[]) (fds : Array FieldInfo := #[]) : ClassFile where
  minorVersion := 0
  majorVersion := 65
  constantPool := pool
  accessFlags := fl
  thisClass := this
  superClass := sup
  interfaces := ifs
  fields := fds
  methods := ms
  attributes := attrs
def plain (name : String) (sup : Option ClassId) : Class where
  name := name
  kind := .ordinary
  loader := none
  accessFlags := 33
  super := sup
  interfaces := #[]
  cf := none
  fields := #[]
  methods := #[]
  instanceTypes := #[]
  staticTypes := #[]
  resolved := #[]
  callSites := []
  init := .initialized
  statics := none
  mirror := none

def pool0 : Array CpInfo := pool [(5, u "<init>"), (0, u "()V"), (1, .class_ 10), (1, u "java/lang/Object")] 113

def k0c0 : Code := { maxStack := 0, maxLocals := 1, code := object_method_1_code, exceptionTable := #[], attributes := #[] }
def k0m0 : Method := { name := "<init>", desc := "()V", sig := { parameters := [], returnType := none }, accessFlags := 1, code := some k0c0 }
/-- java/lang/Object -/
def k0 : Class := { plain "java/lang/Object" none with
  accessFlags := 33
  interfaces := #[]
  cf := some (fileOf pool0 8 #[] #[{ accessFlags := 1, nameIndex := 5, descriptorIndex := 6, attributes := #[] }] 33 0 #[] #[])
  fields := #[]
  methods := #[k0m0]
  instanceTypes := #[]
  staticTypes := #[]
  resolved := Array.replicate 124 none
  statics := none }

def pool1 : Array CpInfo := pool [(2, .class_ 4), (1, u "java/lang/Object"), (0, u "<init>"), (0, u "()V"), (0, .class_ 8), (0, u "com/example/caudal/caudal/bench/RandomStream"), (0, .methodref 7 10), (0, .nameAndType 5 11), (0, u "(J)V"), (0, .long 11400714819323198485), (1, .methodref 7 15), (0, .nameAndType 16 17), (0, u "nextLong"), (0, u "()J"), (0, .long 16294208416658607535), (1, .class_ 21), (0, u "com/example/caudal/caudal/bench/RandomStreamNextLongPinLaw"), (2, u "law"), (0, u "(JI)Z")] 3

def k1m0 : Method := { name := "<init>", desc := "()V", sig := { parameters := [], returnType := none }, accessFlags := 1, code := none }
def k1c1 : Code := { maxStack := 8, maxLocals := 13, code := code, exceptionTable := #[], attributes := #[] }
def k1m1 : Method := { name := "law", desc := "(JI)Z", sig := { parameters := [.long, .int], returnType := some .boolean }, accessFlags := 9, code := some k1c1 }
/-- com/example/caudal/caudal/bench/RandomStreamNextLongPinLaw -/
def k1 : Class := { plain "com/example/caudal/caudal/bench/RandomStreamNextLongPinLaw" (some 0) with
  accessFlags := 49
  interfaces := #[]
  cf := some (fileOf pool1 20 #[] #[{ accessFlags := 1, nameIndex := 5, descriptorIndex := 6, attributes := #[] }, { accessFlags := 9, nameIndex := 24, descriptorIndex := 25, attributes := #[] }] 49 2 #[] #[])
  fields := #[]
  methods := #[k1m0, k1m1]
  instanceTypes := #[]
  staticTypes := #[]
  resolved := Array.replicate 29 none
  statics := none }

def pool2 : Array CpInfo := pool [(1, .methodref 2 3), (0, .class_ 4), (0, .nameAndType 5 6), (0, u "java/lang/Object"), (0, u "<init>"), (0, u "()V"), (0, .fieldref 8 9), (0, .class_ 10), (0, .nameAndType 11 12), (0, u "com/example/caudal/caudal/bench/RandomStream"), (0, u "state"), (0, u "J"), (0, .long 11400714819323198485), (1, .long 13787848793156543929), (1, .long 10723151780598845931), (3, u "nextLong"), (0, u "()J"), (8, u "GAMMA"), (1, u "(J)V")] 7

def k2c0 : Code := { maxStack := 3, maxLocals := 3, code := prog_30_method_1_code, exceptionTable := #[], attributes := #[] }
def k2m0 : Method := { name := "<init>", desc := "(J)V", sig := { parameters := [.long], returnType := none }, accessFlags := 0, code := some k2c0 }
def k2c1 : Code := { maxStack := 5, maxLocals := 3, code := prog_30_method_2_code, exceptionTable := #[], attributes := #[] }
def k2m1 : Method := { name := "nextLong", desc := "()J", sig := { parameters := [], returnType := some .long }, accessFlags := 0, code := some k2c1 }
/-- com/example/caudal/caudal/bench/RandomStream -/
def k2 : Class := { plain "com/example/caudal/caudal/bench/RandomStream" (some 0) with
  accessFlags := 32
  interfaces := #[]
  cf := some (fileOf pool2 8 #[] #[{ accessFlags := 0, nameIndex := 5, descriptorIndex := 33, attributes := #[] }, { accessFlags := 0, nameIndex := 21, descriptorIndex := 22, attributes := #[] }] 32 2 #[] #[{ accessFlags := 26, nameIndex := 31, descriptorIndex := 12, attributes := #[] }, { accessFlags := 2, nameIndex := 11, descriptorIndex := 12, attributes := #[] }])
  fields := #[{ name := "GAMMA", type := .long, accessFlags := 26, slot := 0, constantValue := 0 }, { name := "state", type := .long, accessFlags := 2, slot := 0, constantValue := 0 }]
  methods := #[k2m0, k2m1]
  instanceTypes := #[.long]
  staticTypes := #[.long]
  resolved := Array.replicate 41 none
  statics := none }

def pool3 : Array CpInfo := pool [(1, u "java/lang/Cloneable"), (0, .class_ 1), (0, u "java/lang/Object"), (0, .class_ 3)] 3

/-- java/lang/Cloneable -/
def k3 : Class := { plain "java/lang/Cloneable" (some 0) with
  accessFlags := 1537
  interfaces := #[]
  cf := some (fileOf pool3 2 #[] #[] 1537 4 #[] #[])
  fields := #[]
  methods := #[]
  instanceTypes := #[]
  staticTypes := #[]
  resolved := Array.replicate 8 none
  statics := none }

def pool4 : Array CpInfo := pool [(1, u "java/io/Serializable"), (0, .class_ 1), (0, u "java/lang/Object"), (0, .class_ 3)] 3

/-- java/io/Serializable -/
def k4 : Class := { plain "java/io/Serializable" (some 0) with
  accessFlags := 1537
  interfaces := #[]
  cf := some (fileOf pool4 2 #[] #[] 1537 4 #[] #[])
  fields := #[]
  methods := #[]
  instanceTypes := #[]
  staticTypes := #[]
  resolved := Array.replicate 8 none
  statics := none }

/-- the primitive byte -/
def k5 : Class := { plain "byte" none with kind := .primitive 'B', accessFlags := 0x411 }
/-- [B -/
def k6 : Class := { plain "[B" (some 0) with kind := .array 5 .byte, interfaces := #[3, 4], accessFlags := 1041 }

/-- the primitive int -/
def k7 : Class := { plain "int" none with kind := .primitive 'I', accessFlags := 0x411 }
/-- [I -/
def k8 : Class := { plain "[I" (some 0) with kind := .array 7 .int, interfaces := #[3, 4], accessFlags := 1041 }

def heap : Heap := #[]
def classes : Array Class := #[k0, k1, k2, k3, k4, k5, k6, k7, k8]
def interned : List (Array UInt16 × Addr) := []
def slotsUsed : Nat := 0
def theMethod : MethodId := ⟨1, 1⟩
def args0 : Array Value := #[.long 5, .int 2]
def aboutOver (below : List Frame) : State where
  vm := { classes := classes, interned := interned.toArray }
  heap := heap
  slotsUsed := slotsUsed
  threads := #[{ frames := .invoking theMethod args0 :: below }]
def below0 : List Frame := [.native { method := ⟨0, 0⟩, args := #[] }]
def about1 : State := aboutOver below0
def p0 : Program := .bare "" "" ""
def e0 : Env := launch0.env 0 0 0
theorem w_frames : about1.frames = Frame.invoking theMethod args0 :: below0 := rfl
set_option maxRecDepth 65536 in
theorem w_args : argsFit about1.vm theMethod args0 = true := by decide +kernel
set_option maxRecDepth 65536 in
theorem w_heap : heapFits about1 = true := by decide +kernel
set_option maxRecDepth 65536 in
theorem w_runnable : about1.curStatus? = some .runnable := by decide +kernel
set_option maxRecDepth 65536 in
theorem w_alone : about1.alone = true := by decide +kernel
set_option maxRecDepth 65536 in
theorem w_named : about1.methodNamed? x = some theMethod := by decide +kernel
set_option maxRecDepth 65536 in
theorem w_hears : about1.hears theMethod below0 = true := by decide +kernel
set_option maxRecDepth 65536 in
theorem w_ripe : about1.ripe theMethod args0 below0 = true := by decide +kernel
theorem w_running : about1.status = .running := rfl
set_option maxRecDepth 65536 in
theorem w_room : about1.hasRoom e0.platform room_1 = true :=
  launch0.hasRoom_least _ room_1 (by decide +kernel) (by decide +kernel) (by decide +kernel) (by decide +kernel) (by decide +kernel) (by decide +kernel)
theorem allAtoms_all (ts : List Jvm.Cond) (a : Array Jvm.Value) (st : Jvm.State) : (allAtoms ts).before a st = ts.all (fun c => c.before a st) := by
  induction ts with
  | nil => rfl
  | cons c t ih =>
    show (Jvm.Cond.and c (allAtoms t)).before a st = _
    rw [Jvm.Cond.before_and, ih, List.all_cons]
def words1 : List Jvm.Cond := Jvm.Cond.code x code maxLocals ret :: tables_1
/-- a 'code' word, met by the world's own term for the bytes: nothing is compared byte by byte -/
theorem code_word {y : MethodName} {bytes : ByteArray} {mx : Nat} {rt : Option FieldType} {a : Array Value} {s : State} {m : MethodId} {meth : Method} {c : Code} (h1 : s.methodNamed? y = some m) (h2 : s.vm.method? m = some meth) (h3 : meth.code = some c) (h4 : c.code = bytes)
    (h5 : (c.maxLocals == mx && c.exceptionTable.isEmpty && decide (c.maxStack ≤ mostOperands) && decide (meth.sig.returnType = rt) && !meth.locks && decide (parseMethodDescriptor y.desc = some meth.sig)) = true) : (Jvm.Cond.code y bytes mx rt).before a s = true := by
  simp only [Bool.and_eq_true, beq_iff_eq, Bool.not_eq_true', decide_eq_true_eq] at h5
  obtain ⟨⟨⟨⟨⟨g1, g2⟩, g3⟩, g4⟩, g5⟩, g6⟩ := h5
  simp [Cond.before, Cond.holds, Cond.value, h1, h2, h3, h4, g1, g2, g3, g4, g5, g6]
def isCode : Jvm.Cond → Bool
  | .code _ _ _ _ => true
  | _ => false
theorem all_split {L : List Jvm.Cond} {P : Jvm.Cond → Bool} (h1 : L.all (fun c => isCode c || P c) = true) (h2 : ∀ c ∈ L.filter isCode, P c = true) : L.all P = true := by
  refine List.all_eq_true.mpr fun c hc => ?_
  have h := List.all_eq_true.mp h1 c hc
  rcases Bool.eq_false_or_eq_true (isCode c) with hi | hi
  · exact h2 c (List.mem_filter.mpr ⟨hc, hi⟩)
  · simpa [hi] using h
set_option maxRecDepth 65536 in
theorem w_c0 : (Jvm.Cond.code x code maxLocals ret).before args0 about1 = true := code_word (m := ⟨1, 1⟩) (meth := k1m1) (c := k1c1) (by decide +kernel) rfl rfl rfl (by decide +kernel)
set_option maxRecDepth 65536 in
theorem w_c1 : (Jvm.Cond.code ({ cls := "com/example/caudal/caudal/bench/RandomStream", name := "<init>", desc := "(J)V" } : Jvm.MethodName) prog_30_method_1_code (3 : Nat) (Option.none : Option Jvm.ClassFile.FieldType)).before args0 about1 = true := code_word (m := ⟨2, 0⟩) (meth := k2m0) (c := k2c0) (by decide +kernel) rfl rfl rfl (by decide +kernel)
set_option maxRecDepth 65536 in
theorem w_c2 : (Jvm.Cond.code ({ cls := "java/lang/Object", name := "<init>", desc := "()V" } : Jvm.MethodName) object_method_1_code (1 : Nat) (Option.none : Option Jvm.ClassFile.FieldType)).before args0 about1 = true := code_word (m := ⟨0, 0⟩) (meth := k0m0) (c := k0c0) (by decide +kernel) rfl rfl rfl (by decide +kernel)
set_option maxRecDepth 65536 in
theorem w_c3 : (Jvm.Cond.code ({ cls := "com/example/caudal/caudal/bench/RandomStream", name := "nextLong", desc := "()J" } : Jvm.MethodName) prog_30_method_2_code (3 : Nat) (Option.some Jvm.ClassFile.FieldType.long)).before args0 about1 = true := code_word (m := ⟨2, 1⟩) (meth := k2m1) (c := k2c1) (by decide +kernel) rfl rfl rfl (by decide +kernel)
def codes1 : List Jvm.Cond := [Jvm.Cond.code x code maxLocals ret, Jvm.Cond.code ({ cls := "com/example/caudal/caudal/bench/RandomStream", name := "<init>", desc := "(J)V" } : Jvm.MethodName) prog_30_method_1_code (3 : Nat) (Option.none : Option Jvm.ClassFile.FieldType), Jvm.Cond.code ({ cls := "java/lang/Object", name := "<init>", desc := "()V" } : Jvm.MethodName) object_method_1_code (1 : Nat) (Option.none : Option Jvm.ClassFile.FieldType), Jvm.Cond.code ({ cls := "com/example/caudal/caudal/bench/RandomStream", name := "nextLong", desc := "()J" } : Jvm.MethodName) prog_30_method_2_code (3 : Nat) (Option.some Jvm.ClassFile.FieldType.long)]
set_option maxRecDepth 65536 in
theorem codes_eq : words1.filter isCode = codes1 := rfl
theorem w_codes : ∀ c ∈ words1.filter isCode, c.before args0 about1 = true := by
  rw [codes_eq]
  intro c hc
  simp only [codes1, List.mem_cons, List.not_mem_nil, or_false] at hc
  rcases hc with rfl | rfl | rfl | rfl
  · exact w_c0
  · exact w_c1
  · exact w_c2
  · exact w_c3
set_option maxRecDepth 65536 in
theorem w_t1 : words1.all (fun c => isCode c || c.before args0 about1) = true := by decide +kernel
theorem w_tables : (allAtoms (Jvm.Cond.code x code maxLocals ret :: tables_1)).before args0 about1 = true := by
  rw [allAtoms_all]
  show words1.all (fun c => c.before args0 about1) = true
  refine all_split ?_ w_codes
  rw [w_t1]
set_option maxRecDepth 65536 in
theorem w_case : (Jvm.Cond.and given_1 narrow_1).before args0 about1 = true := by decide +kernel
theorem w_applies : (headSpec (Jvm.Cond.code x code maxLocals ret :: tables_1) room_1).applies x e0.platform about1 = true :=
  (Spec.applies_iff w_frames).mpr ⟨w_running, w_runnable, w_alone, w_named, w_hears, w_ripe, w_room, w_tables⟩
theorem atStart : AtStart classFile x code maxLocals ret World_1 tables_1 room_1 Calls_1 rest_1 Pre_1 launch0 p0 e0 about1 theMethod args0 below0 :=
  ⟨lists_1, trivial, launch0.admits_env _ _ _, launch0.least_env, fairChoices_fair.cas, fairChoices_fair.clock, w_frames, w_args, w_heap, w_applies, trivial, trivial, w_case⟩
end start1
theorem witness_1 : WitnessClaimed_1 := ⟨start1.p0, start1.e0, start1.about1, start1.theMethod, start1.args0, start1.below0, start1.atStart⟩
end Jvm.Pilot.@@N@@
