import JvmDerived
import JvmDerived.Pilot.@@N@@Statement
import JvmDerived.Pilot.@@N@@Code
set_option linter.unusedVariables false
set_option linter.unusedSimpArgs false
namespace Jvm.RoadKit
open Sem ClassFile Op Lib Jvm.Stand Jvm.Free Jvm.LawKit
section New
variable {p : Program} {l : Launch} {e : Env} {R : Room} {s : State} {m : MethodId} {args : Array Value} {below : List Frame} {meth : Method} {c : Code} {T : State} {locs : List Loc} {cells slots : Nat}
theorem retI (X : Stand p l e R s m args below meth c T locs cells slots) (hx : p.tables.exec = Jvm.exec) {pc : Nat} {Ls : Array Slot} {z : Int32} {rest : List Value} (hret : meth.sig.returnType = some .int) (hd : decode c.code pc = .ok (.ireturn, 1)) {fs : List Frame}
    (hl : ∀ (f : JFrame) (acts : List Action), f.method = m → f.locked = none → f.entered = [] → (doReturn e (T.setTop f) acts (some (.int z))).1 = T.setFrames fs) : Steps p.tables e below (T.setTop (mkF m pc Ls (.int z :: rest))) (T.setFrames fs) := by
  have hm' : T.vm.method? m = some meth := X.method'
  have hn : narrow .int (.int z) = .int z := rfl
  show Steps p.tables e below (T.setTop { method := m, pc := pc, locals := Ls, stack := _ :: rest, locked := none }) _
  jvm_step X.here [X.here.top, hx, hd, hm', hret, hn]
  first | (intro acts; rw [hl _ acts rfl rfl rfl]) | rw [hl _ _ rfl rfl rfl]
  exact Steps.refl _
end New
end Jvm.RoadKit
@@BLOCK:NumsL.lean.txt@@
namespace Jvm.Pilot.@@N@@
open Jvm Jvm.ClassFile Sem Op Lib Jvm.Free Jvm.Stand Jvm.LawKit Jvm.RoadKit Bundle Jvm.Pilot.@@N@@.Jvm.D
/-! own: the payer of a synchronized instance method, in backOf's shape; the monitor is as it was behind any frame -/
section OwnSync
variable {p : Program} {l : Launch} {e : Env} {R : Room} {s : State} {args : Array Value} {below : List Frame} {Z : State} {a0 : Array Value} {h : Heap}
theorem own_backSync {y : MethodName} {bytes : ByteArray} {maxL : Nat} {ret : Option FieldType} {rm : Room} {len W : Nat} {as' : Array Value} {a : Addr} {Q : Option Value → Heap → List Loc → Prop}
    (hM : MetFree l y (head1 [Jvm.Cond.codeSync y bytes maxL ret, Jvm.Cond.instanceMethod y] rm) (fun as U => as = as' ∧ Z.Warmed39 U.vm ∧ U.heap = h ∧ ∃ cell : Cell, h[a]? = some cell ∧ cell.enterable U.cur) (fun _ _ _ _ _ => True) (fun _ U o U' => ∃ v L, o = .returned v ∧ Q v U'.heap L ∧ FrameEnd U o U' L rm.cells rm.slots))
    (hZ : Z.Warmed39 s.vm) (wc : (Jvm.Cond.codeSync y bytes maxL ret).before a0 Z = true) (wi : (Jvm.Cond.instanceMethod y).before a0 Z = true) (wz : (Jvm.Cond.initialized y.cls).before a0 Z = true) (N : Unt h a) (hf : rm.frames + 1 ≤ R.frames) (hl : W + (maxL + 11) + rm.locals ≤ R.locals) :
    Back l R p e below s args y len W (fun A as => as = as' ∧ A.U.heap = h ∧ A.cells + rm.cells ≤ R.cells ∧ A.slots + rm.slots ≤ R.slots)
      (fun A _ v B => ∃ L, Q v B.U.heap L ∧ B.locs = A.locs ++ L ∧ B.cells = A.cells + rm.cells ∧ B.slots = A.slots + rm.slots) := by
  refine Jvm.Free.XT.back_of_sync (bytes := bytes) (maxL := maxL) (ret := ret) (E := fun _ _ out fin K kc ks => (kc = rm.cells ∧ ks = rm.slots) ∧ ∃ w, out = .returned w ∧ Q w fin.heap K) hM hf hl ?_ ?_ ?_ ?_ ?_
  · intro m meth c A as Y hp
    have warm : Z.Warmed39 A.U.vm := wtrans hZ Y.warmed
    have words : ∀ d ∈ [Jvm.Cond.codeSync y bytes maxL ret, Jvm.Cond.instanceMethod y], d.before as A.U = true := by
      intro d hd
      simp only [List.mem_cons, List.not_mem_nil, or_false] at hd
      rcases hd with rfl | rfl
      · exact mv warm wc
      · exact mv warm wi
    exact ⟨atoms_intro words, mv warm wc, mv warm wz, hp.2.2.1, hp.2.2.2⟩
  · intro m meth c A as g mk Y hp
    obtain ⟨cl, at_a, -, free⟩ := N
    refine ⟨hp.1, wtrans hZ Y.warmed, hp.2.1, cl, at_a, Or.inl ?_⟩
    rw [free]
    exact ⟨rfl, rfl⟩
  · intros; trivial
  · rintro as first out fin ⟨w, K, h1, h2, h3⟩
    exact ⟨K, _, _, h3, ⟨rfl, rfl⟩, w, h1, h2⟩
  · rintro m meth c A as g mk w fin K kc ks Y hp - - ⟨⟨rfl, rfl⟩, w', e, h⟩
    cases e
    exact ⟨K, h, rfl, rfl, rfl⟩
theorem own_unt {s' t : State} {locs : List Loc} {k n : Nat} {a : Addr} (q : s'.sameButNew t locs k n) (U : Unt s'.heap a) : Unt t.heap a := by
  obtain ⟨c, h1, h2, h3⟩ := U
  obtain ⟨c', g1, g2, -⟩ := q.2.2.2.2.2 a c h1
  exact ⟨c', g1, by rw [g2]; exact h2, by rw [g2]; exact h3⟩
end OwnSync
def own_val : Option Addr → Value
  | none => .null
  | some a => .ref a
def own_b : Option Addr → Int32
  | none => 0
  | some _ => 1
def own_S (Z : State) (h : Heap) (n0 : Nat) (b : Addr) (ov : Option Addr) : Prop := Exa Z h b "com/example/tenon/tenon/OpenableScope" ∧ Fld Z h b "com/example/tenon/tenon/OpenableScope" "opening" "Lcom/example/tenon/tenon/Scope$Opening;" (own_val ov) ∧ n0 ≤ b ∧ Unt h b
-- 1. FACTS
theorem d1_0 : decode prog_10_method_1_code 0 = .ok (.aload_n 0, 1) := by decide +kernel
theorem d1_1 : decode prog_10_method_1_code 1 = .ok (.invokespecial 1, 3) := by decide +kernel
theorem d1_4 : decode prog_10_method_1_code 4 = .ok (.return_, 1) := by decide +kernel
theorem pn_1 : plainName "com/example/tenon/tenon/OpenableScope" = true := by first | (simp [plainName, overriddenIn]; done) | decide +kernel
theorem ef_1 (m : MethodId) (x0 : Addr) : entryFrame m #[(.ref x0)] 1 = mkF m 0 #[.val (.ref x0)] [] := by first | (simp [entryFrame, mkF, argsToLocals, Value.category]; done) | rfl
-- 2. THE CONTRACT: what this body leaves is yours
def Q1 (Z : State) (a1 : Addr) (h0 : Heap) (n0 : Nat) (v : Option Value) (h : Heap) (L : List Loc) : Prop := v = none ∧ Fr n0 L ∧ h = h0
set_option maxRecDepth 65536 in
set_option maxHeartbeats 40000000 in
theorem rm1 (l : Launch) (Z : State) (a0 : Array Value) (hw : ∀ d ∈ tables_1, d.before a0 Z = true) (ws : List Jvm.Cond) (a1 : Addr) (h0 : Heap) (n0 : Nat) (Z0 : n0 ≤ h0.size) :
    MetFree l (⟨"com/example/tenon/tenon/OpenableScope", "<init>", "()V"⟩ : MethodName) (head1 (Jvm.Cond.code (⟨"com/example/tenon/tenon/OpenableScope", "<init>", "()V"⟩ : MethodName) prog_10_method_1_code 1 none :: ws) ({ frames := 1, cells := 0, slots := 0, locals := 12 } : Room)) (fun a U => a = #[(.ref a1)] ∧ Z.Warmed39 U.vm ∧ U.heap = h0) (fun _ _ _ _ _ => True) (fun _ U o U' => ∃ v L, o = .returned v ∧ Q1 Z a1 h0 n0 v U'.heap L ∧ FrameEnd U o U' L ({ frames := 1, cells := 0, slots := 0, locals := 12 } : Room).cells ({ frames := 1, cells := 0, slots := 0, locals := 12 } : Room).slots) := by
  refine MetFree.of_bodySF (plainFor_of_name pn_1) hisR ?_
  intro p e s m args below meth c s₁ Bd hml0 hP hK
  obtain ⟨rfl, hZ, hh⟩ := hP
  have hx := Bd.exec
  have hby := Bd.bytes
  have hml : c.maxLocals = 1 := hml0
  have hown : s.vm.findClass "com/example/tenon/tenon/OpenableScope" = some m.cls := findClass_of_methodNamed Bd.named
  have hnm := (name_of_methodNamed Bd.named Bd.method).1
  have X0 : Stand p l e ({ frames := 1, cells := 0, slots := 0, locals := 12 } : Room) s m #[(.ref a1)] below meth c s₁ [] 0 0 := Stand.of_body Bd
  have e0 : s₁.heap = h0 := by rw [← hh, Bd.state]; rfl
  have N0 := Fr.nil n0
  have pre0 : ∀ t, Steps p.tables e below (s₁.setTop (mkF m 0 #[.val (.ref a1)] [])) t → Steps p.tables e below (s₁.setTop (entryFrame m #[(.ref a1)] 1)) t := fun t k => castTop (ef_1 m a1) k
  -- 3. LAWS
  obtain ⟨T2, X2, e2, st2⟩ := initO X0 hx hZ hown (hw _ (List.mem_of_getElem? (i := 6) rfl)) (hw _ (List.mem_of_getElem? (i := 7) rfl)) (hw _ (List.mem_of_getElem? (i := 8) rfl)) e0 (g := (mkF m 1 #[.val (.ref a1)] [(.ref a1)])) rfl (by rw [hml]; rfl) rfl (hb hby d1_1) (by decide) (W := 0) (by show 2 * 0 + _ ≤ _; exact Nat.le_of_eq rfl) (by decide)
  obtain ⟨fs, hr, hrun, hended, hW, hsame⟩ := X2.leave (v := none) (fun _ => rfl)
  refine ⟨_, _, pre0 _ ?_, hrun, hended, _, _, rfl, ?_, ⟨_, rfl⟩, hW, hsame.mono (by decide) (by decide)⟩
  -- 4. STEPS
  · show Steps p.tables e below (s₁.setTop (mkF m 0 #[.val (.ref a1)] [])) _
    refine XS.aloadN X0.here hx rfl (hb hby d1_0) rfl rfl ?_
    show Steps p.tables e below (s₁.setTop (mkF m 1 #[.val (.ref a1)] [(.ref a1)])) _
    refine st2 _ ?_
    show Steps p.tables e below (T2.setTop (mkF m 4 #[.val (.ref a1)] [])) _
    exact X2.returnOut hx Bd.returns (hb hby d1_4) hr
  · show Q1 Z a1 h0 n0 _ T2.heap _
    rw [e2]
    exact ⟨rfl, N0, rfl⟩

theorem d3_0 : decode prog_10_method_4_code 0 = .ok (.aload_n 0, 1) := by decide +kernel
theorem d3_1 : decode prog_10_method_4_code 1 = .ok (.getfield 7, 3) := by decide +kernel
theorem d3_4 : decode prog_10_method_4_code 4 = .ok (.ifnull 7, 3) := by decide +kernel
theorem d3_7 : decode prog_10_method_4_code 7 = .ok (.iconst 1, 1) := by decide +kernel
theorem d3_8 : decode prog_10_method_4_code 8 = .ok (.goto 4, 3) := by decide +kernel
theorem d3_11 : decode prog_10_method_4_code 11 = .ok (.iconst 0, 1) := by decide +kernel
theorem d3_12 : decode prog_10_method_4_code 12 = .ok (.ireturn, 1) := by decide +kernel
theorem pn_3 : plainName "com/example/tenon/tenon/OpenableScope" = true := by first | (simp [plainName, overriddenIn]; done) | decide +kernel
theorem ef_3 (m : MethodId) (x0 : Addr) : entryFrame m #[(.ref x0)] 1 = mkF m 0 #[.val (.ref x0)] [] := by first | (simp [entryFrame, mkF, argsToLocals, Value.category]; done) | rfl
def Q3 (Z : State) (a1 : Addr) (ov : Option Addr) (h0 : Heap) (n0 : Nat) (v : Option Value) (h : Heap) (L : List Loc) : Prop := v = some (.int (own_b ov)) ∧ Fr n0 L ∧ h = h0
set_option maxRecDepth 65536 in
set_option maxHeartbeats 40000000 in
theorem rm3 (l : Launch) (Z : State) (a0 : Array Value) (hw : ∀ d ∈ tables_1, d.before a0 Z = true) (ws : List Jvm.Cond) (a1 : Addr) (ov : Option Addr) (h0 : Heap) (n0 : Nat) (Z0 : n0 ≤ h0.size) (F : Fld Z h0 a1 "com/example/tenon/tenon/OpenableScope" "opening" "Lcom/example/tenon/tenon/Scope$Opening;" (own_val ov)) :
    MetFree l (⟨"com/example/tenon/tenon/OpenableScope", "isOpen", "()Z"⟩ : MethodName) (head1 (Jvm.Cond.code (⟨"com/example/tenon/tenon/OpenableScope", "isOpen", "()Z"⟩ : MethodName) prog_10_method_4_code 1 (some .boolean) :: ws) ({ frames := 0, cells := 0, slots := 0, locals := 0 } : Room)) (fun a U => a = #[(.ref a1)] ∧ Z.Warmed39 U.vm ∧ U.heap = h0) (fun _ _ _ _ _ => True) (fun _ U o U' => ∃ v L, o = .returned v ∧ Q3 Z a1 ov h0 n0 v U'.heap L ∧ FrameEnd U o U' L ({ frames := 0, cells := 0, slots := 0, locals := 0 } : Room).cells ({ frames := 0, cells := 0, slots := 0, locals := 0 } : Room).slots) := by
  refine MetFree.of_bodySF (plainFor_of_name pn_3) hisR ?_
  intro p e s m args below meth c s₁ Bd hml0 hP hK
  obtain ⟨rfl, hZ, hh⟩ := hP
  have hx := Bd.exec
  have hby := Bd.bytes
  have hml : c.maxLocals = 1 := hml0
  have hown : s.vm.findClass "com/example/tenon/tenon/OpenableScope" = some m.cls := findClass_of_methodNamed Bd.named
  have hnm := (name_of_methodNamed Bd.named Bd.method).1
  have X0 : Stand p l e ({ frames := 0, cells := 0, slots := 0, locals := 0 } : Room) s m #[(.ref a1)] below meth c s₁ [] 0 0 := Stand.of_body Bd
  have e0 : s₁.heap = h0 := by rw [← hh, Bd.state]; rfl
  have N0 := Fr.nil n0
  have pre0 : ∀ t, Steps p.tables e below (s₁.setTop (mkF m 0 #[.val (.ref a1)] [])) t → Steps p.tables e below (s₁.setTop (entryFrame m #[(.ref a1)] 1)) t := fun t k => castTop (ef_3 m a1) k
  cases ov with
  | none =>
    obtain ⟨T3, X3, e3, st3⟩ := getF X0 hx hZ hown (host := "") (Or.inl (hw _ (List.mem_of_getElem? (i := 14) rfl))) Via.refl e0 F (g := (mkF m 1 #[.val (.ref a1)] [(.ref a1)])) rfl rfl (hb hby d3_1)
    obtain ⟨fs, hr, hrun, hended, hW, hsame⟩ := X3.leave (v := some (.int (0 : Int32))) (fun h => by rw [Bd.returns] at h; cases h)
    refine ⟨_, _, pre0 _ ?_, hrun, hended, _, _, rfl, ?_, ⟨_, rfl⟩, hW, hsame.mono (by decide) (by decide)⟩
    · show Steps p.tables e below (s₁.setTop (mkF m 0 #[.val (.ref a1)] [])) _
      refine XS.aloadN X0.here hx rfl (hb hby d3_0) rfl rfl ?_
      show Steps p.tables e below (s₁.setTop (mkF m 1 #[.val (.ref a1)] [(.ref a1)])) _
      refine st3 _ ?_
      show Steps p.tables e below (T3.setTop (mkF m 4 #[.val (.ref a1)] [.null])) _
      refine XS.ifnullYes X3.here hx rfl (pc0 := 4) (pc' := 11) rfl (hb hby d3_4) rfl (by decide) (by decide) ?_
      show Steps p.tables e below (T3.setTop (mkF m 11 #[.val (.ref a1)] [])) _
      refine XS.iconst X3.here hx rfl (hb hby d3_11) ?_
      show Steps p.tables e below (T3.setTop (mkF m 12 #[.val (.ref a1)] [(.int (0 : Int32))])) _
      exact retN X3 hx (t := .boolean) Bd.returns (by simp) (hb hby d3_12) hr
    · show Q3 Z a1 _ h0 n0 _ T3.heap _
      exact ⟨rfl, N0, e3⟩
  | some w =>
    obtain ⟨T3, X3, e3, st3⟩ := getF X0 hx hZ hown (host := "") (Or.inl (hw _ (List.mem_of_getElem? (i := 14) rfl))) Via.refl e0 F (g := (mkF m 1 #[.val (.ref a1)] [(.ref a1)])) rfl rfl (hb hby d3_1)
    obtain ⟨fs, hr, hrun, hended, hW, hsame⟩ := X3.leave (v := some (.int (1 : Int32))) (fun h => by rw [Bd.returns] at h; cases h)
    refine ⟨_, _, pre0 _ ?_, hrun, hended, _, _, rfl, ?_, ⟨_, rfl⟩, hW, hsame.mono (by decide) (by decide)⟩
    · show Steps p.tables e below (s₁.setTop (mkF m 0 #[.val (.ref a1)] [])) _
      refine XS.aloadN X0.here hx rfl (hb hby d3_0) rfl rfl ?_
      show Steps p.tables e below (s₁.setTop (mkF m 1 #[.val (.ref a1)] [(.ref a1)])) _
      refine st3 _ ?_
      show Steps p.tables e below (T3.setTop (mkF m 4 #[.val (.ref a1)] [(.ref w)])) _
      refine XS.ifnullNo X3.here hx rfl (hb hby d3_4) rfl ?_
      show Steps p.tables e below (T3.setTop (mkF m 7 #[.val (.ref a1)] [])) _
      refine XS.iconst X3.here hx rfl (hb hby d3_7) ?_
      show Steps p.tables e below (T3.setTop (mkF m 8 #[.val (.ref a1)] [(.int (1 : Int32))])) _
      refine XS.goto X3.here hx rfl (pc0 := 8) (pc' := 12) rfl (hb hby d3_8) (by decide) (by decide) ?_
      show Steps p.tables e below (T3.setTop (mkF m 12 #[.val (.ref a1)] [(.int (1 : Int32))])) _
      exact retN X3 hx (t := .boolean) Bd.returns (by simp) (hb hby d3_12) hr
    · show Q3 Z a1 _ h0 n0 _ T3.heap _
      exact ⟨rfl, N0, e3⟩
theorem d5_0 : decode prog_10_method_5_code 0 = .ok (.aload_n 0, 1) := by decide +kernel
theorem d5_1 : decode prog_10_method_5_code 1 = .ok (.getfield 7, 3) := by decide +kernel
theorem d5_4 : decode prog_10_method_5_code 4 = .ok (.areturn, 1) := by decide +kernel
theorem pn_5 : plainName "com/example/tenon/tenon/OpenableScope" = true := by first | (simp [plainName, overriddenIn]; done) | decide +kernel
theorem ef_5 (m : MethodId) (x0 : Addr) : entryFrame m #[(.ref x0)] 1 = mkF m 0 #[.val (.ref x0)] [] := by first | (simp [entryFrame, mkF, argsToLocals, Value.category]; done) | rfl
def Q5 (Z : State) (a1 : Addr) (ov : Option Addr) (h0 : Heap) (n0 : Nat) (v : Option Value) (h : Heap) (L : List Loc) : Prop := v = some (own_val ov) ∧ Fr n0 L ∧ h = h0
set_option maxRecDepth 65536 in
set_option maxHeartbeats 40000000 in
theorem rm5 (l : Launch) (Z : State) (a0 : Array Value) (hw : ∀ d ∈ tables_1, d.before a0 Z = true) (ws : List Jvm.Cond) (a1 : Addr) (ov : Option Addr) (h0 : Heap) (n0 : Nat) (Z0 : n0 ≤ h0.size) (F : Fld Z h0 a1 "com/example/tenon/tenon/OpenableScope" "opening" "Lcom/example/tenon/tenon/Scope$Opening;" (own_val ov)) :
    MetFree l (⟨"com/example/tenon/tenon/OpenableScope", "current", "()Lcom/example/tenon/tenon/Scope$Opening;"⟩ : MethodName) (head1 (Jvm.Cond.code (⟨"com/example/tenon/tenon/OpenableScope", "current", "()Lcom/example/tenon/tenon/Scope$Opening;"⟩ : MethodName) prog_10_method_5_code 1 (some (.object "com/example/tenon/tenon/Scope$Opening")) :: ws) ({ frames := 0, cells := 0, slots := 0, locals := 0 } : Room)) (fun a U => a = #[(.ref a1)] ∧ Z.Warmed39 U.vm ∧ U.heap = h0) (fun _ _ _ _ _ => True) (fun _ U o U' => ∃ v L, o = .returned v ∧ Q5 Z a1 ov h0 n0 v U'.heap L ∧ FrameEnd U o U' L ({ frames := 0, cells := 0, slots := 0, locals := 0 } : Room).cells ({ frames := 0, cells := 0, slots := 0, locals := 0 } : Room).slots) := by
  refine MetFree.of_bodySF (plainFor_of_name pn_5) hisR ?_
  intro p e s m args below meth c s₁ Bd hml0 hP hK
  obtain ⟨rfl, hZ, hh⟩ := hP
  have hx := Bd.exec
  have hby := Bd.bytes
  have hml : c.maxLocals = 1 := hml0
  have hown : s.vm.findClass "com/example/tenon/tenon/OpenableScope" = some m.cls := findClass_of_methodNamed Bd.named
  have hnm := (name_of_methodNamed Bd.named Bd.method).1
  have X0 : Stand p l e ({ frames := 0, cells := 0, slots := 0, locals := 0 } : Room) s m #[(.ref a1)] below meth c s₁ [] 0 0 := Stand.of_body Bd
  have e0 : s₁.heap = h0 := by rw [← hh, Bd.state]; rfl
  have N0 := Fr.nil n0
  have pre0 : ∀ t, Steps p.tables e below (s₁.setTop (mkF m 0 #[.val (.ref a1)] [])) t → Steps p.tables e below (s₁.setTop (entryFrame m #[(.ref a1)] 1)) t := fun t k => castTop (ef_5 m a1) k
  cases ov with
  | none =>
    obtain ⟨T3, X3, e3, st3⟩ := getF X0 hx hZ hown (host := "") (Or.inl (hw _ (List.mem_of_getElem? (i := 14) rfl))) Via.refl e0 F (g := (mkF m 1 #[.val (.ref a1)] [(.ref a1)])) rfl rfl (hb hby d5_1)
    obtain ⟨fs, hr, hrun, hended, hW, hsame⟩ := X3.leave (v := some .null) (fun h => by rw [Bd.returns] at h; cases h)
    refine ⟨_, _, pre0 _ ?_, hrun, hended, _, _, rfl, ?_, ⟨_, rfl⟩, hW, hsame.mono (by decide) (by decide)⟩
    · show Steps p.tables e below (s₁.setTop (mkF m 0 #[.val (.ref a1)] [])) _
      refine XS.aloadN X0.here hx rfl (hb hby d5_0) rfl rfl ?_
      show Steps p.tables e below (s₁.setTop (mkF m 1 #[.val (.ref a1)] [(.ref a1)])) _
      refine st3 _ ?_
      show Steps p.tables e below (T3.setTop (mkF m 4 #[.val (.ref a1)] [.null])) _
      jvm_step X3.here [X3.here.top, hx, (hb hby d5_4), X3.method', Bd.returns, Value.isRef, FieldType.isReference]
      first | (intro acts; rw [hr _ acts rfl rfl rfl]) | rw [hr _ _ rfl rfl rfl]
      exact Steps.refl _
    · show Q5 Z a1 _ h0 n0 _ T3.heap _
      exact ⟨rfl, N0, e3⟩
  | some w =>
    obtain ⟨T3, X3, e3, st3⟩ := getF X0 hx hZ hown (host := "") (Or.inl (hw _ (List.mem_of_getElem? (i := 14) rfl))) Via.refl e0 F (g := (mkF m 1 #[.val (.ref a1)] [(.ref a1)])) rfl rfl (hb hby d5_1)
    obtain ⟨fs, hr, hrun, hended, hW, hsame⟩ := X3.leave (v := some (.ref w)) (fun h => by rw [Bd.returns] at h; cases h)
    refine ⟨_, _, pre0 _ ?_, hrun, hended, _, _, rfl, ?_, ⟨_, rfl⟩, hW, hsame.mono (by decide) (by decide)⟩
    · show Steps p.tables e below (s₁.setTop (mkF m 0 #[.val (.ref a1)] [])) _
      refine XS.aloadN X0.here hx rfl (hb hby d5_0) rfl rfl ?_
      show Steps p.tables e below (s₁.setTop (mkF m 1 #[.val (.ref a1)] [(.ref a1)])) _
      refine st3 _ ?_
      show Steps p.tables e below (T3.setTop (mkF m 4 #[.val (.ref a1)] [(.ref w)])) _
      jvm_step X3.here [X3.here.top, hx, (hb hby d5_4), X3.method', Bd.returns, Value.isRef, FieldType.isReference]
      first | (intro acts; rw [hr _ acts rfl rfl rfl]) | rw [hr _ _ rfl rfl rfl]
      exact Steps.refl _
    · show Q5 Z a1 _ h0 n0 _ T3.heap _
      exact ⟨rfl, N0, e3⟩
-- 1. FACTS
theorem d9_0 : decode jdk_71_method_1_code 0 = .ok (.aload_n 0, 1) := by decide +kernel
theorem d9_1 : decode jdk_71_method_1_code 1 = .ok (.invokespecial 1, 3) := by decide +kernel
theorem d9_4 : decode jdk_71_method_1_code 4 = .ok (.return_, 1) := by decide +kernel
theorem pn_9 : plainName "java/util/AbstractMap" = true := by first | (simp [plainName, overriddenIn]; done) | decide +kernel
theorem ef_9 (m : MethodId) (x0 : Addr) : entryFrame m #[(.ref x0)] 1 = mkF m 0 #[.val (.ref x0)] [] := by first | (simp [entryFrame, mkF, argsToLocals, Value.category]; done) | rfl
-- 2. THE CONTRACT: what this body leaves is yours
def Q9 (Z : State) (a1 : Addr) (h0 : Heap) (n0 : Nat) (v : Option Value) (h : Heap) (L : List Loc) : Prop := v = none ∧ Fr n0 L ∧ h = h0
set_option maxRecDepth 65536 in
set_option maxHeartbeats 40000000 in
theorem rm9 (l : Launch) (Z : State) (a0 : Array Value) (hw : ∀ d ∈ tables_1, d.before a0 Z = true) (ws : List Jvm.Cond) (a1 : Addr) (h0 : Heap) (n0 : Nat) (Z0 : n0 ≤ h0.size) :
    MetFree l (⟨"java/util/AbstractMap", "<init>", "()V"⟩ : MethodName) (head1 (Jvm.Cond.code (⟨"java/util/AbstractMap", "<init>", "()V"⟩ : MethodName) jdk_71_method_1_code 1 none :: ws) ({ frames := 1, cells := 0, slots := 0, locals := 12 } : Room)) (fun a U => a = #[(.ref a1)] ∧ Z.Warmed39 U.vm ∧ U.heap = h0) (fun _ _ _ _ _ => True) (fun _ U o U' => ∃ v L, o = .returned v ∧ Q9 Z a1 h0 n0 v U'.heap L ∧ FrameEnd U o U' L ({ frames := 1, cells := 0, slots := 0, locals := 12 } : Room).cells ({ frames := 1, cells := 0, slots := 0, locals := 12 } : Room).slots) := by
  refine MetFree.of_bodySF (plainFor_of_name pn_9) hisR ?_
  intro p e s m args below meth c s₁ Bd hml0 hP hK
  obtain ⟨rfl, hZ, hh⟩ := hP
  have hx := Bd.exec
  have hby := Bd.bytes
  have hml : c.maxLocals = 1 := hml0
  have hown : s.vm.findClass "java/util/AbstractMap" = some m.cls := findClass_of_methodNamed Bd.named
  have hnm := (name_of_methodNamed Bd.named Bd.method).1
  have X0 : Stand p l e ({ frames := 1, cells := 0, slots := 0, locals := 12 } : Room) s m #[(.ref a1)] below meth c s₁ [] 0 0 := Stand.of_body Bd
  have e0 : s₁.heap = h0 := by rw [← hh, Bd.state]; rfl
  have N0 := Fr.nil n0
  have pre0 : ∀ t, Steps p.tables e below (s₁.setTop (mkF m 0 #[.val (.ref a1)] [])) t → Steps p.tables e below (s₁.setTop (entryFrame m #[(.ref a1)] 1)) t := fun t k => castTop (ef_9 m a1) k
  -- 3. LAWS
  obtain ⟨T2, X2, e2, st2⟩ := initO X0 hx hZ hown (hw _ (List.mem_of_getElem? (i := 49) rfl)) (hw _ (List.mem_of_getElem? (i := 7) rfl)) (hw _ (List.mem_of_getElem? (i := 8) rfl)) e0 (g := (mkF m 1 #[.val (.ref a1)] [(.ref a1)])) rfl (by rw [hml]; rfl) rfl (hb hby d9_1) (by decide) (W := 0) (by show 2 * 0 + _ ≤ _; exact Nat.le_of_eq rfl) (by decide)
  obtain ⟨fs, hr, hrun, hended, hW, hsame⟩ := X2.leave (v := none) (fun _ => rfl)
  refine ⟨_, _, pre0 _ ?_, hrun, hended, _, _, rfl, ?_, ⟨_, rfl⟩, hW, hsame.mono (by decide) (by decide)⟩
  -- 4. STEPS
  · show Steps p.tables e below (s₁.setTop (mkF m 0 #[.val (.ref a1)] [])) _
    refine XS.aloadN X0.here hx rfl (hb hby d9_0) rfl rfl ?_
    show Steps p.tables e below (s₁.setTop (mkF m 1 #[.val (.ref a1)] [(.ref a1)])) _
    refine st2 _ ?_
    show Steps p.tables e below (T2.setTop (mkF m 4 #[.val (.ref a1)] [])) _
    exact X2.returnOut hx Bd.returns (hb hby d9_4) hr
  · show Q9 Z a1 h0 n0 _ T2.heap _
    rw [e2]
    exact ⟨rfl, N0, rfl⟩

-- 1. FACTS
theorem d8_0 : decode jdk_2776_method_8_code 0 = .ok (.aload_n 0, 1) := by decide +kernel
theorem d8_1 : decode jdk_2776_method_8_code 1 = .ok (.invokespecial 67, 3) := by decide +kernel
theorem d8_4 : decode jdk_2776_method_8_code 4 = .ok (.return_, 1) := by decide +kernel
theorem pn_8 : plainName "java/util/concurrent/ConcurrentHashMap" = true := by first | (simp [plainName, overriddenIn]; done) | decide +kernel
theorem pd_8_0 : parseMethodDescriptor "()V" = some ⟨[], none⟩ := by decide +kernel
theorem ef_8 (m : MethodId) (x0 : Addr) : entryFrame m #[(.ref x0)] 1 = mkF m 0 #[.val (.ref x0)] [] := by first | (simp [entryFrame, mkF, argsToLocals, Value.category]; done) | rfl
-- 2. THE CONTRACT: what this body leaves is yours
def Q8 (Z : State) (a1 : Addr) (h0 : Heap) (n0 : Nat) (v : Option Value) (h : Heap) (L : List Loc) : Prop := v = none ∧ Fr n0 L ∧ h = h0
-- its room: frames: the greatest, locals: the greatest, cells 0 + .., slots 0 + ..: rm9: frames + 1; locals 0 + 1 + 11 + its room's locals; its cells and slots besides
set_option maxRecDepth 65536 in
set_option maxHeartbeats 40000000 in
theorem rm8 (l : Launch) (Z : State) (a0 : Array Value) (hw : ∀ d ∈ tables_1, d.before a0 Z = true) (ws : List Jvm.Cond) (a1 : Addr) (h0 : Heap) (n0 : Nat) (Z0 : n0 ≤ h0.size) :
    MetFree l (⟨"java/util/concurrent/ConcurrentHashMap", "<init>", "()V"⟩ : MethodName) (head1 (Jvm.Cond.code (⟨"java/util/concurrent/ConcurrentHashMap", "<init>", "()V"⟩ : MethodName) jdk_2776_method_8_code 1 none :: ws) ({ frames := 2, cells := 0, slots := 0, locals := 24 } : Room)) (fun a U => a = #[(.ref a1)] ∧ Z.Warmed39 U.vm ∧ U.heap = h0) (fun _ _ _ _ _ => True) (fun _ U o U' => ∃ v L, o = .returned v ∧ Q8 Z a1 h0 n0 v U'.heap L ∧ FrameEnd U o U' L ({ frames := 2, cells := 0, slots := 0, locals := 24 } : Room).cells ({ frames := 2, cells := 0, slots := 0, locals := 24 } : Room).slots) := by
  refine MetFree.of_bodySF (plainFor_of_name pn_8) hisR ?_
  intro p e s m args below meth c s₁ Bd hml0 hP hK
  obtain ⟨rfl, hZ, hh⟩ := hP
  have hx := Bd.exec
  have hby := Bd.bytes
  have hml : c.maxLocals = 1 := hml0
  have hown : s.vm.findClass "java/util/concurrent/ConcurrentHashMap" = some m.cls := findClass_of_methodNamed Bd.named
  have hnm := (name_of_methodNamed Bd.named Bd.method).1
  have X0 : Stand p l e ({ frames := 2, cells := 0, slots := 0, locals := 24 } : Room) s m #[(.ref a1)] below meth c s₁ [] 0 0 := Stand.of_body Bd
  have e0 : s₁.heap = h0 := by rw [← hh, Bd.state]; rfl
  have N0 := Fr.nil n0
  have pre0 : ∀ t, Steps p.tables e below (s₁.setTop (mkF m 0 #[.val (.ref a1)] [])) t → Steps p.tables e below (s₁.setTop (entryFrame m #[(.ref a1)] 1)) t := fun t k => castTop (ef_8 m a1) k
  -- 3. LAWS
  -- pc 1: the constructor of java/util/AbstractMap by its contract rm9
  obtain ⟨_, _, ⟨T2, L2, k2, n2⟩, -, X2, ⟨Lc2, hQ2, l2, y2, z2⟩, st2⟩ := X0.specialBack hx (y := (⟨"java/util/AbstractMap", "<init>", "()V"⟩ : MethodName)) rfl hown (mvT hZ (hw _ (List.mem_of_getElem? (i := 43) rfl))) (mvT hZ (hw _ (List.mem_of_getElem? (i := 44) rfl))) (mvT hZ (hw _ (List.mem_of_getElem? (i := 48) rfl))) (by decide) (backOf (W := 0) (rm9 l Z a0 hw [] a1 h0 n0 Z0) hZ (hw _ (List.mem_of_getElem? (i := 48) rfl)) (hw _ (List.mem_of_getElem? (i := 47) rfl)) (by decide) (by decide)) (g := (mkF m 1 #[.val (.ref a1)] [(.ref a1)])) rfl (by rw [hml]; rfl) (Steps.refl _) (a := a1) (argsL := []) (rest := []) (lenOf pd_8_0 rfl) rfl (by show 2 * 0 + _ ≤ _; exact Nat.le_of_eq rfl) (hb hby d8_1) (fun _ _ => ⟨rfl, e0, (by decide : 0 + 0 ≤ _), (by decide : 0 + 0 ≤ _)⟩)
  dsimp only [Pt.U, Pt.locs, Pt.cells, Pt.slots] at X2 l2 y2 z2 st2 hQ2
  subst l2 y2 z2
  obtain ⟨rfl, N2q, e2⟩ := hQ2      -- what it returned, that it wrote nothing old, and the rest of your Q9
  have N2 := Fr.app N0 N2q
  obtain ⟨fs, hr, hrun, hended, hW, hsame⟩ := X2.leave (v := none) (fun _ => rfl)
  refine ⟨_, _, pre0 _ ?_, hrun, hended, _, _, rfl, ?_, ⟨_, rfl⟩, hW, hsame.mono (by decide) (by decide)⟩
  -- 4. STEPS
  · show Steps p.tables e below (s₁.setTop (mkF m 0 #[.val (.ref a1)] [])) _
    refine XS.aloadN X0.here hx rfl (hb hby d8_0) rfl rfl ?_
    show Steps p.tables e below (s₁.setTop (mkF m 1 #[.val (.ref a1)] [(.ref a1)])) _
    refine st2.trans ?_
    show Steps p.tables e below (T2.setTop (mkF m 4 #[.val (.ref a1)] [])) _
    exact X2.returnOut hx Bd.returns (hb hby d8_4) hr
  · show Q8 Z a1 h0 n0 _ T2.heap _
    exact ⟨rfl, N2, e2⟩

-- 1. FACTS
theorem d7_0 : decode prog_14_method_1_code 0 = .ok (.aload_n 0, 1) := by decide +kernel
theorem d7_1 : decode prog_14_method_1_code 1 = .ok (.invokespecial 1, 3) := by decide +kernel
theorem d7_4 : decode prog_14_method_1_code 4 = .ok (.aload_n 0, 1) := by decide +kernel
theorem d7_5 : decode prog_14_method_1_code 5 = .ok (.new 7, 3) := by decide +kernel
theorem d7_8 : decode prog_14_method_1_code 8 = .ok (.dup, 1) := by decide +kernel
theorem d7_9 : decode prog_14_method_1_code 9 = .ok (.invokespecial 9, 3) := by decide +kernel
theorem d7_12 : decode prog_14_method_1_code 12 = .ok (.putfield 10, 3) := by decide +kernel
theorem d7_15 : decode prog_14_method_1_code 15 = .ok (.return_, 1) := by decide +kernel
theorem pn_7 : plainName "com/example/tenon/tenon/Scope$Opening" = true := by first | (simp [plainName, overriddenIn]; done) | decide +kernel
theorem pd_7_0 : parseMethodDescriptor "()V" = some ⟨[], none⟩ := by decide +kernel
theorem ef_7 (m : MethodId) (x0 : Addr) : entryFrame m #[(.ref x0)] 1 = mkF m 0 #[.val (.ref x0)] [] := by first | (simp [entryFrame, mkF, argsToLocals, Value.category]; done) | rfl
-- 2. THE CONTRACT: what this body leaves is yours
def Q7 (Z : State) (a1 : Addr) (u_kept_a1 : Value) (h0 : Heap) (n0 : Nat) (v : Option Value) (h : Heap) (L : List Loc) : Prop := v = none ∧ Fr n0 L ∧ Keep h0 h [a1]
-- its room: frames: the greatest, locals: the greatest, cells 1 + .., slots 12 + ..: rm8: frames + 1; locals 2 + 1 + 11 + its room's locals; its cells and slots besides; Object.<init>: frames 1, locals 12
set_option maxRecDepth 65536 in
set_option maxHeartbeats 40000000 in
theorem rm7 (l : Launch) (Z : State) (a0 : Array Value) (hw : ∀ d ∈ tables_1, d.before a0 Z = true) (ws : List Jvm.Cond) (a1 : Addr) (u_kept_a1 : Value) (h0 : Heap) (n0 : Nat) (Z0 : n0 ≤ h0.size) (E_a1 : Exa Z h0 a1 "com/example/tenon/tenon/Scope$Opening") (F_kept_a1 : Fld Z h0 a1 "com/example/tenon/tenon/Scope$Opening" "kept" "Ljava/util/Map;" u_kept_a1) (g_a1 : n0 ≤ a1) :
    MetFree l (⟨"com/example/tenon/tenon/Scope$Opening", "<init>", "()V"⟩ : MethodName) (head1 (Jvm.Cond.code (⟨"com/example/tenon/tenon/Scope$Opening", "<init>", "()V"⟩ : MethodName) prog_14_method_1_code 1 none :: ws) ({ frames := 3, cells := 1, slots := 12, locals := 38 } : Room)) (fun a U => a = #[(.ref a1)] ∧ Z.Warmed39 U.vm ∧ U.heap = h0) (fun _ _ _ _ _ => True) (fun _ U o U' => ∃ v L, o = .returned v ∧ Q7 Z a1 u_kept_a1 h0 n0 v U'.heap L ∧ FrameEnd U o U' L ({ frames := 3, cells := 1, slots := 12, locals := 38 } : Room).cells ({ frames := 3, cells := 1, slots := 12, locals := 38 } : Room).slots) := by
  refine MetFree.of_bodySF (plainFor_of_name pn_7) hisR ?_
  intro p e s m args below meth c s₁ Bd hml0 hP hK
  obtain ⟨rfl, hZ, hh⟩ := hP
  have hx := Bd.exec
  have hby := Bd.bytes
  have hml : c.maxLocals = 1 := hml0
  have hown : s.vm.findClass "com/example/tenon/tenon/Scope$Opening" = some m.cls := findClass_of_methodNamed Bd.named
  have hnm := (name_of_methodNamed Bd.named Bd.method).1
  have X0 : Stand p l e ({ frames := 3, cells := 1, slots := 12, locals := 38 } : Room) s m #[(.ref a1)] below meth c s₁ [] 0 0 := Stand.of_body Bd
  have e0 : s₁.heap = h0 := by rw [← hh, Bd.state]; rfl
  have N0 := Fr.nil n0
  have pre0 : ∀ t, Steps p.tables e below (s₁.setTop (mkF m 0 #[.val (.ref a1)] [])) t → Steps p.tables e below (s₁.setTop (entryFrame m #[(.ref a1)] 1)) t := fun t k => castTop (ef_7 m a1) k
  -- 3. LAWS
  obtain ⟨T2, X2, e2, st2⟩ := initO X0 hx hZ hown (hw _ (List.mem_of_getElem? (i := 36) rfl)) (hw _ (List.mem_of_getElem? (i := 7) rfl)) (hw _ (List.mem_of_getElem? (i := 8) rfl)) e0 (g := (mkF m 1 #[.val (.ref a1)] [(.ref a1)])) rfl (by rw [hml]; rfl) rfl (hb hby d7_1) (by decide) (W := 0) (by show 2 * 0 + _ ≤ _; exact Nat.le_of_eq rfl) (by decide)
  obtain ⟨T3, h3, X3, e3, E3, A3, D3, -, st3⟩ := newO X2 hx hZ hown (hw _ (List.mem_of_getElem? (i := 37) rfl)) (hw _ (List.mem_of_getElem? (i := 38) rfl)) (hw _ (List.mem_of_getElem? (i := 39) rfl)) e2 (g := (mkF m 5 #[.val (.ref a1)] [(.ref a1)])) rfl (hb hby d7_5) (by decide) (by decide)
  obtain ⟨b3, g3⟩ : ∃ z, z = h0.size := ⟨_, rfl⟩      -- the fresh object's address
  rw [← g3] at A3 D3 st3      -- A3 : Exa Z h3 b3 "java/util/concurrent/ConcurrentHashMap"; E3 : Ext h0 h3 (carries every older fact: .ext E3)
  have E_b3 := A3
  have g_b3 : n0 ≤ b3 := Nat.le_trans Z0 (Nat.le_of_eq g3.symm)
  have sz_b3 : h0.size ≤ b3 := (Nat.le_trans (Keep.refl h0 [a1]).1 (Nat.le_of_eq g3.symm))
  have K3 : Keep h0 h3 [a1] := (Keep.refl h0 [a1]).ext E3
  -- pc 9: the constructor of java/util/concurrent/ConcurrentHashMap by its contract rm8
  obtain ⟨_, _, ⟨T4, L4, k4, n4⟩, -, X4, ⟨Lc4, hQ4, l4, y4, z4⟩, st4⟩ := X3.specialBack hx (y := (⟨"java/util/concurrent/ConcurrentHashMap", "<init>", "()V"⟩ : MethodName)) rfl hown (mvT hZ (hw _ (List.mem_of_getElem? (i := 40) rfl))) (mvT hZ (hw _ (List.mem_of_getElem? (i := 41) rfl))) (mvT hZ (hw _ (List.mem_of_getElem? (i := 42) rfl))) (by decide) (backOf (W := 2) (rm8 l Z a0 hw [] b3 h3 n0 (Nat.le_trans Z0 E3.1)) hZ (hw _ (List.mem_of_getElem? (i := 42) rfl)) (hw _ (List.mem_of_getElem? (i := 39) rfl)) (by decide) (by decide)) (g := (mkF m 9 #[.val (.ref a1)] [(.ref b3), (.ref b3), (.ref a1)])) rfl (by rw [hml]; rfl) (Steps.refl _) (a := b3) (argsL := []) (rest := [(.ref b3), (.ref a1)]) (lenOf pd_7_0 rfl) rfl (by show 2 * 0 + _ ≤ _; exact Nat.le_of_eq rfl) (hb hby d7_9) (fun _ _ => ⟨rfl, e3, (by decide : 1 + 0 ≤ _), (by decide : 12 + 0 ≤ _)⟩)
  dsimp only [Pt.U, Pt.locs, Pt.cells, Pt.slots] at X4 l4 y4 z4 st4 hQ4
  subst l4 y4 z4
  obtain ⟨rfl, N4q, e4⟩ := hQ4      -- what it returned, that it wrote nothing old, and the rest of your Q8
  have N4 := Fr.app N0 N4q
  obtain ⟨T5, h5, X5, e5, W5, st5⟩ := putF X4 hx hZ hown (host := "") (Or.inl (hw _ (List.mem_of_getElem? (i := 50) rfl))) Via.refl e4 (F_kept_a1.ext E3) (E_a1.ext E3) (Or.inr ⟨(hw _ (List.mem_of_getElem? (i := 51) rfl)), rfl, hnm⟩) (hw _ (List.mem_of_getElem? (i := 31) rfl)) (ty := (.object "java/util/Map")) (by decide) rfl rfl (g := (mkF m 12 #[.val (.ref a1)] [(.ref b3), (.ref a1)])) rfl rfl (hb hby d7_12)
  have K5 : Keep h0 h5 [a1] := ((Keep.refl h0 [a1]).ext E3).wr W5 (Or.inl (List.mem_of_getElem? (i := 0) rfl))
  have N5 := Fr.snoc X5 N4 g_a1
  obtain ⟨fs, hr, hrun, hended, hW, hsame⟩ := X5.leave (v := none) (fun _ => rfl)
  refine ⟨_, _, pre0 _ ?_, hrun, hended, _, _, rfl, ?_, ⟨_, rfl⟩, hW, hsame.mono (by decide) (by decide)⟩
  -- 4. STEPS
  · show Steps p.tables e below (s₁.setTop (mkF m 0 #[.val (.ref a1)] [])) _
    refine XS.aloadN X0.here hx rfl (hb hby d7_0) rfl rfl ?_
    show Steps p.tables e below (s₁.setTop (mkF m 1 #[.val (.ref a1)] [(.ref a1)])) _
    refine st2 _ ?_
    show Steps p.tables e below (T2.setTop (mkF m 4 #[.val (.ref a1)] [])) _
    refine XS.aloadN X2.here hx rfl (hb hby d7_4) rfl rfl ?_
    show Steps p.tables e below (T2.setTop (mkF m 5 #[.val (.ref a1)] [(.ref a1)])) _
    refine st3 _ ?_
    show Steps p.tables e below (T3.setTop (mkF m 8 #[.val (.ref a1)] [(.ref b3), (.ref a1)])) _
    refine XS.dup X3.here hx rfl (hb hby d7_8) rfl rfl ?_
    show Steps p.tables e below (T3.setTop (mkF m 9 #[.val (.ref a1)] [(.ref b3), (.ref b3), (.ref a1)])) _
    refine st4.trans ?_
    show Steps p.tables e below (T4.setTop (mkF m 12 #[.val (.ref a1)] [(.ref b3), (.ref a1)])) _
    refine st5 _ ?_
    show Steps p.tables e below (T5.setTop (mkF m 15 #[.val (.ref a1)] [])) _
    exact X5.returnOut hx Bd.returns (hb hby d7_15) hr
  · show Q7 Z a1 u_kept_a1 h0 n0 _ T5.heap _
    rw [e5]
    exact ⟨rfl, N5, K5⟩

theorem pd_v : parseMethodDescriptor "()V" = some ⟨[], none⟩ := by decide +kernel
theorem d6_0 : decode prog_10_method_2_code 0 = .ok (.aload_n 0, 1) := by decide +kernel
theorem d6_1 : decode prog_10_method_2_code 1 = .ok (.getfield 7, 3) := by decide +kernel
theorem d6_4 : decode prog_10_method_2_code 4 = .ok (.ifnull 13, 3) := by decide +kernel
theorem d6_17 : decode prog_10_method_2_code 17 = .ok (.aload_n 0, 1) := by decide +kernel
theorem d6_18 : decode prog_10_method_2_code 18 = .ok (.new 20, 3) := by decide +kernel
theorem d6_21 : decode prog_10_method_2_code 21 = .ok (.dup, 1) := by decide +kernel
theorem d6_22 : decode prog_10_method_2_code 22 = .ok (.invokespecial 22, 3) := by decide +kernel
theorem d6_25 : decode prog_10_method_2_code 25 = .ok (.putfield 7, 3) := by decide +kernel
theorem d6_28 : decode prog_10_method_2_code 28 = .ok (.return_, 1) := by decide +kernel
def Q6 (Z : State) (a1 : Addr) (n0 : Nat) (v : Option Value) (h : Heap) (L : List Loc) : Prop := v = none ∧ Fr n0 L ∧ n0 ≤ h.size ∧ ∃ w, own_S Z h n0 a1 (some w)
set_option maxRecDepth 65536 in
set_option maxHeartbeats 40000000 in
theorem rm6 (l : Launch) (Z : State) (a0 : Array Value) (hw : ∀ d ∈ tables_1, d.before a0 Z = true) (ws : List Jvm.Cond) (hin : Jvm.Cond.instanceMethod (⟨"com/example/tenon/tenon/OpenableScope", "open", "()V"⟩ : MethodName) ∈ ws) (a1 : Addr)  (h0 : Heap) (n0 : Nat) (Z0 : n0 ≤ h0.size) (E : Exa Z h0 a1 "com/example/tenon/tenon/OpenableScope") (F : Fld Z h0 a1 "com/example/tenon/tenon/OpenableScope" "opening" "Lcom/example/tenon/tenon/Scope$Opening;" .null) (g_a1 : n0 ≤ a1) (U0 : Unt h0 a1) :
    MetFree l (⟨"com/example/tenon/tenon/OpenableScope", "open", "()V"⟩ : MethodName) (head1 (Jvm.Cond.codeSync (⟨"com/example/tenon/tenon/OpenableScope", "open", "()V"⟩ : MethodName) prog_10_method_2_code 1 none :: ws) ({ frames := 4, cells := 2, slots := 13, locals := 54 } : Room)) (fun as U => as = #[(.ref a1)] ∧ Z.Warmed39 U.vm ∧ U.heap = h0 ∧ ∃ cell : Cell, h0[a1]? = some cell ∧ cell.enterable U.cur) (fun _ _ _ _ _ => True) (fun _ U o U' => ∃ v L, o = .returned v ∧ Q6 Z a1 n0 v U'.heap L ∧ FrameEnd U o U' L ({ frames := 4, cells := 2, slots := 13, locals := 54 } : Room).cells ({ frames := 4, cells := 2, slots := 13, locals := 54 } : Room).slots) := by
  refine MetFree.of_bodySync (plainFor_of_name pn_1) (hisS hin) (fun _ s _ ⟨h1, _, h2, cl, h3, h4⟩ => ⟨a1, cl, by rw [h1]; rfl, by rw [h2]; exact h3, h4⟩) ?_
  intro p e s0 m args below meth c a' cell s₁ Bd hml0 hP _
  obtain ⟨rfl, hZ0, hh0, -⟩ := hP
  cases Bd.receiver
  have hx := Bd.exec
  have hby : c.code = prog_10_method_2_code := Bd.bytes
  have hml : c.maxLocals = 1 := hml0
  have X0 : Stand p l e ({ frames := 4, cells := 2, slots := 13, locals := 54 } : Room) (s0.setCell a1 (cell.withEntry s0.cur)) m _ below meth c s₁ [] 0 0 := Stand.of_bodySync Bd
  have hZ : Z.Warmed39 (s0.setCell a1 (cell.withEntry s0.cur)).vm := hZ0
  have hown : (s0.setCell a1 (cell.withEntry s0.cur)).vm.findClass "com/example/tenon/tenon/OpenableScope" = some m.cls := (findClass_of_methodNamed Bd.named :)
  have M0 : Mon h0 s₁.heap := by rw [← hh0, Bd.state]; exact mon_set Bd.object _
  have F0 := F.mon M0
  have E0 := E.mon M0
  have N0 := Fr.nil n0
  have Zs : n0 ≤ s₁.heap.size := by rw [M0.size]; exact Z0
  have U0' : Unt s0.heap a1 := by rw [hh0]; exact U0
  obtain ⟨T3, X3, e3, st3⟩ := getF X0 hx hZ hown (host := "") (Or.inl (hw _ (List.mem_of_getElem? (i := 14) rfl))) Via.refl rfl F0 (g := (mkL a1 m 1 #[.val (.ref a1)] [(.ref a1)])) rfl rfl (hb hby d6_1)
  obtain ⟨T4, h4, X4, e4, E4, A4, D4, U4, st4⟩ := newO X3 hx hZ hown (hw _ (List.mem_of_getElem? (i := 30) rfl)) (hw _ (List.mem_of_getElem? (i := 31) rfl)) (hw _ (List.mem_of_getElem? (i := 32) rfl)) e3 (g := (mkL a1 m 18 #[.val (.ref a1)] [(.ref a1)])) rfl (hb hby d6_18) (by decide) (by decide)
  obtain ⟨b4, g4⟩ : ∃ z, z = s₁.heap.size := ⟨_, rfl⟩
  rw [← g4] at A4 D4 st4
  have Fk : Fld Z h4 b4 "com/example/tenon/tenon/Scope$Opening" "kept" "Ljava/util/Map;" .null := D4 (Or.inr (hw _ (List.mem_of_getElem? (i := 51) rfl))) (ty := (.object "java/util/Map")) (by decide)
  have g_b4 : n0 ≤ b4 := Nat.le_trans Zs (Nat.le_of_eq g4.symm)
  have ne4 : a1 ≠ b4 := by rw [g4]; exact Nat.ne_of_lt F0.lt
  obtain ⟨_, _, ⟨T5, L5, k5, n5⟩, -, X5, ⟨Lc5, hQ5, l5, y5, z5⟩, st5⟩ := X4.specialBack hx (y := (⟨"com/example/tenon/tenon/Scope$Opening", "<init>", "()V"⟩ : MethodName)) rfl hown (mvT hZ (hw _ (List.mem_of_getElem? (i := 33) rfl))) (mvT hZ (hw _ (List.mem_of_getElem? (i := 34) rfl))) (mvT hZ (hw _ (List.mem_of_getElem? (i := 35) rfl))) (by decide) (backOf (W := 4) (rm7 l Z a0 hw [] b4 .null h4 n0 (Nat.le_trans Zs E4.1) A4 Fk g_b4) hZ (hw _ (List.mem_of_getElem? (i := 35) rfl)) (hw _ (List.mem_of_getElem? (i := 32) rfl)) (by decide) (by decide)) (g := (mkL a1 m 22 #[.val (.ref a1)] [(.ref b4), (.ref b4), (.ref a1)])) rfl (by rw [hml]; rfl) (Steps.refl _) (a := b4) (argsL := []) (rest := [(.ref b4), (.ref a1)]) (lenOf pd_v rfl) rfl (by show 2 * 1 + _ ≤ _; exact Nat.le_of_eq rfl) (hb hby d6_22) (fun _ _ => ⟨rfl, e4, (by decide : 1 + 1 ≤ _), (by decide : 1 + 12 ≤ _)⟩)
  dsimp only [Pt.U, Pt.locs, Pt.cells, Pt.slots] at X5 l5 y5 z5 st5 hQ5
  subst l5 y5 z5
  obtain ⟨rfl, N5q, K5⟩ := hQ5
  have N5 := Fr.app N0 N5q
  have F5 := (F0.ext E4).keep K5 (by simpa using ne4)
  have G5 := (E0.ext E4).keep K5
  obtain ⟨T6, h6, X6, e6, W6, st6⟩ := putF X5 hx hZ hown (host := "") (Or.inl (hw _ (List.mem_of_getElem? (i := 14) rfl))) Via.refl rfl F5 G5 (Or.inl (hw _ (List.mem_of_getElem? (i := 15) rfl))) (hw _ (List.mem_of_getElem? (i := 1) rfl)) (ty := (.object "com/example/tenon/tenon/Scope$Opening")) (by decide) rfl rfl (g := (mkL a1 m 25 #[.val (.ref a1)] [(.ref b4), (.ref a1)])) rfl rfl (hb hby d6_25)
  have N6 := Fr.snoc X6 N5 g_a1
  obtain ⟨V, hr, hrun, hended, M1, hW, hsame⟩ := leaveS X6 Bd.object Bd.enterable Bd.synchronized (v := none) (fun _ => rfl)
  rw [e6] at M1
  have U9 := own_unt hsame U0'
  refine ⟨V, _, ?_, hrun, hended, _, _, rfl, ?_, ⟨_, rfl⟩, hW, hsame.mono (by decide) (by decide)⟩
  · show Steps p.tables e below (s₁.setTop (mkL a1 m 0 #[.val (.ref a1)] [])) _
    refine XS.aloadN X0.here hx rfl (hb hby d6_0) rfl rfl ?_
    show Steps p.tables e below (s₁.setTop (mkL a1 m 1 #[.val (.ref a1)] [(.ref a1)])) _
    refine st3 _ ?_
    show Steps p.tables e below (T3.setTop (mkL a1 m 4 #[.val (.ref a1)] [.null])) _
    refine XS.ifnullYes X3.here hx rfl (pc0 := 4) (pc' := 17) rfl (hb hby d6_4) rfl (by decide) (by decide) ?_
    show Steps p.tables e below (T3.setTop (mkL a1 m 17 #[.val (.ref a1)] [])) _
    refine XS.aloadN X3.here hx rfl (hb hby d6_17) rfl rfl ?_
    show Steps p.tables e below (T3.setTop (mkL a1 m 18 #[.val (.ref a1)] [(.ref a1)])) _
    refine st4 _ ?_
    show Steps p.tables e below (T4.setTop (mkL a1 m 21 #[.val (.ref a1)] [(.ref b4), (.ref a1)])) _
    refine XS.dup X4.here hx rfl (hb hby d6_21) rfl rfl ?_
    show Steps p.tables e below (T4.setTop (mkL a1 m 22 #[.val (.ref a1)] [(.ref b4), (.ref b4), (.ref a1)])) _
    refine st5.trans ?_
    show Steps p.tables e below (T5.setTop (mkL a1 m 25 #[.val (.ref a1)] [(.ref b4), (.ref a1)])) _
    refine st6 _ ?_
    show Steps p.tables e below (T6.setTop (mkL a1 m 28 #[.val (.ref a1)] [])) _
    exact retS0 X6 hx Bd.returns (hb hby d6_28) hr
  · exact ⟨rfl, N6, by rw [M1.size]; exact Nat.le_trans (Nat.le_trans (Nat.le_trans Zs E4.1) K5.1) (Keep.of_wr W6).1, b4, (G5.wr W6).mon M1, (F5.same W6).mon M1, g_a1, U9⟩
theorem d10_0 : decode prog_10_method_3_code 0 = .ok (.aload_n 0, 1) := by decide +kernel
theorem d10_1 : decode prog_10_method_3_code 1 = .ok (.getfield 7, 3) := by decide +kernel
theorem d10_4 : decode prog_10_method_3_code 4 = .ok (.ifnonnull 13, 3) := by decide +kernel
theorem d10_17 : decode prog_10_method_3_code 17 = .ok (.aload_n 0, 1) := by decide +kernel
theorem d10_18 : decode prog_10_method_3_code 18 = .ok (.aconst_null, 1) := by decide +kernel
theorem d10_19 : decode prog_10_method_3_code 19 = .ok (.putfield 7, 3) := by decide +kernel
theorem d10_22 : decode prog_10_method_3_code 22 = .ok (.return_, 1) := by decide +kernel
def Q10 (Z : State) (a1 : Addr) (n0 : Nat) (v : Option Value) (h : Heap) (L : List Loc) : Prop := v = none ∧ Fr n0 L ∧ n0 ≤ h.size ∧ own_S Z h n0 a1 none
set_option maxRecDepth 65536 in
set_option maxHeartbeats 40000000 in
theorem rm10 (l : Launch) (Z : State) (a0 : Array Value) (hw : ∀ d ∈ tables_1, d.before a0 Z = true) (ws : List Jvm.Cond) (hin : Jvm.Cond.instanceMethod (⟨"com/example/tenon/tenon/OpenableScope", "close", "()V"⟩ : MethodName) ∈ ws) (a1 : Addr) (w : Addr) (h0 : Heap) (n0 : Nat) (Z0 : n0 ≤ h0.size) (E : Exa Z h0 a1 "com/example/tenon/tenon/OpenableScope") (F : Fld Z h0 a1 "com/example/tenon/tenon/OpenableScope" "opening" "Lcom/example/tenon/tenon/Scope$Opening;" (.ref w)) (g_a1 : n0 ≤ a1) (U0 : Unt h0 a1) :
    MetFree l (⟨"com/example/tenon/tenon/OpenableScope", "close", "()V"⟩ : MethodName) (head1 (Jvm.Cond.codeSync (⟨"com/example/tenon/tenon/OpenableScope", "close", "()V"⟩ : MethodName) prog_10_method_3_code 1 none :: ws) ({ frames := 0, cells := 0, slots := 0, locals := 0 } : Room)) (fun as U => as = #[(.ref a1)] ∧ Z.Warmed39 U.vm ∧ U.heap = h0 ∧ ∃ cell : Cell, h0[a1]? = some cell ∧ cell.enterable U.cur) (fun _ _ _ _ _ => True) (fun _ U o U' => ∃ v L, o = .returned v ∧ Q10 Z a1 n0 v U'.heap L ∧ FrameEnd U o U' L ({ frames := 0, cells := 0, slots := 0, locals := 0 } : Room).cells ({ frames := 0, cells := 0, slots := 0, locals := 0 } : Room).slots) := by
  refine MetFree.of_bodySync (plainFor_of_name pn_1) (hisS hin) (fun _ s _ ⟨h1, _, h2, cl, h3, h4⟩ => ⟨a1, cl, by rw [h1]; rfl, by rw [h2]; exact h3, h4⟩) ?_
  intro p e s0 m args below meth c a' cell s₁ Bd hml0 hP _
  obtain ⟨rfl, hZ0, hh0, -⟩ := hP
  cases Bd.receiver
  have hx := Bd.exec
  have hby : c.code = prog_10_method_3_code := Bd.bytes
  have hml : c.maxLocals = 1 := hml0
  have X0 : Stand p l e ({ frames := 0, cells := 0, slots := 0, locals := 0 } : Room) (s0.setCell a1 (cell.withEntry s0.cur)) m _ below meth c s₁ [] 0 0 := Stand.of_bodySync Bd
  have hZ : Z.Warmed39 (s0.setCell a1 (cell.withEntry s0.cur)).vm := hZ0
  have hown : (s0.setCell a1 (cell.withEntry s0.cur)).vm.findClass "com/example/tenon/tenon/OpenableScope" = some m.cls := (findClass_of_methodNamed Bd.named :)
  have M0 : Mon h0 s₁.heap := by rw [← hh0, Bd.state]; exact mon_set Bd.object _
  have F0 := F.mon M0
  have E0 := E.mon M0
  have N0 := Fr.nil n0
  have Zs : n0 ≤ s₁.heap.size := by rw [M0.size]; exact Z0
  have U0' : Unt s0.heap a1 := by rw [hh0]; exact U0
  obtain ⟨T3, X3, e3, st3⟩ := getF X0 hx hZ hown (host := "") (Or.inl (hw _ (List.mem_of_getElem? (i := 14) rfl))) Via.refl rfl F0 (g := (mkL a1 m 1 #[.val (.ref a1)] [(.ref a1)])) rfl rfl (hb hby d10_1)
  obtain ⟨T6, h6, X6, e6, W6, st6⟩ := putF X3 hx hZ hown (host := "") (Or.inl (hw _ (List.mem_of_getElem? (i := 14) rfl))) Via.refl e3 F0 E0 (Or.inl (hw _ (List.mem_of_getElem? (i := 15) rfl))) (hw _ (List.mem_of_getElem? (i := 1) rfl)) (ty := (.object "com/example/tenon/tenon/Scope$Opening")) (by decide) rfl rfl (g := (mkL a1 m 19 #[.val (.ref a1)] [.null, (.ref a1)])) rfl rfl (hb hby d10_19)
  have N6 := Fr.snoc X6 N0 g_a1
  obtain ⟨V, hr, hrun, hended, M1, hW, hsame⟩ := leaveS X6 Bd.object Bd.enterable Bd.synchronized (v := none) (fun _ => rfl)
  rw [e6] at M1
  have U9 := own_unt hsame U0'
  refine ⟨V, _, ?_, hrun, hended, _, _, rfl, ?_, ⟨_, rfl⟩, hW, hsame.mono (by decide) (by decide)⟩
  · show Steps p.tables e below (s₁.setTop (mkL a1 m 0 #[.val (.ref a1)] [])) _
    refine XS.aloadN X0.here hx rfl (hb hby d10_0) rfl rfl ?_
    show Steps p.tables e below (s₁.setTop (mkL a1 m 1 #[.val (.ref a1)] [(.ref a1)])) _
    refine st3 _ ?_
    show Steps p.tables e below (T3.setTop (mkL a1 m 4 #[.val (.ref a1)] [(.ref w)])) _
    refine XS.ifnonnullYes X3.here hx rfl (pc0 := 4) (pc' := 17) rfl (hb hby d10_4) rfl (by decide) (by decide) ?_
    show Steps p.tables e below (T3.setTop (mkL a1 m 17 #[.val (.ref a1)] [])) _
    refine XS.aloadN X3.here hx rfl (hb hby d10_17) rfl rfl ?_
    show Steps p.tables e below (T3.setTop (mkL a1 m 18 #[.val (.ref a1)] [(.ref a1)])) _
    refine XS.aconstNull X3.here hx rfl (hb hby d10_18) ?_
    show Steps p.tables e below (T3.setTop (mkL a1 m 19 #[.val (.ref a1)] [.null, (.ref a1)])) _
    refine st6 _ ?_
    show Steps p.tables e below (T6.setTop (mkL a1 m 22 #[.val (.ref a1)] [])) _
    exact retS0 X6 hx Bd.returns (hb hby d10_22) hr
  · exact ⟨rfl, N6, by rw [M1.size]; exact Nat.le_trans Zs (Keep.of_wr W6).1, (E0.wr W6).mon M1, (F0.same W6).mon M1, g_a1, U9⟩
theorem d4_0 : decode method_3_code 0 = .ok (.iload_n 2, 1) := by decide +kernel
theorem d4_1 : decode method_3_code 1 = .ok (.ifCond .ne 5, 3) := by decide +kernel
theorem d4_4 : decode method_3_code 4 = .ok (.iload_n 1, 1) := by decide +kernel
theorem d4_5 : decode method_3_code 5 = .ok (.ireturn, 1) := by decide +kernel
theorem d4_6 : decode method_3_code 6 = .ok (.iload_n 1, 1) := by decide +kernel
theorem d4_7 : decode method_3_code 7 = .ok (.ifCond .eq 9, 3) := by decide +kernel
theorem d4_10 : decode method_3_code 10 = .ok (.aload_n 0, 1) := by decide +kernel
theorem d4_11 : decode method_3_code 11 = .ok (.invokevirtual 24, 3) := by decide +kernel
theorem d4_14 : decode method_3_code 14 = .ok (.iconst 0, 1) := by decide +kernel
theorem d4_15 : decode method_3_code 15 = .ok (.ireturn, 1) := by decide +kernel
theorem d4_16 : decode method_3_code 16 = .ok (.aload_n 0, 1) := by decide +kernel
theorem d4_17 : decode method_3_code 17 = .ok (.invokevirtual 27, 3) := by decide +kernel
theorem d4_20 : decode method_3_code 20 = .ok (.iconst 1, 1) := by decide +kernel
theorem d4_21 : decode method_3_code 21 = .ok (.ireturn, 1) := by decide +kernel
theorem pn_4 : plainName "com/example/tenon/tenon/OpenableScopeIsOpenPinLaw" = true := by first | (simp [plainName, overriddenIn]; done) | decide +kernel
theorem ef_4 (m : MethodId) (x0 : Addr) (x1 : Int32) (x2 : Int32) : entryFrame m #[(.ref x0), (.int x1), (.int x2)] 3 = mkF m 0 #[.val (.ref x0), .val (.int x1), .val (.int x2)] [] := by first | (simp [entryFrame, mkF, argsToLocals, Value.category]; done) | rfl
def Q4 (Z : State) (a1 : Addr) (ov : Option Addr) (p3 : Int32) (h0 : Heap) (n0 : Nat) (v : Option Value) (h : Heap) (L : List Loc) : Prop := n0 ≤ h.size ∧ Fr n0 L ∧ ∃ o', v = some (.int (own_b o')) ∧ own_S Z h n0 a1 o'
set_option maxRecDepth 65536 in
set_option maxHeartbeats 40000000 in
theorem rm4 (l : Launch) (Z : State) (a0 : Array Value) (hw : ∀ d ∈ tables_1, d.before a0 Z = true) (ws : List Jvm.Cond) (a1 : Addr) (ov : Option Addr) (p3 : Int32) (h0 : Heap) (n0 : Nat) (Z0 : n0 ≤ h0.size) (S0 : own_S Z h0 n0 a1 ov) :
    MetFree l (⟨"com/example/tenon/tenon/OpenableScopeIsOpenPinLaw", "step", "(Lcom/example/tenon/tenon/OpenableScope;ZZ)Z"⟩ : MethodName) (head1 (Jvm.Cond.code (⟨"com/example/tenon/tenon/OpenableScopeIsOpenPinLaw", "step", "(Lcom/example/tenon/tenon/OpenableScope;ZZ)Z"⟩ : MethodName) method_3_code 3 (some .boolean) :: ws) ({ frames := 5, cells := 2, slots := 13, locals := 66 } : Room)) (fun a U => a = #[(.ref a1), (.int (own_b ov)), (.int p3)] ∧ Z.Warmed39 U.vm ∧ U.heap = h0) (fun _ _ _ _ _ => True) (fun _ U o U' => ∃ v L, o = .returned v ∧ Q4 Z a1 ov p3 h0 n0 v U'.heap L ∧ FrameEnd U o U' L ({ frames := 5, cells := 2, slots := 13, locals := 66 } : Room).cells ({ frames := 5, cells := 2, slots := 13, locals := 66 } : Room).slots) := by
  refine MetFree.of_bodySF (plainFor_of_name pn_4) hisR ?_
  intro p e s m args below meth c s₁ Bd hml0 hP hK
  obtain ⟨rfl, hZ, hh⟩ := hP
  have hx := Bd.exec
  have hby := Bd.bytes
  have hml : c.maxLocals = 3 := hml0
  have hown : s.vm.findClass "com/example/tenon/tenon/OpenableScopeIsOpenPinLaw" = some m.cls := findClass_of_methodNamed Bd.named
  have hnm := (name_of_methodNamed Bd.named Bd.method).1
  have X0 : Stand p l e ({ frames := 5, cells := 2, slots := 13, locals := 66 } : Room) s m #[(.ref a1), (.int (own_b ov)), (.int p3)] below meth c s₁ [] 0 0 := Stand.of_body Bd
  have e0 : s₁.heap = h0 := by rw [← hh, Bd.state]; rfl
  have N0 := Fr.nil n0
  have pre0 : ∀ t, Steps p.tables e below (s₁.setTop (mkF m 0 #[.val (.ref a1), .val (.int (own_b ov)), .val (.int p3)] [])) t → Steps p.tables e below (s₁.setTop (entryFrame m #[(.ref a1), (.int (own_b ov)), (.int p3)] 3)) t := fun t k => castTop (ef_4 m a1 ((own_b ov)) p3) k
  by_cases hp : p3 = (0 : Int32)
  · cases ov with
    | none =>
      obtain ⟨fs, hr, hrun, hended, hW, hsame⟩ := X0.leave (v := some (.int (0 : Int32))) (fun h => by rw [Bd.returns] at h; cases h)
      refine ⟨_, _, pre0 _ ?_, hrun, hended, _, _, rfl, ?_, ⟨_, rfl⟩, hW, hsame.mono (by decide) (by decide)⟩
      · show Steps p.tables e below (s₁.setTop (mkF m 0 #[.val (.ref a1), .val (.int (0 : Int32)), .val (.int p3)] [])) _
        refine XS.iloadN X0.here hx rfl (hb hby d4_0) rfl ?_
        show Steps p.tables e below (s₁.setTop (mkF m 1 #[.val (.ref a1), .val (.int (0 : Int32)), .val (.int p3)] [(.int p3)])) _
        refine XS.ifNo X0.here hx rfl (hb hby d4_1) rfl ((if0 _ _).trans (teq hp).2) ?_
        show Steps p.tables e below (s₁.setTop (mkF m 4 #[.val (.ref a1), .val (.int (0 : Int32)), .val (.int p3)] [])) _
        refine XS.iloadN X0.here hx rfl (hb hby d4_4) rfl ?_
        show Steps p.tables e below (s₁.setTop (mkF m 5 #[.val (.ref a1), .val (.int (0 : Int32)), .val (.int p3)] [(.int (0 : Int32))])) _
        exact retN X0 hx (t := .boolean) Bd.returns (by simp) (hb hby d4_5) hr
      · show Q4 Z a1 _ p3 h0 n0 _ s₁.heap _
        exact ⟨by rw [e0]; exact Z0, N0, none, rfl, by rw [e0]; exact S0⟩
    | some w =>
      obtain ⟨fs, hr, hrun, hended, hW, hsame⟩ := X0.leave (v := some (.int (1 : Int32))) (fun h => by rw [Bd.returns] at h; cases h)
      refine ⟨_, _, pre0 _ ?_, hrun, hended, _, _, rfl, ?_, ⟨_, rfl⟩, hW, hsame.mono (by decide) (by decide)⟩
      · show Steps p.tables e below (s₁.setTop (mkF m 0 #[.val (.ref a1), .val (.int (1 : Int32)), .val (.int p3)] [])) _
        refine XS.iloadN X0.here hx rfl (hb hby d4_0) rfl ?_
        show Steps p.tables e below (s₁.setTop (mkF m 1 #[.val (.ref a1), .val (.int (1 : Int32)), .val (.int p3)] [(.int p3)])) _
        refine XS.ifNo X0.here hx rfl (hb hby d4_1) rfl ((if0 _ _).trans (teq hp).2) ?_
        show Steps p.tables e below (s₁.setTop (mkF m 4 #[.val (.ref a1), .val (.int (1 : Int32)), .val (.int p3)] [])) _
        refine XS.iloadN X0.here hx rfl (hb hby d4_4) rfl ?_
        show Steps p.tables e below (s₁.setTop (mkF m 5 #[.val (.ref a1), .val (.int (1 : Int32)), .val (.int p3)] [(.int (1 : Int32))])) _
        exact retN X0 hx (t := .boolean) Bd.returns (by simp) (hb hby d4_5) hr
      · show Q4 Z a1 _ p3 h0 n0 _ s₁.heap _
        exact ⟨by rw [e0]; exact Z0, N0, some w, rfl, by rw [e0]; exact S0⟩
  · cases ov with
    | none =>
      obtain ⟨cq5, kq5, q5a, q5b, q5c⟩ := isOf hZ e0 S0.1
      obtain ⟨_, _, ⟨T5, L5, k5, n5⟩, -, X5, ⟨Lc5, hQ5, l5, y5, z5⟩, st5⟩ := X0.virtualBack hx (y := (⟨"com/example/tenon/tenon/OpenableScope", "open", "()V"⟩ : MethodName)) (z := (⟨"com/example/tenon/tenon/OpenableScope", "open", "()V"⟩ : MethodName)) hown (mvT hZ (hw _ (List.mem_of_getElem? (i := 25) rfl))) (mvT hZ (hw _ (List.mem_of_getElem? (i := 26) rfl))) (notFace_of_selects (args := #[]) (mvT hZ (hw _ (List.mem_of_getElem? (i := 28) rfl)))) (mvT hZ (hw _ (List.mem_of_getElem? (i := 28) rfl))) (mvT hZ (hw _ (List.mem_of_getElem? (i := 27) rfl))) (by decide) (own_backSync (W := 0) (rm6 l Z a0 hw [Jvm.Cond.instanceMethod (⟨"com/example/tenon/tenon/OpenableScope", "open", "()V"⟩ : MethodName)] (List.mem_cons_self ..) a1 h0 n0 Z0 S0.1 S0.2.1 S0.2.2.1 S0.2.2.2) hZ (hw _ (List.mem_of_getElem? (i := 29) rfl)) (hw _ (List.mem_of_getElem? (i := 27) rfl)) (hw _ (List.mem_of_getElem? (i := 2) rfl)) S0.2.2.2 (by decide) (by decide)) q5a q5c (g := (mkF m 17 #[.val (.ref a1), .val (.int (0 : Int32)), .val (.int p3)] [(.ref a1)])) rfl (by rw [hml]; rfl) (Steps.refl _) (argsL := []) (rest := []) (lenOf pd_v rfl) rfl (by show 2 * 0 + _ ≤ _; exact Nat.le_of_eq rfl) (hb hby d4_17) (fun _ _ => ⟨rfl, e0, (by decide : 0 + 2 ≤ _), (by decide : 0 + 13 ≤ _)⟩)
      dsimp only [Pt.U, Pt.locs, Pt.cells, Pt.slots] at X5 l5 y5 z5 st5 hQ5
      subst l5 y5 z5
      obtain ⟨rfl, N5q, Z5, wv, S5⟩ := hQ5
      obtain ⟨fs, hr, hrun, hended, hW, hsame⟩ := X5.leave (v := some (.int (1 : Int32))) (fun h => by rw [Bd.returns] at h; cases h)
      refine ⟨_, _, pre0 _ ?_, hrun, hended, _, _, rfl, ?_, ⟨_, rfl⟩, hW, hsame.mono (by decide) (by decide)⟩
      · show Steps p.tables e below (s₁.setTop (mkF m 0 #[.val (.ref a1), .val (.int (0 : Int32)), .val (.int p3)] [])) _
        refine XS.iloadN X0.here hx rfl (hb hby d4_0) rfl ?_
        show Steps p.tables e below (s₁.setTop (mkF m 1 #[.val (.ref a1), .val (.int (0 : Int32)), .val (.int p3)] [(.int p3)])) _
        refine XS.ifYes X0.here hx rfl (pc0 := 1) (pc' := 6) rfl (hb hby d4_1) rfl ((if0 _ _).trans (feq hp).2) (by decide) (by decide) ?_
        show Steps p.tables e below (s₁.setTop (mkF m 6 #[.val (.ref a1), .val (.int (0 : Int32)), .val (.int p3)] [])) _
        refine XS.iloadN X0.here hx rfl (hb hby d4_6) rfl ?_
        show Steps p.tables e below (s₁.setTop (mkF m 7 #[.val (.ref a1), .val (.int (0 : Int32)), .val (.int p3)] [(.int (0 : Int32))])) _
        refine XS.ifYes X0.here hx rfl (pc0 := 7) (pc' := 16) rfl (hb hby d4_7) rfl ((if0 _ _).trans (teq rfl).1) (by decide) (by decide) ?_
        show Steps p.tables e below (s₁.setTop (mkF m 16 #[.val (.ref a1), .val (.int (0 : Int32)), .val (.int p3)] [])) _
        refine XS.aloadN X0.here hx rfl (hb hby d4_16) rfl rfl ?_
        show Steps p.tables e below (s₁.setTop (mkF m 17 #[.val (.ref a1), .val (.int (0 : Int32)), .val (.int p3)] [(.ref a1)])) _
        refine st5.trans ?_
        show Steps p.tables e below (T5.setTop (mkF m 20 #[.val (.ref a1), .val (.int (0 : Int32)), .val (.int p3)] [])) _
        refine XS.iconst X5.here hx rfl (hb hby d4_20) ?_
        show Steps p.tables e below (T5.setTop (mkF m 21 #[.val (.ref a1), .val (.int (0 : Int32)), .val (.int p3)] [(.int (1 : Int32))])) _
        exact retN X5 hx (t := .boolean) Bd.returns (by simp) (hb hby d4_21) hr
      · show Q4 Z a1 _ p3 h0 n0 _ T5.heap _
        exact ⟨Z5, Fr.app N0 N5q, some wv, rfl, S5⟩
    | some w =>
      obtain ⟨cq5, kq5, q5a, q5b, q5c⟩ := isOf hZ e0 S0.1
      obtain ⟨_, _, ⟨T5, L5, k5, n5⟩, -, X5, ⟨Lc5, hQ5, l5, y5, z5⟩, st5⟩ := X0.virtualBack hx (y := (⟨"com/example/tenon/tenon/OpenableScope", "close", "()V"⟩ : MethodName)) (z := (⟨"com/example/tenon/tenon/OpenableScope", "close", "()V"⟩ : MethodName)) hown (mvT hZ (hw _ (List.mem_of_getElem? (i := 52) rfl))) (mvT hZ (hw _ (List.mem_of_getElem? (i := 53) rfl))) (notFace_of_selects (args := #[]) (mvT hZ (hw _ (List.mem_of_getElem? (i := 55) rfl)))) (mvT hZ (hw _ (List.mem_of_getElem? (i := 55) rfl))) (mvT hZ (hw _ (List.mem_of_getElem? (i := 54) rfl))) (by decide) (own_backSync (W := 0) (rm10 l Z a0 hw [Jvm.Cond.instanceMethod (⟨"com/example/tenon/tenon/OpenableScope", "close", "()V"⟩ : MethodName)] (List.mem_cons_self ..) a1 w h0 n0 Z0 S0.1 S0.2.1 S0.2.2.1 S0.2.2.2) hZ (hw _ (List.mem_of_getElem? (i := 56) rfl)) (hw _ (List.mem_of_getElem? (i := 54) rfl)) (hw _ (List.mem_of_getElem? (i := 2) rfl)) S0.2.2.2 (by decide) (by decide)) q5a q5c (g := (mkF m 11 #[.val (.ref a1), .val (.int (1 : Int32)), .val (.int p3)] [(.ref a1)])) rfl (by rw [hml]; rfl) (Steps.refl _) (argsL := []) (rest := []) (lenOf pd_v rfl) rfl (by show 2 * 0 + _ ≤ _; exact Nat.le_of_eq rfl) (hb hby d4_11) (fun _ _ => ⟨rfl, e0, (by decide : 0 + 0 ≤ _), (by decide : 0 + 0 ≤ _)⟩)
      dsimp only [Pt.U, Pt.locs, Pt.cells, Pt.slots] at X5 l5 y5 z5 st5 hQ5
      subst l5 y5 z5
      obtain ⟨rfl, N5q, Z5, S5⟩ := hQ5
      obtain ⟨fs, hr, hrun, hended, hW, hsame⟩ := X5.leave (v := some (.int (0 : Int32))) (fun h => by rw [Bd.returns] at h; cases h)
      refine ⟨_, _, pre0 _ ?_, hrun, hended, _, _, rfl, ?_, ⟨_, rfl⟩, hW, hsame.mono (by decide) (by decide)⟩
      · show Steps p.tables e below (s₁.setTop (mkF m 0 #[.val (.ref a1), .val (.int (1 : Int32)), .val (.int p3)] [])) _
        refine XS.iloadN X0.here hx rfl (hb hby d4_0) rfl ?_
        show Steps p.tables e below (s₁.setTop (mkF m 1 #[.val (.ref a1), .val (.int (1 : Int32)), .val (.int p3)] [(.int p3)])) _
        refine XS.ifYes X0.here hx rfl (pc0 := 1) (pc' := 6) rfl (hb hby d4_1) rfl ((if0 _ _).trans (feq hp).2) (by decide) (by decide) ?_
        show Steps p.tables e below (s₁.setTop (mkF m 6 #[.val (.ref a1), .val (.int (1 : Int32)), .val (.int p3)] [])) _
        refine XS.iloadN X0.here hx rfl (hb hby d4_6) rfl ?_
        show Steps p.tables e below (s₁.setTop (mkF m 7 #[.val (.ref a1), .val (.int (1 : Int32)), .val (.int p3)] [(.int (1 : Int32))])) _
        refine XS.ifNo X0.here hx rfl (hb hby d4_7) rfl ((if0 _ _).trans (feq (by decide)).1) ?_
        show Steps p.tables e below (s₁.setTop (mkF m 10 #[.val (.ref a1), .val (.int (1 : Int32)), .val (.int p3)] [])) _
        refine XS.aloadN X0.here hx rfl (hb hby d4_10) rfl rfl ?_
        show Steps p.tables e below (s₁.setTop (mkF m 11 #[.val (.ref a1), .val (.int (1 : Int32)), .val (.int p3)] [(.ref a1)])) _
        refine st5.trans ?_
        show Steps p.tables e below (T5.setTop (mkF m 14 #[.val (.ref a1), .val (.int (1 : Int32)), .val (.int p3)] [])) _
        refine XS.iconst X5.here hx rfl (hb hby d4_14) ?_
        show Steps p.tables e below (T5.setTop (mkF m 15 #[.val (.ref a1), .val (.int (1 : Int32)), .val (.int p3)] [(.int (0 : Int32))])) _
        exact retN X5 hx (t := .boolean) Bd.returns (by simp) (hb hby d4_15) hr
      · show Q4 Z a1 _ p3 h0 n0 _ T5.heap _
        exact ⟨Z5, Fr.app N0 N5q, none, rfl, S5⟩
theorem pn_0 : plainName "com/example/tenon/tenon/OpenableScopeIsOpenPinLaw" = true := by first | (simp [plainName, overriddenIn]; done) | decide +kernel
theorem pd_0_0 : parseMethodDescriptor "()V" = some ⟨[], none⟩ := by decide +kernel
theorem pd_0_1 : parseMethodDescriptor "()Z" = some ⟨[], some .boolean⟩ := by decide +kernel
theorem pd_0_2 : parseMethodDescriptor "(Lcom/example/tenon/tenon/OpenableScope;ZZ)Z" = some ⟨[(.object "com/example/tenon/tenon/OpenableScope"), .boolean, .boolean], some .boolean⟩ := by decide +kernel
theorem ef_0 (m : MethodId) (x0 : Int32) : entryFrame m #[(.int x0)] maxLocals = mkF m 0 #[.val (.int x0), .unset, .unset, .unset] [] := by first | (simp [entryFrame, mkF, argsToLocals, Value.category, maxLocals]; done) | rfl
theorem pd_cur : parseMethodDescriptor "()Lcom/example/tenon/tenon/Scope$Opening;" = some ⟨[], some (.object "com/example/tenon/tenon/Scope$Opening")⟩ := by decide +kernel
def own_t (p k : Int32) : Int32 := if p &&& k = 0 then 0 else 1
set_option maxRecDepth 65536 in
set_option maxHeartbeats 40000000 in
theorem own_togA {p : Program} {l : Launch} {e : Env} {R : Room} {s : State} {m : MethodId} {args : Array Value} {below : List Frame} {meth : Method} {c : Code} {T0 : State} {locs : List Loc} {cells slots : Nat} {Z : State} {a0 : Array Value} {p1 : Int32} {b2 : Addr} {ok md : Int32}
    (X0 : Stand p l e R s m args below meth c T0 locs cells slots) (hx : p.tables.exec = Jvm.exec) (hZ : Z.Warmed39 s.vm) (hw : ∀ d ∈ tables_1, d.before a0 Z = true) (hby : c.code = code) (hown : s.vm.findClass "com/example/tenon/tenon/OpenableScopeIsOpenPinLaw" = some m.cls) :
    ∀ target, Steps p.tables e below (T0.setTop (mkF m 36 #[.val (.int p1), .val (.ref b2), .val (.int ok), .val (.int md)] [(.int (own_t p1 (1 : Int32))), (.int md), (.ref b2)])) target → Steps p.tables e below (T0.setTop (mkF m 25 #[.val (.int p1), .val (.ref b2), .val (.int ok), .val (.int md)] [(.int md), (.ref b2)])) target := by
  intro target kt
  by_cases h : p1 &&& (1 : Int32) = 0
  · rw [show own_t p1 (1 : Int32) = 0 from if_pos h] at kt
    show Steps p.tables e below (T0.setTop (mkF m 25 #[.val (.int p1), .val (.ref b2), .val (.int ok), .val (.int md)] [(.int md), (.ref b2)])) _
    refine XS.iloadN X0.here hx rfl (hb hby at_25) rfl ?_
    show Steps p.tables e below (T0.setTop (mkF m 26 #[.val (.int p1), .val (.ref b2), .val (.int ok), .val (.int md)] [(.int p1), (.int md), (.ref b2)])) _
    refine XS.iconst X0.here hx rfl (hb hby at_26) ?_
    show Steps p.tables e below (T0.setTop (mkF m 27 #[.val (.int p1), .val (.ref b2), .val (.int ok), .val (.int md)] [(.int (1 : Int32)), (.int p1), (.int md), (.ref b2)])) _
    refine XS.iand X0.here hx rfl (hb hby at_27) rfl ?_
    show Steps p.tables e below (T0.setTop (mkF m 28 #[.val (.int p1), .val (.ref b2), .val (.int ok), .val (.int md)] [(.int (p1 &&& (1 : Int32))), (.int md), (.ref b2)])) _
    refine XS.ifYes X0.here hx rfl (pc0 := 28) (pc' := 35) rfl (hb hby at_28) rfl ((if0 _ _).trans (teq h).1) (by decide) (by decide) ?_
    show Steps p.tables e below (T0.setTop (mkF m 35 #[.val (.int p1), .val (.ref b2), .val (.int ok), .val (.int md)] [(.int md), (.ref b2)])) _
    refine XS.iconst X0.here hx rfl (hb hby at_35) ?_
    exact kt
  · rw [show own_t p1 (1 : Int32) = 1 from if_neg h] at kt
    show Steps p.tables e below (T0.setTop (mkF m 25 #[.val (.int p1), .val (.ref b2), .val (.int ok), .val (.int md)] [(.int md), (.ref b2)])) _
    refine XS.iloadN X0.here hx rfl (hb hby at_25) rfl ?_
    show Steps p.tables e below (T0.setTop (mkF m 26 #[.val (.int p1), .val (.ref b2), .val (.int ok), .val (.int md)] [(.int p1), (.int md), (.ref b2)])) _
    refine XS.iconst X0.here hx rfl (hb hby at_26) ?_
    show Steps p.tables e below (T0.setTop (mkF m 27 #[.val (.int p1), .val (.ref b2), .val (.int ok), .val (.int md)] [(.int (1 : Int32)), (.int p1), (.int md), (.ref b2)])) _
    refine XS.iand X0.here hx rfl (hb hby at_27) rfl ?_
    show Steps p.tables e below (T0.setTop (mkF m 28 #[.val (.int p1), .val (.ref b2), .val (.int ok), .val (.int md)] [(.int (p1 &&& (1 : Int32))), (.int md), (.ref b2)])) _
    refine XS.ifNo X0.here hx rfl (hb hby at_28) rfl ((if0 _ _).trans (feq h).1) ?_
    show Steps p.tables e below (T0.setTop (mkF m 31 #[.val (.int p1), .val (.ref b2), .val (.int ok), .val (.int md)] [(.int md), (.ref b2)])) _
    refine XS.iconst X0.here hx rfl (hb hby at_31) ?_
    show Steps p.tables e below (T0.setTop (mkF m 32 #[.val (.int p1), .val (.ref b2), .val (.int ok), .val (.int md)] [(.int (1 : Int32)), (.int md), (.ref b2)])) _
    refine XS.goto X0.here hx rfl (pc0 := 32) (pc' := 36) rfl (hb hby at_32) (by decide) (by decide) ?_
    exact kt
set_option maxRecDepth 65536 in
set_option maxHeartbeats 40000000 in
theorem own_togB {p : Program} {l : Launch} {e : Env} {R : Room} {s : State} {m : MethodId} {args : Array Value} {below : List Frame} {meth : Method} {c : Code} {T0 : State} {locs : List Loc} {cells slots : Nat} {Z : State} {a0 : Array Value} {p1 : Int32} {b2 : Addr} {ok md : Int32}
    (X0 : Stand p l e R s m args below meth c T0 locs cells slots) (hx : p.tables.exec = Jvm.exec) (hZ : Z.Warmed39 s.vm) (hw : ∀ d ∈ tables_1, d.before a0 Z = true) (hby : c.code = code) (hown : s.vm.findClass "com/example/tenon/tenon/OpenableScopeIsOpenPinLaw" = some m.cls) :
    ∀ target, Steps p.tables e below (T0.setTop (mkF m 69 #[.val (.int p1), .val (.ref b2), .val (.int ok), .val (.int md)] [(.int (own_t p1 (2 : Int32))), (.int md), (.ref b2)])) target → Steps p.tables e below (T0.setTop (mkF m 58 #[.val (.int p1), .val (.ref b2), .val (.int ok), .val (.int md)] [(.int md), (.ref b2)])) target := by
  intro target kt
  by_cases h : p1 &&& (2 : Int32) = 0
  · rw [show own_t p1 (2 : Int32) = 0 from if_pos h] at kt
    show Steps p.tables e below (T0.setTop (mkF m 58 #[.val (.int p1), .val (.ref b2), .val (.int ok), .val (.int md)] [(.int md), (.ref b2)])) _
    refine XS.iloadN X0.here hx rfl (hb hby at_58) rfl ?_
    show Steps p.tables e below (T0.setTop (mkF m 59 #[.val (.int p1), .val (.ref b2), .val (.int ok), .val (.int md)] [(.int p1), (.int md), (.ref b2)])) _
    refine XS.iconst X0.here hx rfl (hb hby at_59) ?_
    show Steps p.tables e below (T0.setTop (mkF m 60 #[.val (.int p1), .val (.ref b2), .val (.int ok), .val (.int md)] [(.int (2 : Int32)), (.int p1), (.int md), (.ref b2)])) _
    refine XS.iand X0.here hx rfl (hb hby at_60) rfl ?_
    show Steps p.tables e below (T0.setTop (mkF m 61 #[.val (.int p1), .val (.ref b2), .val (.int ok), .val (.int md)] [(.int (p1 &&& (2 : Int32))), (.int md), (.ref b2)])) _
    refine XS.ifYes X0.here hx rfl (pc0 := 61) (pc' := 68) rfl (hb hby at_61) rfl ((if0 _ _).trans (teq h).1) (by decide) (by decide) ?_
    show Steps p.tables e below (T0.setTop (mkF m 68 #[.val (.int p1), .val (.ref b2), .val (.int ok), .val (.int md)] [(.int md), (.ref b2)])) _
    refine XS.iconst X0.here hx rfl (hb hby at_68) ?_
    exact kt
  · rw [show own_t p1 (2 : Int32) = 1 from if_neg h] at kt
    show Steps p.tables e below (T0.setTop (mkF m 58 #[.val (.int p1), .val (.ref b2), .val (.int ok), .val (.int md)] [(.int md), (.ref b2)])) _
    refine XS.iloadN X0.here hx rfl (hb hby at_58) rfl ?_
    show Steps p.tables e below (T0.setTop (mkF m 59 #[.val (.int p1), .val (.ref b2), .val (.int ok), .val (.int md)] [(.int p1), (.int md), (.ref b2)])) _
    refine XS.iconst X0.here hx rfl (hb hby at_59) ?_
    show Steps p.tables e below (T0.setTop (mkF m 60 #[.val (.int p1), .val (.ref b2), .val (.int ok), .val (.int md)] [(.int (2 : Int32)), (.int p1), (.int md), (.ref b2)])) _
    refine XS.iand X0.here hx rfl (hb hby at_60) rfl ?_
    show Steps p.tables e below (T0.setTop (mkF m 61 #[.val (.int p1), .val (.ref b2), .val (.int ok), .val (.int md)] [(.int (p1 &&& (2 : Int32))), (.int md), (.ref b2)])) _
    refine XS.ifNo X0.here hx rfl (hb hby at_61) rfl ((if0 _ _).trans (feq h).1) ?_
    show Steps p.tables e below (T0.setTop (mkF m 64 #[.val (.int p1), .val (.ref b2), .val (.int ok), .val (.int md)] [(.int md), (.ref b2)])) _
    refine XS.iconst X0.here hx rfl (hb hby at_64) ?_
    show Steps p.tables e below (T0.setTop (mkF m 65 #[.val (.int p1), .val (.ref b2), .val (.int ok), .val (.int md)] [(.int (1 : Int32)), (.int md), (.ref b2)])) _
    refine XS.goto X0.here hx rfl (pc0 := 65) (pc' := 69) rfl (hb hby at_65) (by decide) (by decide) ?_
    exact kt
set_option maxRecDepth 65536 in
set_option maxHeartbeats 40000000 in
theorem own_togC {p : Program} {l : Launch} {e : Env} {R : Room} {s : State} {m : MethodId} {args : Array Value} {below : List Frame} {meth : Method} {c : Code} {T0 : State} {locs : List Loc} {cells slots : Nat} {Z : State} {a0 : Array Value} {p1 : Int32} {b2 : Addr} {ok md : Int32}
    (X0 : Stand p l e R s m args below meth c T0 locs cells slots) (hx : p.tables.exec = Jvm.exec) (hZ : Z.Warmed39 s.vm) (hw : ∀ d ∈ tables_1, d.before a0 Z = true) (hby : c.code = code) (hown : s.vm.findClass "com/example/tenon/tenon/OpenableScopeIsOpenPinLaw" = some m.cls) :
    ∀ target, Steps p.tables e below (T0.setTop (mkF m 102 #[.val (.int p1), .val (.ref b2), .val (.int ok), .val (.int md)] [(.int (own_t p1 (4 : Int32))), (.int md), (.ref b2)])) target → Steps p.tables e below (T0.setTop (mkF m 91 #[.val (.int p1), .val (.ref b2), .val (.int ok), .val (.int md)] [(.int md), (.ref b2)])) target := by
  intro target kt
  by_cases h : p1 &&& (4 : Int32) = 0
  · rw [show own_t p1 (4 : Int32) = 0 from if_pos h] at kt
    show Steps p.tables e below (T0.setTop (mkF m 91 #[.val (.int p1), .val (.ref b2), .val (.int ok), .val (.int md)] [(.int md), (.ref b2)])) _
    refine XS.iloadN X0.here hx rfl (hb hby at_91) rfl ?_
    show Steps p.tables e below (T0.setTop (mkF m 92 #[.val (.int p1), .val (.ref b2), .val (.int ok), .val (.int md)] [(.int p1), (.int md), (.ref b2)])) _
    refine XS.iconst X0.here hx rfl (hb hby at_92) ?_
    show Steps p.tables e below (T0.setTop (mkF m 93 #[.val (.int p1), .val (.ref b2), .val (.int ok), .val (.int md)] [(.int (4 : Int32)), (.int p1), (.int md), (.ref b2)])) _
    refine XS.iand X0.here hx rfl (hb hby at_93) rfl ?_
    show Steps p.tables e below (T0.setTop (mkF m 94 #[.val (.int p1), .val (.ref b2), .val (.int ok), .val (.int md)] [(.int (p1 &&& (4 : Int32))), (.int md), (.ref b2)])) _
    refine XS.ifYes X0.here hx rfl (pc0 := 94) (pc' := 101) rfl (hb hby at_94) rfl ((if0 _ _).trans (teq h).1) (by decide) (by decide) ?_
    show Steps p.tables e below (T0.setTop (mkF m 101 #[.val (.int p1), .val (.ref b2), .val (.int ok), .val (.int md)] [(.int md), (.ref b2)])) _
    refine XS.iconst X0.here hx rfl (hb hby at_101) ?_
    exact kt
  · rw [show own_t p1 (4 : Int32) = 1 from if_neg h] at kt
    show Steps p.tables e below (T0.setTop (mkF m 91 #[.val (.int p1), .val (.ref b2), .val (.int ok), .val (.int md)] [(.int md), (.ref b2)])) _
    refine XS.iloadN X0.here hx rfl (hb hby at_91) rfl ?_
    show Steps p.tables e below (T0.setTop (mkF m 92 #[.val (.int p1), .val (.ref b2), .val (.int ok), .val (.int md)] [(.int p1), (.int md), (.ref b2)])) _
    refine XS.iconst X0.here hx rfl (hb hby at_92) ?_
    show Steps p.tables e below (T0.setTop (mkF m 93 #[.val (.int p1), .val (.ref b2), .val (.int ok), .val (.int md)] [(.int (4 : Int32)), (.int p1), (.int md), (.ref b2)])) _
    refine XS.iand X0.here hx rfl (hb hby at_93) rfl ?_
    show Steps p.tables e below (T0.setTop (mkF m 94 #[.val (.int p1), .val (.ref b2), .val (.int ok), .val (.int md)] [(.int (p1 &&& (4 : Int32))), (.int md), (.ref b2)])) _
    refine XS.ifNo X0.here hx rfl (hb hby at_94) rfl ((if0 _ _).trans (feq h).1) ?_
    show Steps p.tables e below (T0.setTop (mkF m 97 #[.val (.int p1), .val (.ref b2), .val (.int ok), .val (.int md)] [(.int md), (.ref b2)])) _
    refine XS.iconst X0.here hx rfl (hb hby at_97) ?_
    show Steps p.tables e below (T0.setTop (mkF m 98 #[.val (.int p1), .val (.ref b2), .val (.int ok), .val (.int md)] [(.int (1 : Int32)), (.int md), (.ref b2)])) _
    refine XS.goto X0.here hx rfl (pc0 := 98) (pc' := 102) rfl (hb hby at_98) (by decide) (by decide) ?_
    exact kt
set_option maxRecDepth 65536 in
set_option maxHeartbeats 40000000 in
theorem own_cur {p : Program} {l : Launch} {e : Env} {R : Room} {s : State} {m : MethodId} {args : Array Value} {below : List Frame} {meth : Method} {c : Code} {T0 : State} {locs : List Loc} {cells slots : Nat} {Z : State} {a0 : Array Value} {p1 : Int32} {b2 : Addr} {ok md : Int32} {ov : Option Addr}
    (X0 : Stand p l e R s m args below meth c T0 locs cells slots) (hx : p.tables.exec = Jvm.exec) (hZ : Z.Warmed39 s.vm) (hw : ∀ d ∈ tables_1, d.before a0 Z = true) (hby : c.code = code) (hown : s.vm.findClass "com/example/tenon/tenon/OpenableScopeIsOpenPinLaw" = some m.cls) :
    ∀ target, Steps p.tables e below (T0.setTop (mkF m 135 #[.val (.int p1), .val (.ref b2), .val (.int ok), .val (.int md)] [(.int (own_b ov)), (.int ok)])) target → Steps p.tables e below (T0.setTop (mkF m 127 #[.val (.int p1), .val (.ref b2), .val (.int ok), .val (.int md)] [(own_val ov), (.int ok)])) target := by
  intro target kt
  cases ov with
  | none =>
    show Steps p.tables e below (T0.setTop (mkF m 127 #[.val (.int p1), .val (.ref b2), .val (.int ok), .val (.int md)] [.null, (.int ok)])) _
    refine XS.ifnullYes X0.here hx rfl (pc0 := 127) (pc' := 134) rfl (hb hby at_127) rfl (by decide) (by decide) ?_
    show Steps p.tables e below (T0.setTop (mkF m 134 #[.val (.int p1), .val (.ref b2), .val (.int ok), .val (.int md)] [(.int ok)])) _
    refine XS.iconst X0.here hx rfl (hb hby at_134) ?_
    exact kt
  | some w =>
    show Steps p.tables e below (T0.setTop (mkF m 127 #[.val (.int p1), .val (.ref b2), .val (.int ok), .val (.int md)] [(.ref w), (.int ok)])) _
    refine XS.ifnullNo X0.here hx rfl (hb hby at_127) rfl ?_
    show Steps p.tables e below (T0.setTop (mkF m 130 #[.val (.int p1), .val (.ref b2), .val (.int ok), .val (.int md)] [(.int ok)])) _
    refine XS.iconst X0.here hx rfl (hb hby at_130) ?_
    show Steps p.tables e below (T0.setTop (mkF m 131 #[.val (.int p1), .val (.ref b2), .val (.int ok), .val (.int md)] [(.int (1 : Int32)), (.int ok)])) _
    refine XS.goto X0.here hx rfl (pc0 := 131) (pc' := 135) rfl (hb hby at_131) (by decide) (by decide) ?_
    exact kt
-- 2. THE CONTRACT: what this body leaves is yours
def Q0 (Z : State) (p1 : Int32) (h0 : Heap) (n0 : Nat) (v : Option Value) (h : Heap) (L : List Loc) : Prop := v = some (.int (1 : Int32)) ∧ Fr n0 L
-- its room: frames: the greatest, locals: the greatest, cells 1 + .., slots 1 + ..: rm1: frames + 1; locals 1 + 1 + 11 + its room's locals; its cells and slots besides; rm3: frames + 1; locals 0 + 1 + 11 + its room's locals; its cells and slots besides; rm4: frames + 1; locals 0 + 3 + 11 + its room's locals; its cells and slots besides; rm3: frames + 1; locals 1 + 1 + 11 + its room's locals; its cells and slots besides
set_option maxRecDepth 65536 in
set_option maxHeartbeats 40000000 in
theorem rm0 (l : Launch) (Z : State) (a0 : Array Value) (hw : ∀ d ∈ tables_1, d.before a0 Z = true) (ws : List Jvm.Cond) (p1 : Int32) (h0 : Heap) (n0 : Nat) (Z0 : n0 ≤ h0.size) :
    MetFree l x (head1 (Jvm.Cond.code x code maxLocals ret :: ws) room_1) (fun a U => a = #[(.int p1)] ∧ Z.Warmed39 U.vm ∧ U.heap = h0) (fun _ _ _ _ _ => True) (fun _ U o U' => ∃ v L, o = .returned v ∧ Q0 Z p1 h0 n0 v U'.heap L ∧ FrameEnd U o U' L room_1.cells room_1.slots) := by
  refine MetFree.of_bodySF (plainFor_of_name pn_0) hisR ?_
  intro p e s m args below meth c s₁ Bd hml0 hP hK
  obtain ⟨rfl, hZ, hh⟩ := hP
  have hx := Bd.exec
  have hby := Bd.bytes
  have hml : c.maxLocals = 4 := hml0
  have hown : s.vm.findClass "com/example/tenon/tenon/OpenableScopeIsOpenPinLaw" = some m.cls := findClass_of_methodNamed Bd.named
  have hnm := (name_of_methodNamed Bd.named Bd.method).1
  have X0 : Stand p l e room_1 s m #[(.int p1)] below meth c s₁ [] 0 0 := Stand.of_body Bd
  have e0 : s₁.heap = h0 := by rw [← hh, Bd.state]; rfl
  have N0 := Fr.nil n0
  have pre0 : ∀ t, Steps p.tables e below (s₁.setTop (mkF m 0 #[.val (.int p1), .unset, .unset, .unset] [])) t → Steps p.tables e below (s₁.setTop (entryFrame m #[(.int p1)] maxLocals)) t := fun t k => castTop (ef_0 m p1) k
  obtain ⟨T2, h2, X2, e2, E2, A2, D2, U2, st2⟩ := newO X0 hx hZ hown (hw _ (List.mem_of_getElem? (i := 0) rfl)) (hw _ (List.mem_of_getElem? (i := 1) rfl)) (hw _ (List.mem_of_getElem? (i := 2) rfl)) e0 (g := (mkF m 0 #[.val (.int p1), .unset, .unset, .unset] [])) rfl (hb hby at_0) (by decide) (by decide)
  obtain ⟨b2, g2⟩ : ∃ z, z = h0.size := ⟨_, rfl⟩
  rw [← g2] at A2 D2 U2 st2
  have F2 : Fld Z h2 b2 "com/example/tenon/tenon/OpenableScope" "opening" "Lcom/example/tenon/tenon/Scope$Opening;" .null := D2 (Or.inl (hw _ (List.mem_of_getElem? (i := 15) rfl))) (ty := (.object "com/example/tenon/tenon/Scope$Opening")) (by decide)
  have g_b2 : n0 ≤ b2 := Nat.le_trans Z0 (Nat.le_of_eq g2.symm)
  obtain ⟨_, _, ⟨T3, L3, k3, n3⟩, -, X3, ⟨Lc3, hQ3, l3, y3, z3⟩, st3⟩ := X2.specialBack hx (y := (⟨"com/example/tenon/tenon/OpenableScope", "<init>", "()V"⟩ : MethodName)) rfl hown (mvT hZ (hw _ (List.mem_of_getElem? (i := 3) rfl))) (mvT hZ (hw _ (List.mem_of_getElem? (i := 4) rfl))) (mvT hZ (hw _ (List.mem_of_getElem? (i := 5) rfl))) (by decide) (backOf (W := 1) (rm1 l Z a0 hw [] b2 h2 n0 (Nat.le_trans Z0 E2.1)) hZ (hw _ (List.mem_of_getElem? (i := 5) rfl)) (hw _ (List.mem_of_getElem? (i := 2) rfl)) (by decide) (by decide)) (g := (mkF m 4 #[.val (.int p1), .unset, .unset, .unset] [(.ref b2), (.ref b2)])) rfl (by rw [hml]; rfl) (Steps.refl _) (a := b2) (argsL := []) (rest := [(.ref b2)]) (lenOf pd_v rfl) rfl (by show 2 * 0 + _ ≤ _; exact Nat.le_of_eq rfl) (hb hby at_4) (fun _ _ => ⟨rfl, e2, (by decide : 1 + 0 ≤ _), (by decide : 1 + 0 ≤ _)⟩)
  dsimp only [Pt.U, Pt.locs, Pt.cells, Pt.slots] at X3 l3 y3 z3 st3 hQ3
  subst l3 y3 z3
  obtain ⟨rfl, N3q, q3⟩ := hQ3
  have N3 := Fr.app N0 N3q
  have Z3 : n0 ≤ T3.heap.size := by rw [q3]; exact Nat.le_trans Z0 E2.1
  have S3 : own_S Z T3.heap n0 b2 none := by rw [q3]; exact ⟨A2, F2, g_b2, U2⟩
  obtain ⟨cq4, kq4, q4a, q4b, q4c⟩ := isOf hZ rfl S3.1
  obtain ⟨_, _, ⟨T4, L4, k4, n4⟩, -, X4, ⟨Lc4, hQ4, l4, y4, z4⟩, st4⟩ := X3.virtualBack hx (y := (⟨"com/example/tenon/tenon/OpenableScope", "isOpen", "()Z"⟩ : MethodName)) (z := (⟨"com/example/tenon/tenon/OpenableScope", "isOpen", "()Z"⟩ : MethodName)) hown (mvT hZ (hw _ (List.mem_of_getElem? (i := 9) rfl))) (mvT hZ (hw _ (List.mem_of_getElem? (i := 10) rfl))) (notFace_of_selects (args := #[]) (mvT hZ (hw _ (List.mem_of_getElem? (i := 12) rfl)))) (mvT hZ (hw _ (List.mem_of_getElem? (i := 12) rfl))) (mvT hZ (hw _ (List.mem_of_getElem? (i := 11) rfl))) (by decide) (backOf (W := 0) (rm3 l Z a0 hw [] b2 none T3.heap n0 Z3 S3.2.1) hZ (hw _ (List.mem_of_getElem? (i := 13) rfl)) (hw _ (List.mem_of_getElem? (i := 2) rfl)) (by decide) (by decide)) q4a q4c (g := (mkF m 9 #[.val (.int p1), .val (.ref b2), .unset, .unset] [(.ref b2)])) rfl (by rw [hml]; rfl) (Steps.refl _) (argsL := []) (rest := []) (lenOf pd_0_1 rfl) rfl (by show 2 * 0 + _ ≤ _; exact Nat.le_of_eq rfl) (hb hby at_9) (fun _ _ => ⟨rfl, rfl, (by decide : 1 + 0 ≤ _), (by decide : 1 + 0 ≤ _)⟩)
  dsimp only [Pt.U, Pt.locs, Pt.cells, Pt.slots] at X4 l4 y4 z4 st4 hQ4
  subst l4 y4 z4
  obtain ⟨rfl, N4q, q4⟩ := hQ4
  have N4 := Fr.app N3 N4q
  have Z4 : n0 ≤ T4.heap.size := by rw [q4]; exact Z3
  have S4 : own_S Z T4.heap n0 b2 none := by rw [q4]; exact S3
  obtain ⟨_, _, ⟨T5, L5, k5, n5⟩, -, X5, ⟨Lc5, hQ5, l5, y5, z5⟩, st5⟩ := Jvm.LawKit.callS X4 hx (y := (⟨"com/example/tenon/tenon/OpenableScopeIsOpenPinLaw", "step", "(Lcom/example/tenon/tenon/OpenableScope;ZZ)Z"⟩ : MethodName)) hown (mvT hZ (hw _ (List.mem_of_getElem? (i := 16) rfl))) (mvT hZ (hw _ (List.mem_of_getElem? (i := 17) rfl))) (mvT hZ (hw _ (List.mem_of_getElem? (i := 18) rfl))) (mvT hZ (hw _ (List.mem_of_getElem? (i := 19) rfl))) (by decide) (backOf (W := 0) (rm4 l Z a0 hw [] b2 none (own_t p1 (1 : Int32)) T4.heap n0 Z4 S4) hZ (hw _ (List.mem_of_getElem? (i := 19) rfl)) (hw _ (List.mem_of_getElem? (i := 18) rfl)) (by decide) (by decide)) (g := (mkF m 36 #[.val (.int p1), .val (.ref b2), .val (.int (1 : Int32)), .val (.int (0 : Int32))] [(.int (own_t p1 (1 : Int32))), (.int (0 : Int32)), (.ref b2)])) rfl (by rw [hml]; rfl) (argsL := [(.ref b2), (.int (0 : Int32)), (.int (own_t p1 (1 : Int32)))]) (rest := []) (lenOf pd_0_2 rfl) rfl (by show 2 * 0 + _ ≤ _; exact Nat.le_of_eq rfl) (hb hby at_36) (fun _ _ => ⟨rfl, rfl, (by decide : 1 + 2 ≤ _), (by decide : 1 + 13 ≤ _)⟩)
  dsimp only [Pt.U, Pt.locs, Pt.cells, Pt.slots] at X5 l5 y5 z5 st5 hQ5
  subst l5 y5 z5
  obtain ⟨Z5, N5q, o5, rfl, S5⟩ := hQ5
  have N5 := Fr.app N4 N5q
  obtain ⟨cq6, kq6, q6a, q6b, q6c⟩ := isOf hZ rfl S5.1
  obtain ⟨_, _, ⟨T6, L6, k6, n6⟩, -, X6, ⟨Lc6, hQ6, l6, y6, z6⟩, st6⟩ := X5.virtualBack hx (y := (⟨"com/example/tenon/tenon/OpenableScope", "isOpen", "()Z"⟩ : MethodName)) (z := (⟨"com/example/tenon/tenon/OpenableScope", "isOpen", "()Z"⟩ : MethodName)) hown (mvT hZ (hw _ (List.mem_of_getElem? (i := 9) rfl))) (mvT hZ (hw _ (List.mem_of_getElem? (i := 10) rfl))) (notFace_of_selects (args := #[]) (mvT hZ (hw _ (List.mem_of_getElem? (i := 12) rfl)))) (mvT hZ (hw _ (List.mem_of_getElem? (i := 12) rfl))) (mvT hZ (hw _ (List.mem_of_getElem? (i := 11) rfl))) (by decide) (backOf (W := 1) (rm3 l Z a0 hw [] b2 o5 T5.heap n0 Z5 S5.2.1) hZ (hw _ (List.mem_of_getElem? (i := 13) rfl)) (hw _ (List.mem_of_getElem? (i := 2) rfl)) (by decide) (by decide)) q6a q6c (g := (mkF m 42 #[.val (.int p1), .val (.ref b2), .val (.int (1 : Int32)), .val (.int (own_b o5))] [(.ref b2), (.int (1 : Int32))])) rfl (by rw [hml]; rfl) (Steps.refl _) (argsL := []) (rest := [(.int (1 : Int32))]) (lenOf pd_0_1 rfl) rfl (by show 2 * 0 + _ ≤ _; exact Nat.le_of_eq rfl) (hb hby at_42) (fun _ _ => ⟨rfl, rfl, (by decide : 3 + 0 ≤ _), (by decide : 14 + 0 ≤ _)⟩)
  dsimp only [Pt.U, Pt.locs, Pt.cells, Pt.slots] at X6 l6 y6 z6 st6 hQ6
  subst l6 y6 z6
  obtain ⟨rfl, N6q, q6⟩ := hQ6
  have N6 := Fr.app N5 N6q
  have Z6 : n0 ≤ T6.heap.size := by rw [q6]; exact Z5
  have S6 : own_S Z T6.heap n0 b2 o5 := by rw [q6]; exact S5
  obtain ⟨_, _, ⟨T7, L7, k7, n7⟩, -, X7, ⟨Lc7, hQ7, l7, y7, z7⟩, st7⟩ := Jvm.LawKit.callS X6 hx (y := (⟨"com/example/tenon/tenon/OpenableScopeIsOpenPinLaw", "step", "(Lcom/example/tenon/tenon/OpenableScope;ZZ)Z"⟩ : MethodName)) hown (mvT hZ (hw _ (List.mem_of_getElem? (i := 16) rfl))) (mvT hZ (hw _ (List.mem_of_getElem? (i := 17) rfl))) (mvT hZ (hw _ (List.mem_of_getElem? (i := 18) rfl))) (mvT hZ (hw _ (List.mem_of_getElem? (i := 19) rfl))) (by decide) (backOf (W := 0) (rm4 l Z a0 hw [] b2 o5 (own_t p1 (2 : Int32)) T6.heap n0 Z6 S6) hZ (hw _ (List.mem_of_getElem? (i := 19) rfl)) (hw _ (List.mem_of_getElem? (i := 18) rfl)) (by decide) (by decide)) (g := (mkF m 69 #[.val (.int p1), .val (.ref b2), .val (.int (1 : Int32)), .val (.int (own_b o5))] [(.int (own_t p1 (2 : Int32))), (.int (own_b o5)), (.ref b2)])) rfl (by rw [hml]; rfl) (argsL := [(.ref b2), (.int (own_b o5)), (.int (own_t p1 (2 : Int32)))]) (rest := []) (lenOf pd_0_2 rfl) rfl (by show 2 * 0 + _ ≤ _; exact Nat.le_of_eq rfl) (hb hby at_69) (fun _ _ => ⟨rfl, rfl, (by decide : 3 + 2 ≤ _), (by decide : 14 + 13 ≤ _)⟩)
  dsimp only [Pt.U, Pt.locs, Pt.cells, Pt.slots] at X7 l7 y7 z7 st7 hQ7
  subst l7 y7 z7
  obtain ⟨Z7, N7q, o7, rfl, S7⟩ := hQ7
  have N7 := Fr.app N6 N7q
  obtain ⟨cq8, kq8, q8a, q8b, q8c⟩ := isOf hZ rfl S7.1
  obtain ⟨_, _, ⟨T8, L8, k8, n8⟩, -, X8, ⟨Lc8, hQ8, l8, y8, z8⟩, st8⟩ := X7.virtualBack hx (y := (⟨"com/example/tenon/tenon/OpenableScope", "isOpen", "()Z"⟩ : MethodName)) (z := (⟨"com/example/tenon/tenon/OpenableScope", "isOpen", "()Z"⟩ : MethodName)) hown (mvT hZ (hw _ (List.mem_of_getElem? (i := 9) rfl))) (mvT hZ (hw _ (List.mem_of_getElem? (i := 10) rfl))) (notFace_of_selects (args := #[]) (mvT hZ (hw _ (List.mem_of_getElem? (i := 12) rfl)))) (mvT hZ (hw _ (List.mem_of_getElem? (i := 12) rfl))) (mvT hZ (hw _ (List.mem_of_getElem? (i := 11) rfl))) (by decide) (backOf (W := 1) (rm3 l Z a0 hw [] b2 o7 T7.heap n0 Z7 S7.2.1) hZ (hw _ (List.mem_of_getElem? (i := 13) rfl)) (hw _ (List.mem_of_getElem? (i := 2) rfl)) (by decide) (by decide)) q8a q8c (g := (mkF m 75 #[.val (.int p1), .val (.ref b2), .val (.int (1 : Int32)), .val (.int (own_b o7))] [(.ref b2), (.int (1 : Int32))])) rfl (by rw [hml]; rfl) (Steps.refl _) (argsL := []) (rest := [(.int (1 : Int32))]) (lenOf pd_0_1 rfl) rfl (by show 2 * 0 + _ ≤ _; exact Nat.le_of_eq rfl) (hb hby at_75) (fun _ _ => ⟨rfl, rfl, (by decide : 5 + 0 ≤ _), (by decide : 27 + 0 ≤ _)⟩)
  dsimp only [Pt.U, Pt.locs, Pt.cells, Pt.slots] at X8 l8 y8 z8 st8 hQ8
  subst l8 y8 z8
  obtain ⟨rfl, N8q, q8⟩ := hQ8
  have N8 := Fr.app N7 N8q
  have Z8 : n0 ≤ T8.heap.size := by rw [q8]; exact Z7
  have S8 : own_S Z T8.heap n0 b2 o7 := by rw [q8]; exact S7
  obtain ⟨_, _, ⟨T9, L9, k9, n9⟩, -, X9, ⟨Lc9, hQ9, l9, y9, z9⟩, st9⟩ := Jvm.LawKit.callS X8 hx (y := (⟨"com/example/tenon/tenon/OpenableScopeIsOpenPinLaw", "step", "(Lcom/example/tenon/tenon/OpenableScope;ZZ)Z"⟩ : MethodName)) hown (mvT hZ (hw _ (List.mem_of_getElem? (i := 16) rfl))) (mvT hZ (hw _ (List.mem_of_getElem? (i := 17) rfl))) (mvT hZ (hw _ (List.mem_of_getElem? (i := 18) rfl))) (mvT hZ (hw _ (List.mem_of_getElem? (i := 19) rfl))) (by decide) (backOf (W := 0) (rm4 l Z a0 hw [] b2 o7 (own_t p1 (4 : Int32)) T8.heap n0 Z8 S8) hZ (hw _ (List.mem_of_getElem? (i := 19) rfl)) (hw _ (List.mem_of_getElem? (i := 18) rfl)) (by decide) (by decide)) (g := (mkF m 102 #[.val (.int p1), .val (.ref b2), .val (.int (1 : Int32)), .val (.int (own_b o7))] [(.int (own_t p1 (4 : Int32))), (.int (own_b o7)), (.ref b2)])) rfl (by rw [hml]; rfl) (argsL := [(.ref b2), (.int (own_b o7)), (.int (own_t p1 (4 : Int32)))]) (rest := []) (lenOf pd_0_2 rfl) rfl (by show 2 * 0 + _ ≤ _; exact Nat.le_of_eq rfl) (hb hby at_102) (fun _ _ => ⟨rfl, rfl, (by decide : 5 + 2 ≤ _), (by decide : 27 + 13 ≤ _)⟩)
  dsimp only [Pt.U, Pt.locs, Pt.cells, Pt.slots] at X9 l9 y9 z9 st9 hQ9
  subst l9 y9 z9
  obtain ⟨Z9, N9q, o9, rfl, S9⟩ := hQ9
  have N9 := Fr.app N8 N9q
  obtain ⟨cq10, kq10, q10a, q10b, q10c⟩ := isOf hZ rfl S9.1
  obtain ⟨_, _, ⟨T10, L10, k10, n10⟩, -, X10, ⟨Lc10, hQ10, l10, y10, z10⟩, st10⟩ := X9.virtualBack hx (y := (⟨"com/example/tenon/tenon/OpenableScope", "isOpen", "()Z"⟩ : MethodName)) (z := (⟨"com/example/tenon/tenon/OpenableScope", "isOpen", "()Z"⟩ : MethodName)) hown (mvT hZ (hw _ (List.mem_of_getElem? (i := 9) rfl))) (mvT hZ (hw _ (List.mem_of_getElem? (i := 10) rfl))) (notFace_of_selects (args := #[]) (mvT hZ (hw _ (List.mem_of_getElem? (i := 12) rfl)))) (mvT hZ (hw _ (List.mem_of_getElem? (i := 12) rfl))) (mvT hZ (hw _ (List.mem_of_getElem? (i := 11) rfl))) (by decide) (backOf (W := 1) (rm3 l Z a0 hw [] b2 o9 T9.heap n0 Z9 S9.2.1) hZ (hw _ (List.mem_of_getElem? (i := 13) rfl)) (hw _ (List.mem_of_getElem? (i := 2) rfl)) (by decide) (by decide)) q10a q10c (g := (mkF m 108 #[.val (.int p1), .val (.ref b2), .val (.int (1 : Int32)), .val (.int (own_b o9))] [(.ref b2), (.int (1 : Int32))])) rfl (by rw [hml]; rfl) (Steps.refl _) (argsL := []) (rest := [(.int (1 : Int32))]) (lenOf pd_0_1 rfl) rfl (by show 2 * 0 + _ ≤ _; exact Nat.le_of_eq rfl) (hb hby at_108) (fun _ _ => ⟨rfl, rfl, (by decide : 7 + 0 ≤ _), (by decide : 40 + 0 ≤ _)⟩)
  dsimp only [Pt.U, Pt.locs, Pt.cells, Pt.slots] at X10 l10 y10 z10 st10 hQ10
  subst l10 y10 z10
  obtain ⟨rfl, N10q, q10⟩ := hQ10
  have N10 := Fr.app N9 N10q
  have Z10 : n0 ≤ T10.heap.size := by rw [q10]; exact Z9
  have S10 : own_S Z T10.heap n0 b2 o9 := by rw [q10]; exact S9
  obtain ⟨cq11, kq11, q11a, q11b, q11c⟩ := isOf hZ rfl S10.1
  obtain ⟨_, _, ⟨T11, L11, k11, n11⟩, -, X11, ⟨Lc11, hQ11, l11, y11, z11⟩, st11⟩ := X10.virtualBack hx (y := (⟨"com/example/tenon/tenon/OpenableScope", "current", "()Lcom/example/tenon/tenon/Scope$Opening;"⟩ : MethodName)) (z := (⟨"com/example/tenon/tenon/OpenableScope", "current", "()Lcom/example/tenon/tenon/Scope$Opening;"⟩ : MethodName)) hown (mvT hZ (hw _ (List.mem_of_getElem? (i := 20) rfl))) (mvT hZ (hw _ (List.mem_of_getElem? (i := 21) rfl))) (notFace_of_selects (args := #[]) (mvT hZ (hw _ (List.mem_of_getElem? (i := 23) rfl)))) (mvT hZ (hw _ (List.mem_of_getElem? (i := 23) rfl))) (mvT hZ (hw _ (List.mem_of_getElem? (i := 22) rfl))) (by decide) (backOf (W := 1) (rm5 l Z a0 hw [] b2 o9 T10.heap n0 Z10 S10.2.1) hZ (hw _ (List.mem_of_getElem? (i := 24) rfl)) (hw _ (List.mem_of_getElem? (i := 2) rfl)) (by decide) (by decide)) q11a q11c (g := (mkF m 124 #[.val (.int p1), .val (.ref b2), .val (.int (1 : Int32)), .val (.int (own_b o9))] [(.ref b2), (.int (1 : Int32))])) rfl (by rw [hml]; rfl) (Steps.refl _) (argsL := []) (rest := [(.int (1 : Int32))]) (lenOf pd_cur rfl) rfl (by show 2 * 0 + _ ≤ _; exact Nat.le_of_eq rfl) (hb hby at_124) (fun _ _ => ⟨rfl, rfl, (by decide : 7 + 0 ≤ _), (by decide : 40 + 0 ≤ _)⟩)
  dsimp only [Pt.U, Pt.locs, Pt.cells, Pt.slots] at X11 l11 y11 z11 st11 hQ11
  subst l11 y11 z11
  obtain ⟨rfl, N11q, q11⟩ := hQ11
  have N11 := Fr.app N10 N11q
  have Z11 : n0 ≤ T11.heap.size := by rw [q11]; exact Z10
  have S11 : own_S Z T11.heap n0 b2 o9 := by rw [q11]; exact S10
  obtain ⟨cq12, kq12, q12a, q12b, q12c⟩ := isOf hZ rfl S11.1
  obtain ⟨_, _, ⟨T12, L12, k12, n12⟩, -, X12, ⟨Lc12, hQ12, l12, y12, z12⟩, st12⟩ := X11.virtualBack hx (y := (⟨"com/example/tenon/tenon/OpenableScope", "isOpen", "()Z"⟩ : MethodName)) (z := (⟨"com/example/tenon/tenon/OpenableScope", "isOpen", "()Z"⟩ : MethodName)) hown (mvT hZ (hw _ (List.mem_of_getElem? (i := 9) rfl))) (mvT hZ (hw _ (List.mem_of_getElem? (i := 10) rfl))) (notFace_of_selects (args := #[]) (mvT hZ (hw _ (List.mem_of_getElem? (i := 12) rfl)))) (mvT hZ (hw _ (List.mem_of_getElem? (i := 12) rfl))) (mvT hZ (hw _ (List.mem_of_getElem? (i := 11) rfl))) (by decide) (backOf (W := 2) (rm3 l Z a0 hw [] b2 o9 T11.heap n0 Z11 S11.2.1) hZ (hw _ (List.mem_of_getElem? (i := 13) rfl)) (hw _ (List.mem_of_getElem? (i := 2) rfl)) (by decide) (by decide)) q12a q12c (g := (mkF m 136 #[.val (.int p1), .val (.ref b2), .val (.int (1 : Int32)), .val (.int (own_b o9))] [(.ref b2), (.int (own_b o9)), (.int (1 : Int32))])) rfl (by rw [hml]; rfl) (Steps.refl _) (argsL := []) (rest := [(.int (own_b o9)), (.int (1 : Int32))]) (lenOf pd_0_1 rfl) rfl (by show 2 * 0 + _ ≤ _; exact Nat.le_of_eq rfl) (hb hby at_136) (fun _ _ => ⟨rfl, rfl, (by decide : 7 + 0 ≤ _), (by decide : 40 + 0 ≤ _)⟩)
  dsimp only [Pt.U, Pt.locs, Pt.cells, Pt.slots] at X12 l12 y12 z12 st12 hQ12
  subst l12 y12 z12
  obtain ⟨rfl, N12q, q12⟩ := hQ12
  have N12 := Fr.app N11 N12q
  have Z12 : n0 ≤ T12.heap.size := by rw [q12]; exact Z11
  have S12 : own_S Z T12.heap n0 b2 o9 := by rw [q12]; exact S11
  obtain ⟨fs, hr, hrun, hended, hW, hsame⟩ := X12.leave (v := some (.int (1 : Int32))) (fun h => by rw [Bd.returns] at h; cases h)
  refine ⟨_, _, pre0 _ ?_, hrun, hended, _, _, rfl, ?_, ⟨_, rfl⟩, hW, hsame.mono (by decide) (by decide)⟩
  · show Steps p.tables e below (s₁.setTop (mkF m 0 #[.val (.int p1), .unset, .unset, .unset] [])) _
    refine st2 _ ?_
    show Steps p.tables e below (T2.setTop (mkF m 3 #[.val (.int p1), .unset, .unset, .unset] [(.ref b2)])) _
    refine XS.dup X2.here hx rfl (hb hby at_3) rfl rfl ?_
    show Steps p.tables e below (T2.setTop (mkF m 4 #[.val (.int p1), .unset, .unset, .unset] [(.ref b2), (.ref b2)])) _
    refine st3.trans ?_
    show Steps p.tables e below (T3.setTop (mkF m 7 #[.val (.int p1), .unset, .unset, .unset] [(.ref b2)])) _
    refine XS.astoreN X3.here hx rfl (hb hby at_7) rfl rfl (l' := #[.val (.int p1), .val (.ref b2), .unset, .unset]) rfl ?_
    show Steps p.tables e below (T3.setTop (mkF m 8 #[.val (.int p1), .val (.ref b2), .unset, .unset] [])) _
    refine XS.aloadN X3.here hx rfl (hb hby at_8) rfl rfl ?_
    show Steps p.tables e below (T3.setTop (mkF m 9 #[.val (.int p1), .val (.ref b2), .unset, .unset] [(.ref b2)])) _
    refine st4.trans ?_
    show Steps p.tables e below (T4.setTop (mkF m 12 #[.val (.int p1), .val (.ref b2), .unset, .unset] [(.int (own_b none))])) _
    refine XS.ifNo X4.here hx rfl (hb hby at_12) rfl ((if0 _ _).trans (teq rfl).2) ?_
    show Steps p.tables e below (T4.setTop (mkF m 15 #[.val (.int p1), .val (.ref b2), .unset, .unset] [])) _
    refine XS.iconst X4.here hx rfl (hb hby at_15) ?_
    show Steps p.tables e below (T4.setTop (mkF m 16 #[.val (.int p1), .val (.ref b2), .unset, .unset] [(.int (1 : Int32))])) _
    refine XS.goto X4.here hx rfl (pc0 := 16) (pc' := 20) rfl (hb hby at_16) (by decide) (by decide) ?_
    show Steps p.tables e below (T4.setTop (mkF m 20 #[.val (.int p1), .val (.ref b2), .unset, .unset] [(.int (1 : Int32))])) _
    refine XS.istoreN X4.here hx rfl (hb hby at_20) rfl (l' := #[.val (.int p1), .val (.ref b2), .val (.int (1 : Int32)), .unset]) rfl ?_
    show Steps p.tables e below (T4.setTop (mkF m 21 #[.val (.int p1), .val (.ref b2), .val (.int (1 : Int32)), .unset] [])) _
    refine XS.iconst X4.here hx rfl (hb hby at_21) ?_
    show Steps p.tables e below (T4.setTop (mkF m 22 #[.val (.int p1), .val (.ref b2), .val (.int (1 : Int32)), .unset] [(.int (0 : Int32))])) _
    refine XS.istoreN X4.here hx rfl (hb hby at_22) rfl (l' := #[.val (.int p1), .val (.ref b2), .val (.int (1 : Int32)), .val (.int (0 : Int32))]) rfl ?_
    show Steps p.tables e below (T4.setTop (mkF m 23 #[.val (.int p1), .val (.ref b2), .val (.int (1 : Int32)), .val (.int (0 : Int32))] [])) _
    refine XS.aloadN X4.here hx rfl (hb hby at_23) rfl rfl ?_
    show Steps p.tables e below (T4.setTop (mkF m 24 #[.val (.int p1), .val (.ref b2), .val (.int (1 : Int32)), .val (.int (0 : Int32))] [(.ref b2)])) _
    refine XS.iloadN X4.here hx rfl (hb hby at_24) rfl ?_
    show Steps p.tables e below (T4.setTop (mkF m 25 #[.val (.int p1), .val (.ref b2), .val (.int (1 : Int32)), .val (.int (0 : Int32))] [(.int (0 : Int32)), (.ref b2)])) _
    refine own_togA (p1 := p1) (b2 := b2) (ok := (1 : Int32)) (md := (0 : Int32)) X4 hx hZ hw hby hown _ ?_
    show Steps p.tables e below (T4.setTop (mkF m 36 #[.val (.int p1), .val (.ref b2), .val (.int (1 : Int32)), .val (.int (0 : Int32))] [(.int (own_t p1 (1 : Int32))), (.int (0 : Int32)), (.ref b2)])) _
    refine st5 _ ?_
    show Steps p.tables e below (T5.setTop (mkF m 39 #[.val (.int p1), .val (.ref b2), .val (.int (1 : Int32)), .val (.int (0 : Int32))] [(.int (own_b o5))])) _
    refine XS.istoreN X5.here hx rfl (hb hby at_39) rfl (l' := #[.val (.int p1), .val (.ref b2), .val (.int (1 : Int32)), .val (.int (own_b o5))]) rfl ?_
    show Steps p.tables e below (T5.setTop (mkF m 40 #[.val (.int p1), .val (.ref b2), .val (.int (1 : Int32)), .val (.int (own_b o5))] [])) _
    refine XS.iloadN X5.here hx rfl (hb hby at_40) rfl ?_
    show Steps p.tables e below (T5.setTop (mkF m 41 #[.val (.int p1), .val (.ref b2), .val (.int (1 : Int32)), .val (.int (own_b o5))] [(.int (1 : Int32))])) _
    refine XS.aloadN X5.here hx rfl (hb hby at_41) rfl rfl ?_
    show Steps p.tables e below (T5.setTop (mkF m 42 #[.val (.int p1), .val (.ref b2), .val (.int (1 : Int32)), .val (.int (own_b o5))] [(.ref b2), (.int (1 : Int32))])) _
    refine st6.trans ?_
    show Steps p.tables e below (T6.setTop (mkF m 45 #[.val (.int p1), .val (.ref b2), .val (.int (1 : Int32)), .val (.int (own_b o5))] [(.int (own_b o5)), (.int (1 : Int32))])) _
    refine XS.iloadN X6.here hx rfl (hb hby at_45) rfl ?_
    show Steps p.tables e below (T6.setTop (mkF m 46 #[.val (.int p1), .val (.ref b2), .val (.int (1 : Int32)), .val (.int (own_b o5))] [(.int (own_b o5)), (.int (own_b o5)), (.int (1 : Int32))])) _
    refine XS.icmpNo X6.here hx rfl (hb hby at_46) rfl (teq rfl).2 ?_
    show Steps p.tables e below (T6.setTop (mkF m 49 #[.val (.int p1), .val (.ref b2), .val (.int (1 : Int32)), .val (.int (own_b o5))] [(.int (1 : Int32))])) _
    refine XS.iconst X6.here hx rfl (hb hby at_49) ?_
    show Steps p.tables e below (T6.setTop (mkF m 50 #[.val (.int p1), .val (.ref b2), .val (.int (1 : Int32)), .val (.int (own_b o5))] [(.int (1 : Int32)), (.int (1 : Int32))])) _
    refine XS.goto X6.here hx rfl (pc0 := 50) (pc' := 54) rfl (hb hby at_50) (by decide) (by decide) ?_
    show Steps p.tables e below (T6.setTop (mkF m 54 #[.val (.int p1), .val (.ref b2), .val (.int (1 : Int32)), .val (.int (own_b o5))] [(.int (1 : Int32)), (.int (1 : Int32))])) _
    refine XS.iand X6.here hx rfl (hb hby at_54) rfl ?_
    show Steps p.tables e below (T6.setTop (mkF m 55 #[.val (.int p1), .val (.ref b2), .val (.int (1 : Int32)), .val (.int (own_b o5))] [(.int (1 : Int32))])) _
    refine XS.istoreN X6.here hx rfl (hb hby at_55) rfl (l' := #[.val (.int p1), .val (.ref b2), .val (.int (1 : Int32)), .val (.int (own_b o5))]) rfl ?_
    show Steps p.tables e below (T6.setTop (mkF m 56 #[.val (.int p1), .val (.ref b2), .val (.int (1 : Int32)), .val (.int (own_b o5))] [])) _
    refine XS.aloadN X6.here hx rfl (hb hby at_56) rfl rfl ?_
    show Steps p.tables e below (T6.setTop (mkF m 57 #[.val (.int p1), .val (.ref b2), .val (.int (1 : Int32)), .val (.int (own_b o5))] [(.ref b2)])) _
    refine XS.iloadN X6.here hx rfl (hb hby at_57) rfl ?_
    show Steps p.tables e below (T6.setTop (mkF m 58 #[.val (.int p1), .val (.ref b2), .val (.int (1 : Int32)), .val (.int (own_b o5))] [(.int (own_b o5)), (.ref b2)])) _
    refine own_togB (p1 := p1) (b2 := b2) (ok := (1 : Int32)) (md := (own_b o5)) X6 hx hZ hw hby hown _ ?_
    show Steps p.tables e below (T6.setTop (mkF m 69 #[.val (.int p1), .val (.ref b2), .val (.int (1 : Int32)), .val (.int (own_b o5))] [(.int (own_t p1 (2 : Int32))), (.int (own_b o5)), (.ref b2)])) _
    refine st7 _ ?_
    show Steps p.tables e below (T7.setTop (mkF m 72 #[.val (.int p1), .val (.ref b2), .val (.int (1 : Int32)), .val (.int (own_b o5))] [(.int (own_b o7))])) _
    refine XS.istoreN X7.here hx rfl (hb hby at_72) rfl (l' := #[.val (.int p1), .val (.ref b2), .val (.int (1 : Int32)), .val (.int (own_b o7))]) rfl ?_
    show Steps p.tables e below (T7.setTop (mkF m 73 #[.val (.int p1), .val (.ref b2), .val (.int (1 : Int32)), .val (.int (own_b o7))] [])) _
    refine XS.iloadN X7.here hx rfl (hb hby at_73) rfl ?_
    show Steps p.tables e below (T7.setTop (mkF m 74 #[.val (.int p1), .val (.ref b2), .val (.int (1 : Int32)), .val (.int (own_b o7))] [(.int (1 : Int32))])) _
    refine XS.aloadN X7.here hx rfl (hb hby at_74) rfl rfl ?_
    show Steps p.tables e below (T7.setTop (mkF m 75 #[.val (.int p1), .val (.ref b2), .val (.int (1 : Int32)), .val (.int (own_b o7))] [(.ref b2), (.int (1 : Int32))])) _
    refine st8.trans ?_
    show Steps p.tables e below (T8.setTop (mkF m 78 #[.val (.int p1), .val (.ref b2), .val (.int (1 : Int32)), .val (.int (own_b o7))] [(.int (own_b o7)), (.int (1 : Int32))])) _
    refine XS.iloadN X8.here hx rfl (hb hby at_78) rfl ?_
    show Steps p.tables e below (T8.setTop (mkF m 79 #[.val (.int p1), .val (.ref b2), .val (.int (1 : Int32)), .val (.int (own_b o7))] [(.int (own_b o7)), (.int (own_b o7)), (.int (1 : Int32))])) _
    refine XS.icmpNo X8.here hx rfl (hb hby at_79) rfl (teq rfl).2 ?_
    show Steps p.tables e below (T8.setTop (mkF m 82 #[.val (.int p1), .val (.ref b2), .val (.int (1 : Int32)), .val (.int (own_b o7))] [(.int (1 : Int32))])) _
    refine XS.iconst X8.here hx rfl (hb hby at_82) ?_
    show Steps p.tables e below (T8.setTop (mkF m 83 #[.val (.int p1), .val (.ref b2), .val (.int (1 : Int32)), .val (.int (own_b o7))] [(.int (1 : Int32)), (.int (1 : Int32))])) _
    refine XS.goto X8.here hx rfl (pc0 := 83) (pc' := 87) rfl (hb hby at_83) (by decide) (by decide) ?_
    show Steps p.tables e below (T8.setTop (mkF m 87 #[.val (.int p1), .val (.ref b2), .val (.int (1 : Int32)), .val (.int (own_b o7))] [(.int (1 : Int32)), (.int (1 : Int32))])) _
    refine XS.iand X8.here hx rfl (hb hby at_87) rfl ?_
    show Steps p.tables e below (T8.setTop (mkF m 88 #[.val (.int p1), .val (.ref b2), .val (.int (1 : Int32)), .val (.int (own_b o7))] [(.int (1 : Int32))])) _
    refine XS.istoreN X8.here hx rfl (hb hby at_88) rfl (l' := #[.val (.int p1), .val (.ref b2), .val (.int (1 : Int32)), .val (.int (own_b o7))]) rfl ?_
    show Steps p.tables e below (T8.setTop (mkF m 89 #[.val (.int p1), .val (.ref b2), .val (.int (1 : Int32)), .val (.int (own_b o7))] [])) _
    refine XS.aloadN X8.here hx rfl (hb hby at_89) rfl rfl ?_
    show Steps p.tables e below (T8.setTop (mkF m 90 #[.val (.int p1), .val (.ref b2), .val (.int (1 : Int32)), .val (.int (own_b o7))] [(.ref b2)])) _
    refine XS.iloadN X8.here hx rfl (hb hby at_90) rfl ?_
    show Steps p.tables e below (T8.setTop (mkF m 91 #[.val (.int p1), .val (.ref b2), .val (.int (1 : Int32)), .val (.int (own_b o7))] [(.int (own_b o7)), (.ref b2)])) _
    refine own_togC (p1 := p1) (b2 := b2) (ok := (1 : Int32)) (md := (own_b o7)) X8 hx hZ hw hby hown _ ?_
    show Steps p.tables e below (T8.setTop (mkF m 102 #[.val (.int p1), .val (.ref b2), .val (.int (1 : Int32)), .val (.int (own_b o7))] [(.int (own_t p1 (4 : Int32))), (.int (own_b o7)), (.ref b2)])) _
    refine st9 _ ?_
    show Steps p.tables e below (T9.setTop (mkF m 105 #[.val (.int p1), .val (.ref b2), .val (.int (1 : Int32)), .val (.int (own_b o7))] [(.int (own_b o9))])) _
    refine XS.istoreN X9.here hx rfl (hb hby at_105) rfl (l' := #[.val (.int p1), .val (.ref b2), .val (.int (1 : Int32)), .val (.int (own_b o9))]) rfl ?_
    show Steps p.tables e below (T9.setTop (mkF m 106 #[.val (.int p1), .val (.ref b2), .val (.int (1 : Int32)), .val (.int (own_b o9))] [])) _
    refine XS.iloadN X9.here hx rfl (hb hby at_106) rfl ?_
    show Steps p.tables e below (T9.setTop (mkF m 107 #[.val (.int p1), .val (.ref b2), .val (.int (1 : Int32)), .val (.int (own_b o9))] [(.int (1 : Int32))])) _
    refine XS.aloadN X9.here hx rfl (hb hby at_107) rfl rfl ?_
    show Steps p.tables e below (T9.setTop (mkF m 108 #[.val (.int p1), .val (.ref b2), .val (.int (1 : Int32)), .val (.int (own_b o9))] [(.ref b2), (.int (1 : Int32))])) _
    refine st10.trans ?_
    show Steps p.tables e below (T10.setTop (mkF m 111 #[.val (.int p1), .val (.ref b2), .val (.int (1 : Int32)), .val (.int (own_b o9))] [(.int (own_b o9)), (.int (1 : Int32))])) _
    refine XS.iloadN X10.here hx rfl (hb hby at_111) rfl ?_
    show Steps p.tables e below (T10.setTop (mkF m 112 #[.val (.int p1), .val (.ref b2), .val (.int (1 : Int32)), .val (.int (own_b o9))] [(.int (own_b o9)), (.int (own_b o9)), (.int (1 : Int32))])) _
    refine XS.icmpNo X10.here hx rfl (hb hby at_112) rfl (teq rfl).2 ?_
    show Steps p.tables e below (T10.setTop (mkF m 115 #[.val (.int p1), .val (.ref b2), .val (.int (1 : Int32)), .val (.int (own_b o9))] [(.int (1 : Int32))])) _
    refine XS.iconst X10.here hx rfl (hb hby at_115) ?_
    show Steps p.tables e below (T10.setTop (mkF m 116 #[.val (.int p1), .val (.ref b2), .val (.int (1 : Int32)), .val (.int (own_b o9))] [(.int (1 : Int32)), (.int (1 : Int32))])) _
    refine XS.goto X10.here hx rfl (pc0 := 116) (pc' := 120) rfl (hb hby at_116) (by decide) (by decide) ?_
    show Steps p.tables e below (T10.setTop (mkF m 120 #[.val (.int p1), .val (.ref b2), .val (.int (1 : Int32)), .val (.int (own_b o9))] [(.int (1 : Int32)), (.int (1 : Int32))])) _
    refine XS.iand X10.here hx rfl (hb hby at_120) rfl ?_
    show Steps p.tables e below (T10.setTop (mkF m 121 #[.val (.int p1), .val (.ref b2), .val (.int (1 : Int32)), .val (.int (own_b o9))] [(.int (1 : Int32))])) _
    refine XS.istoreN X10.here hx rfl (hb hby at_121) rfl (l' := #[.val (.int p1), .val (.ref b2), .val (.int (1 : Int32)), .val (.int (own_b o9))]) rfl ?_
    show Steps p.tables e below (T10.setTop (mkF m 122 #[.val (.int p1), .val (.ref b2), .val (.int (1 : Int32)), .val (.int (own_b o9))] [])) _
    refine XS.iloadN X10.here hx rfl (hb hby at_122) rfl ?_
    show Steps p.tables e below (T10.setTop (mkF m 123 #[.val (.int p1), .val (.ref b2), .val (.int (1 : Int32)), .val (.int (own_b o9))] [(.int (1 : Int32))])) _
    refine XS.aloadN X10.here hx rfl (hb hby at_123) rfl rfl ?_
    show Steps p.tables e below (T10.setTop (mkF m 124 #[.val (.int p1), .val (.ref b2), .val (.int (1 : Int32)), .val (.int (own_b o9))] [(.ref b2), (.int (1 : Int32))])) _
    refine st11.trans ?_
    show Steps p.tables e below (T11.setTop (mkF m 127 #[.val (.int p1), .val (.ref b2), .val (.int (1 : Int32)), .val (.int (own_b o9))] [(own_val o9), (.int (1 : Int32))])) _
    refine own_cur (p1 := p1) (b2 := b2) (ok := (1 : Int32)) (md := (own_b o9)) (ov := o9) X11 hx hZ hw hby hown _ ?_
    show Steps p.tables e below (T11.setTop (mkF m 135 #[.val (.int p1), .val (.ref b2), .val (.int (1 : Int32)), .val (.int (own_b o9))] [(.int (own_b o9)), (.int (1 : Int32))])) _
    refine XS.aloadN X11.here hx rfl (hb hby at_135) rfl rfl ?_
    show Steps p.tables e below (T11.setTop (mkF m 136 #[.val (.int p1), .val (.ref b2), .val (.int (1 : Int32)), .val (.int (own_b o9))] [(.ref b2), (.int (own_b o9)), (.int (1 : Int32))])) _
    refine st12.trans ?_
    show Steps p.tables e below (T12.setTop (mkF m 139 #[.val (.int p1), .val (.ref b2), .val (.int (1 : Int32)), .val (.int (own_b o9))] [(.int (own_b o9)), (.int (own_b o9)), (.int (1 : Int32))])) _
    refine XS.icmpNo X12.here hx rfl (hb hby at_139) rfl (teq rfl).2 ?_
    show Steps p.tables e below (T12.setTop (mkF m 142 #[.val (.int p1), .val (.ref b2), .val (.int (1 : Int32)), .val (.int (own_b o9))] [(.int (1 : Int32))])) _
    refine XS.iconst X12.here hx rfl (hb hby at_142) ?_
    show Steps p.tables e below (T12.setTop (mkF m 143 #[.val (.int p1), .val (.ref b2), .val (.int (1 : Int32)), .val (.int (own_b o9))] [(.int (1 : Int32)), (.int (1 : Int32))])) _
    refine XS.goto X12.here hx rfl (pc0 := 143) (pc' := 147) rfl (hb hby at_143) (by decide) (by decide) ?_
    show Steps p.tables e below (T12.setTop (mkF m 147 #[.val (.int p1), .val (.ref b2), .val (.int (1 : Int32)), .val (.int (own_b o9))] [(.int (1 : Int32)), (.int (1 : Int32))])) _
    refine XS.iand X12.here hx rfl (hb hby at_147) rfl ?_
    show Steps p.tables e below (T12.setTop (mkF m 148 #[.val (.int p1), .val (.ref b2), .val (.int (1 : Int32)), .val (.int (own_b o9))] [(.int (1 : Int32))])) _
    refine XS.istoreN X12.here hx rfl (hb hby at_148) rfl (l' := #[.val (.int p1), .val (.ref b2), .val (.int (1 : Int32)), .val (.int (own_b o9))]) rfl ?_
    show Steps p.tables e below (T12.setTop (mkF m 149 #[.val (.int p1), .val (.ref b2), .val (.int (1 : Int32)), .val (.int (own_b o9))] [])) _
    refine XS.iloadN X12.here hx rfl (hb hby at_149) rfl ?_
    show Steps p.tables e below (T12.setTop (mkF m 150 #[.val (.int p1), .val (.ref b2), .val (.int (1 : Int32)), .val (.int (own_b o9))] [(.int (1 : Int32))])) _
    exact retN X12 hx (t := .boolean) Bd.returns (by simp) (hb hby at_150) hr
  · show Q0 Z p1 h0 n0 _ T12.heap _
    exact ⟨rfl, N12⟩
set_option maxRecDepth 65536 in
set_option maxHeartbeats 40000000 in
theorem comes_1 {Post : Tables → Env → Array Value → State → Outcome → State → Prop} (hpost : ∀ tb e args s v u, (limb_1_1.after args s (.returned v) u = true ∧ limb_1_2.after args s (.returned v) u = true ∧ True) → FrameEnd s (.returned v) u (Jvm.fieldLocs frame_1_writes args s ++ Jvm.arrayLocs frame_1_arrays args s ++ Jvm.staticLocs frame_1_statics s) 24 128 → Post tb e args s (.returned v) u) :
    ArmFor flags0 classFile x code maxLocals ret World_1 tables_1 room_1 Calls_1 rest_1 Pre_1 Post := by
  intro l hfl _ _ p e ha hc hk s m args below hf hA hF happ hP
  obtain ⟨hcalls, hrest, hpre⟩ := hP
  obtain ⟨-, -, -, hnamed, -, -, -, hat⟩ := (Spec.applies_iff hf).mp happ
  obtain ⟨hg, hn⟩ := and_e (Cond.before_iff.mp (show (Jvm.Cond.and given_1 narrow_1).before args s = true from hpre))
  obtain ⟨g1, g2⟩ := and_e hg
  obtain ⟨w0, rfl⟩ : ∃ w0 : Value, args = #[w0] := by
    have hs : args.size = 1 := by simpa [Cond.value, given_1] using g1
    obtain ⟨L⟩ := args
    match L, hs with
    | [w0], _ => exact ⟨w0, rfl⟩
  have hw := fun d (hd : d ∈ tables_1) => atoms_spec (ws := Jvm.Cond.code x code maxLocals ret :: tables_1) hat d (List.mem_cons_of_mem _ hd)
  have hfit : Fit s := fun {y c} hc i hi => by
    obtain ⟨ha, rfl⟩ := Array.getElem?_eq_some_iff.mp hc
    have q := List.all_eq_true.mp ((Array.all_eq_true_iff_forall_mem.mp hF) _ (Array.getElem_mem ha)) i (List.mem_range.mpr hi)
    simpa [Array.getElem?_eq_getElem hi] using q
  obtain ⟨i0, ei0⟩ := is_v g2
  obtain rfl : w0 = (.int i0) := Option.some.inj ei0
  obtain ⟨n, o, h1, h2, h3, _, L, rfl, ⟨rfl, N⟩, hq⟩ := rm0 l s _ hw tables_1 i0 s.heap s.heap.size (Nat.le_refl _) p e ha hc hk s m _ below hf ((Spec.applies_iff_loose hf).mp happ).1 ⟨rfl, State.Warmed39.refl s, rfl⟩ trivial
  refine ⟨n, _, h1, h2, h3, hpost _ _ _ _ _ _ ⟨Cond.after_iff.mpr rfl, Cond.after_iff.mpr (eq_i res_at (Term.int_eval (1)) rfl), trivial⟩ ⟨hq.1, hq.2.1, (hq.2.2.sift fun y hy => Or.inr (N y hy)).mono (by decide) (by decide)⟩⟩
theorem main_1_1 : Claimed_1_1 := comes_1 fun _ _ _ _ _ _ h hF => ⟨h.1, hF⟩
theorem main_1_2 : Claimed_1_2 := comes_1 fun _ _ _ _ _ _ h hF => ⟨h.2.1, hF⟩
end Jvm.Pilot.@@N@@
namespace Jvm.Pilot.@@N@@
open Jvm Jvm.ClassFile Sem Op Lib Jvm.Free Jvm.Stand Jvm.Pilot.@@N@@.Jvm.D
/-! MADE BY PROGRAM (witnessworld.py) out of the Statement's table words and the real class files: 15 classes; the members and pool entries that the words name. The judged class is class 1, her method 1. -/
namespace start1
open Jvm.ClassFile
def u (s : String) : CpInfo := .utf8 (stringToUtf16 s)
/-- a pool by its gaps: so many unusable entries, then the entry; so many at the end -/
def gap : Nat → List CpInfo → List CpInfo
  | 0, r => r
  | n + 1, r => .unusable :: gap n r
def poolList (es : List (Nat × CpInfo)) (last : Nat) : List CpInfo := es.foldr (fun e r => gap e.1 (e.2 :: r)) (gap last [])
def pool (es : List (Nat × CpInfo)) (last : Nat) : Array CpInfo := ⟨poolList es last⟩
def fileOf (pool : Array CpInfo) (this : Nat) (attrs : Array Attribute := #[]) (ms : Array MethodInfo := #[]) (fl : Nat := 33) (sup : Nat := 0) (ifs : Array Nat := #[]) (fds : Array FieldInfo := #[]) : ClassFile where
  minorVersion := 0
  majorVersion := 65
  constantPool := pool
  accessFlags := fl
  thisClass := this
  superClass := sup
  interfaces := ifs
  fields := fds
  methods := ms
  attributes := attrs
def plain (name : String) (sup : Option ClassId) : Class where
  name := name
  kind := .ordinary
  loader := none
  accessFlags := 33
  super := sup
  interfaces := #[]
  cf := none
  fields := #[]
  methods := #[]
  instanceTypes := #[]
  staticTypes := #[]
  resolved := #[]
  callSites := []
  init := .initialized
  statics := none
  mirror := none

def pool0 : Array CpInfo := pool [(5, u "<init>"), (0, u "()V"), (1, .class_ 10), (1, u "java/lang/Object")] 113

def k0c0 : Code := { maxStack := 0, maxLocals := 1, code := object_method_1_code, exceptionTable := #[], attributes := #[] }
def k0m0 : Method := { name := "<init>", desc := "()V", sig := { parameters := [], returnType := none }, accessFlags := 1, code := some k0c0 }
/-- java/lang/Object -/
def k0 : Class := { plain "java/lang/Object" none with
  accessFlags := 33
  interfaces := #[]
  cf := some (fileOf pool0 8 #[] #[{ accessFlags := 1, nameIndex := 5, descriptorIndex := 6, attributes := #[] }] 33 0 #[] #[])
  fields := #[]
  methods := #[k0m0]
  instanceTypes := #[]
  staticTypes := #[]
  resolved := Array.replicate 124 none
  statics := none }

def pool1 : Array CpInfo := pool [(2, .class_ 4), (0, .nameAndType 5 6), (0, u "java/lang/Object"), (0, u "<init>"), (0, u "()V"), (0, .class_ 8), (0, u "com/example/tenon/tenon/OpenableScope"), (0, .methodref 7 3), (0, .methodref 7 11), (0, .nameAndType 12 13), (0, u "isOpen"), (0, u "()Z"), (0, .methodref 15 16), (0, .class_ 17), (0, .nameAndType 18 19), (0, u "com/example/tenon/tenon/OpenableScopeIsOpenPinLaw"), (0, u "step"), (0, u "(Lcom/example/tenon/tenon/OpenableScope;ZZ)Z"), (0, .methodref 7 21), (0, .nameAndType 22 23), (0, u "current"), (0, u "()Lcom/example/tenon/tenon/Scope$Opening;"), (0, .methodref 7 25), (0, .nameAndType 26 6), (0, u "close"), (0, .methodref 7 28), (0, .nameAndType 29 6), (0, u "open"), (2, u "law"), (0, u "(I)Z")] 9

def k1m0 : Method := { name := "<init>", desc := "()V", sig := { parameters := [], returnType := none }, accessFlags := 1, code := none }
def k1c1 : Code := { maxStack := 4, maxLocals := 4, code := code, exceptionTable := #[], attributes := #[] }
def k1m1 : Method := { name := "law", desc := "(I)Z", sig := { parameters := [.int], returnType := some .boolean }, accessFlags := 9, code := some k1c1 }
def k1c2 : Code := { maxStack := 1, maxLocals := 3, code := method_3_code, exceptionTable := #[], attributes := #[] }
def k1m2 : Method := { name := "step", desc := "(Lcom/example/tenon/tenon/OpenableScope;ZZ)Z", sig := { parameters := [(.object "com/example/tenon/tenon/OpenableScope"), .boolean, .boolean], returnType := some .boolean }, accessFlags := 10, code := some k1c2 }
/-- com/example/tenon/tenon/OpenableScopeIsOpenPinLaw -/
def k1 : Class := { plain "com/example/tenon/tenon/OpenableScopeIsOpenPinLaw" (some 0) with
  accessFlags := 49
  interfaces := #[]
  cf := some (fileOf pool1 15 #[] #[{ accessFlags := 1, nameIndex := 5, descriptorIndex := 6, attributes := #[] }, { accessFlags := 9, nameIndex := 32, descriptorIndex := 33, attributes := #[] }, { accessFlags := 10, nameIndex := 18, descriptorIndex := 19, attributes := #[] }] 49 2 #[] #[])
  fields := #[]
  methods := #[k1m0, k1m1, k1m2]
  instanceTypes := #[]
  staticTypes := #[]
  resolved := Array.replicate 43 none
  statics := none }

def pool2 : Array CpInfo := pool [(1, .class_ 2), (0, u "com/example/tenon/tenon/Scope"), (0, .class_ 4), (0, u "java/lang/Object"), (7, .class_ 13), (0, u "com/example/tenon/tenon/Scope$Opening")] 2

/-- com/example/tenon/tenon/Scope -/
def k2 : Class := { plain "com/example/tenon/tenon/Scope" (some 0) with
  accessFlags := 1537
  interfaces := #[]
  cf := some (fileOf pool2 1 #[.nestMembers #[12]] #[] 1537 3 #[] #[])
  fields := #[]
  methods := #[]
  instanceTypes := #[]
  staticTypes := #[]
  resolved := Array.replicate 16 none
  statics := none }

def pool3 : Array CpInfo := pool [(1, .methodref 2 3), (0, .class_ 4), (0, .nameAndType 5 6), (0, u "java/lang/Object"), (0, u "<init>"), (0, u "()V"), (0, .fieldref 8 9), (0, .class_ 10), (0, .nameAndType 11 12), (0, u "com/example/tenon/tenon/OpenableScope"), (0, u "opening"), (0, u "Lcom/example/tenon/tenon/Scope$Opening;"), (7, .class_ 21), (0, u "com/example/tenon/tenon/Scope$Opening"), (0, .methodref 20 3), (2, .class_ 26), (0, u "com/example/tenon/tenon/Scope"), (2, u "open"), (1, u "close"), (0, u "isOpen"), (0, u "()Z"), (0, u "current"), (0, u "()Lcom/example/tenon/tenon/Scope$Opening;")] 4

def k3c0 : Code := { maxStack := 1, maxLocals := 1, code := prog_10_method_1_code, exceptionTable := #[], attributes := #[] }
def k3m0 : Method := { name := "<init>", desc := "()V", sig := { parameters := [], returnType := none }, accessFlags := 1, code := some k3c0 }
def k3c1 : Code := { maxStack := 3, maxLocals := 1, code := ⟨#[0x2a, 0xb4, 0x00, 0x07, 0xc6, 0x00, 0x0d, 0xbb, 0x00, 0x0d, 0x59, 0x12, 0x0f, 0xb7, 0x00, 0x11, 0xbf, 0x2a, 0xbb, 0x00, 0x14, 0x59, 0xb7, 0x00, 0x16, 0xb5, 0x00, 0x07, 0xb1]⟩, exceptionTable := #[], attributes := #[] }
def k3m1 : Method := { name := "open", desc := "()V", sig := { parameters := [], returnType := none }, accessFlags := 33, code := some k3c1 }
def k3c2 : Code := { maxStack := 3, maxLocals := 1, code := ⟨#[0x2a, 0xb4, 0x00, 0x07, 0xc7, 0x00, 0x0d, 0xbb, 0x00, 0x0d, 0x59, 0x12, 0x17, 0xb7, 0x00, 0x11, 0xbf, 0x2a, 0x01, 0xb5, 0x00, 0x07, 0xb1]⟩, exceptionTable := #[], attributes := #[] }
def k3m2 : Method := { name := "close", desc := "()V", sig := { parameters := [], returnType := none }, accessFlags := 33, code := some k3c2 }
def k3c3 : Code := { maxStack := 1, maxLocals := 1, code := prog_10_method_4_code, exceptionTable := #[], attributes := #[] }
def k3m3 : Method := { name := "isOpen", desc := "()Z", sig := { parameters := [], returnType := some .boolean }, accessFlags := 1, code := some k3c3 }
def k3c4 : Code := { maxStack := 1, maxLocals := 1, code := prog_10_method_5_code, exceptionTable := #[], attributes := #[] }
def k3m4 : Method := { name := "current", desc := "()Lcom/example/tenon/tenon/Scope$Opening;", sig := { parameters := [], returnType := some (.object "com/example/tenon/tenon/Scope$Opening") }, accessFlags := 1, code := some k3c4 }
/-- com/example/tenon/tenon/OpenableScope -/
def k3 : Class := { plain "com/example/tenon/tenon/OpenableScope" (some 0) with
  accessFlags := 49
  interfaces := #[2]
  cf := some (fileOf pool3 8 #[] #[{ accessFlags := 1, nameIndex := 5, descriptorIndex := 6, attributes := #[] }, { accessFlags := 33, nameIndex := 29, descriptorIndex := 6, attributes := #[] }, { accessFlags := 33, nameIndex := 31, descriptorIndex := 6, attributes := #[] }, { accessFlags := 1, nameIndex := 32, descriptorIndex := 33, attributes := #[] }, { accessFlags := 1, nameIndex := 34, descriptorIndex := 35, attributes := #[] }] 49 2 #[25] #[{ accessFlags := 66, nameIndex := 11, descriptorIndex := 12, attributes := #[] }])
  fields := #[{ name := "opening", type := (.object "com/example/tenon/tenon/Scope$Opening"), accessFlags := 66, slot := 0, constantValue := 0 }]
  methods := #[k3m0, k3m1, k3m2, k3m3, k3m4]
  instanceTypes := #[(.object "com/example/tenon/tenon/Scope$Opening")]
  staticTypes := #[]
  resolved := Array.replicate 40 none
  statics := none }

def pool4 : Array CpInfo := pool [(1, .methodref 2 3), (0, .class_ 4), (0, .nameAndType 5 6), (0, u "java/lang/Object"), (0, u "<init>"), (0, u "()V"), (0, .class_ 8), (0, u "java/util/concurrent/ConcurrentHashMap"), (0, .methodref 7 3), (0, .fieldref 11 12), (0, .class_ 13), (0, .nameAndType 14 15), (0, u "com/example/tenon/tenon/Scope$Opening"), (0, u "kept"), (0, u "Ljava/util/Map;"), (19, .class_ 36), (0, u "com/example/tenon/tenon/Scope")] 2

def k4c0 : Code := { maxStack := 3, maxLocals := 1, code := prog_14_method_1_code, exceptionTable := #[], attributes := #[] }
def k4m0 : Method := { name := "<init>", desc := "()V", sig := { parameters := [], returnType := none }, accessFlags := 1, code := some k4c0 }
/-- com/example/tenon/tenon/Scope$Opening -/
def k4 : Class := { plain "com/example/tenon/tenon/Scope$Opening" (some 0) with
  accessFlags := 49
  interfaces := #[]
  cf := some (fileOf pool4 11 #[.nestHost 35] #[{ accessFlags := 1, nameIndex := 5, descriptorIndex := 6, attributes := #[] }] 49 2 #[] #[{ accessFlags := 18, nameIndex := 14, descriptorIndex := 15, attributes := #[] }])
  fields := #[{ name := "kept", type := (.object "java/util/Map"), accessFlags := 18, slot := 0, constantValue := 0 }]
  methods := #[k4m0]
  instanceTypes := #[(.object "java/util/Map")]
  staticTypes := #[]
  resolved := Array.replicate 39 none
  statics := none }

def pool5 : Array CpInfo := pool [(2, .class_ 4), (1, u "java/util/Map"), (31, .class_ 37), (0, u "java/util/Map$Entry"), (55, .class_ 94), (0, u "java/lang/Object")] 168

/-- java/util/Map -/
def k5 : Class := { plain "java/util/Map" (some 0) with
  accessFlags := 1537
  interfaces := #[]
  cf := some (fileOf pool5 2 #[.nestMembers #[36]] #[] 1537 93 #[] #[])
  fields := #[]
  methods := #[]
  instanceTypes := #[]
  staticTypes := #[]
  resolved := Array.replicate 263 none
  statics := none }

def pool6 : Array CpInfo := pool [(1, .methodref 2 3), (0, .class_ 4), (0, .nameAndType 5 6), (0, u "java/lang/Object"), (0, u "<init>"), (0, u "()V"), (1, .class_ 10), (1, u "java/util/AbstractMap"), (42, .class_ 54), (0, u "java/util/Map"), (9, u "keySet"), (0, u "Ljava/util/Set;"), (0, .class_ 67), (0, u "java/util/AbstractMap$1"), (5, u "values"), (0, u "Ljava/util/Collection;"), (0, .class_ 76), (0, u "java/util/AbstractMap$2"), (104, .class_ 182), (0, u "java/util/AbstractMap$ViewCollection"), (0, .class_ 184), (0, u "java/util/AbstractMap$SimpleImmutableEntry"), (0, .class_ 186), (0, u "java/util/AbstractMap$SimpleEntry"), (0, .class_ 188), (0, u "java/util/AbstractMap$2$1"), (0, .class_ 190), (0, u "java/util/AbstractMap$1$1")] 5

def k6c0 : Code := { maxStack := 1, maxLocals := 1, code := jdk_71_method_1_code, exceptionTable := #[], attributes := #[] }
def k6m0 : Method := { name := "<init>", desc := "()V", sig := { parameters := [], returnType := none }, accessFlags := 4, code := some k6c0 }
/-- java/util/AbstractMap -/
def k6 : Class := { plain "java/util/AbstractMap" (some 0) with
  accessFlags := 1057
  interfaces := #[5]
  cf := some (fileOf pool6 8 #[.nestMembers #[181, 183, 185, 75, 187, 66, 189]] #[{ accessFlags := 4, nameIndex := 5, descriptorIndex := 6, attributes := #[] }] 1057 2 #[53] #[{ accessFlags := 128, nameIndex := 64, descriptorIndex := 65, attributes := #[] }, { accessFlags := 128, nameIndex := 73, descriptorIndex := 74, attributes := #[] }])
  fields := #[{ name := "keySet", type := (.object "java/util/Set"), accessFlags := 128, slot := 0, constantValue := 0 }, { name := "values", type := (.object "java/util/Collection"), accessFlags := 128, slot := 1, constantValue := 0 }]
  methods := #[k6m0]
  instanceTypes := #[(.object "java/util/Set"), (.object "java/util/Collection")]
  staticTypes := #[]
  resolved := Array.replicate 196 none
  statics := none }

def pool7 : Array CpInfo := pool [(2, .class_ 4), (1, u "java/util/concurrent/ConcurrentMap"), (71, .class_ 77), (0, u "java/lang/Object"), (0, .class_ 79), (0, u "java/util/Map")] 77

/-- java/util/concurrent/ConcurrentMap -/
def k7 : Class := { plain "java/util/concurrent/ConcurrentMap" (some 0) with
  accessFlags := 1537
  interfaces := #[5]
  cf := some (fileOf pool7 2 #[] #[] 1537 76 #[78] #[])
  fields := #[]
  methods := #[]
  instanceTypes := #[]
  staticTypes := #[]
  resolved := Array.replicate 157 none
  statics := none }

def pool8 : Array CpInfo := pool [(1, .class_ 2), (0, u "java/io/Serializable"), (0, .class_ 4), (0, u "java/lang/Object")] 2

/-- java/io/Serializable -/
def k8 : Class := { plain "java/io/Serializable" (some 0) with
  accessFlags := 1537
  interfaces := #[]
  cf := some (fileOf pool8 1 #[] #[] 1537 3 #[] #[])
  fields := #[]
  methods := #[]
  instanceTypes := #[]
  staticTypes := #[]
  resolved := Array.replicate 7 none
  statics := none }

def pool9 : Array CpInfo := pool [(3, .class_ 4), (0, u "java/util/concurrent/ConcurrentHashMap"), (37, u "U"), (0, u "Ljdk/internal/misc/Unsafe;"), (2, u "ASHIFT"), (0, u "I"), (2, u "ABASE"), (6, .class_ 58), (0, u "java/util/concurrent/ConcurrentHashMap$Node"), (8, .methodref 68 69), (0, .class_ 70), (0, .nameAndType 71 72), (0, u "java/util/AbstractMap"), (0, u "<init>"), (0, u "()V"), (6, u "sizeCtl"), (27, u "table"), (0, u "[Ljava/util/concurrent/ConcurrentHashMap$Node;"), (33, .class_ 143), (0, u "java/util/concurrent/ConcurrentHashMap$Traverser"), (26, .class_ 171), (0, u "java/util/concurrent/ConcurrentHashMap$TreeBin"), (4, .class_ 177), (0, u "java/util/concurrent/ConcurrentHashMap$ReservationNode"), (26, u "entrySet"), (37, .class_ 244), (1, u "java/util/concurrent/ConcurrentHashMap$TreeNode"), (18, u "keySet"), (0, u "Ljava/util/concurrent/ConcurrentHashMap$KeySetView;"), (0, .class_ 266), (0, u "java/util/concurrent/ConcurrentHashMap$KeySetView"), (5, u "values"), (0, u "Ljava/util/concurrent/ConcurrentHashMap$ValuesView;"), (0, .class_ 275), (0, u "java/util/concurrent/ConcurrentHashMap$ValuesView"), (5, u "Ljava/util/concurrent/ConcurrentHashMap$EntrySetView;"), (0, .class_ 283), (0, u "java/util/concurrent/ConcurrentHashMap$EntrySetView"), (18, .class_ 303), (0, u "java/util/concurrent/ConcurrentHashMap$Segment"), (54, u "baseCount"), (0, u "J"), (29, .class_ 390), (0, u "java/util/concurrent/ConcurrentHashMap$KeyIterator"), (3, .class_ 395), (0, u "java/util/concurrent/ConcurrentHashMap$ValueIterator"), (18, u "SIZECTL"), (6, u "counterCells"), (0, u "[Ljava/util/concurrent/ConcurrentHashMap$CounterCell;"), (2, u "BASECOUNT"), (11, u "CELLVALUE"), (1, .class_ 441), (1, u "java/util/concurrent/ConcurrentHashMap$CounterCell"), (11, u "nextTable"), (2, u "transferIndex"), (4, .class_ 462), (0, u "java/util/concurrent/ConcurrentHashMap$ForwardingNode"), (4, u "NCPU"), (7, u "TRANSFERINDEX"), (5, u "cellsBusy"), (5, u "CELLSBUSY"), (19, .class_ 508), (0, u "java/util/concurrent/ConcurrentHashMap$ForEachMappingTask"), (10, .class_ 520), (0, u "java/util/concurrent/ConcurrentHashMap$ForEachTransformedMappingTask"), (4, .class_ 526), (0, u "java/util/concurrent/ConcurrentHashMap$SearchMappingsTask"), (7, .class_ 535), (0, u "java/util/concurrent/ConcurrentHashMap$MapReduceMappingsTask"), (4, .class_ 541), (0, u "java/util/concurrent/ConcurrentHashMap$MapReduceMappingsToDoubleTask"), (10, .class_ 553), (0, u "java/util/concurrent/ConcurrentHashMap$MapReduceMappingsToLongTask"), (7, .class_ 562), (0, u "java/util/concurrent/ConcurrentHashMap$MapReduceMappingsToIntTask"), (7, .class_ 571), (0, u "java/util/concurrent/ConcurrentHashMap$ForEachKeyTask"), (4, .class_ 577), (0, u "java/util/concurrent/ConcurrentHashMap$ForEachTransformedKeyTask"), (4, .class_ 583), (0, u "java/util/concurrent/ConcurrentHashMap$SearchKeysTask"), (4, .class_ 589), (0, u "java/util/concurrent/ConcurrentHashMap$ReduceKeysTask"), (4, .class_ 595), (0, u "java/util/concurrent/ConcurrentHashMap$MapReduceKeysTask"), (4, .class_ 601), (0, u "java/util/concurrent/ConcurrentHashMap$MapReduceKeysToDoubleTask"), (4, .class_ 607), (0, u "java/util/concurrent/ConcurrentHashMap$MapReduceKeysToLongTask"), (4, .class_ 613), (0, u "java/util/concurrent/ConcurrentHashMap$MapReduceKeysToIntTask"), (4, .class_ 619), (0, u "java/util/concurrent/ConcurrentHashMap$ForEachValueTask"), (2, .class_ 623), (0, u "java/util/concurrent/ConcurrentHashMap$ForEachTransformedValueTask"), (2, .class_ 627), (0, u "java/util/concurrent/ConcurrentHashMap$SearchValuesTask"), (2, .class_ 631), (0, u "java/util/concurrent/ConcurrentHashMap$ReduceValuesTask"), (4, .class_ 637), (0, u "java/util/concurrent/ConcurrentHashMap$MapReduceValuesTask"), (4, .class_ 643), (0, u "java/util/concurrent/ConcurrentHashMap$MapReduceValuesToDoubleTask"), (4, .class_ 649), (0, u "java/util/concurrent/ConcurrentHashMap$MapReduceValuesToLongTask"), (4, .class_ 655), (0, u "java/util/concurrent/ConcurrentHashMap$MapReduceValuesToIntTask"), (4, .class_ 661), (0, u "java/util/concurrent/ConcurrentHashMap$ForEachEntryTask"), (2, .class_ 665), (0, u "java/util/concurrent/ConcurrentHashMap$ForEachTransformedEntryTask"), (2, .class_ 669), (0, u "java/util/concurrent/ConcurrentHashMap$SearchEntriesTask"), (2, .class_ 673), (0, u "java/util/concurrent/ConcurrentHashMap$ReduceEntriesTask"), (4, .class_ 679), (0, u "java/util/concurrent/ConcurrentHashMap$MapReduceEntriesTask"), (4, .class_ 685), (0, u "java/util/concurrent/ConcurrentHashMap$MapReduceEntriesToDoubleTask"), (4, .class_ 691), (0, u "java/util/concurrent/ConcurrentHashMap$MapReduceEntriesToLongTask"), (4, .class_ 697), (0, u "java/util/concurrent/ConcurrentHashMap$MapReduceEntriesToIntTask"), (29, u "serialPersistentFields"), (0, u "[Ljava/io/ObjectStreamField;"), (28, .class_ 758), (0, u "java/util/concurrent/ConcurrentMap"), (0, .class_ 760), (0, u "java/io/Serializable"), (0, u "serialVersionUID"), (3, u "MAXIMUM_CAPACITY"), (0, u "DEFAULT_CAPACITY"), (1, u "MAX_ARRAY_SIZE"), (1, u "DEFAULT_CONCURRENCY_LEVEL"), (0, u "LOAD_FACTOR"), (0, u "F"), (0, u "TREEIFY_THRESHOLD"), (1, u "UNTREEIFY_THRESHOLD"), (1, u "MIN_TREEIFY_CAPACITY"), (1, u "MIN_TRANSFER_STRIDE"), (0, u "RESIZE_STAMP_BITS"), (0, u "MAX_RESIZERS"), (0, u "RESIZE_STAMP_SHIFT"), (0, u "MOVED"), (1, u "TREEBIN"), (1, u "RESERVED"), (1, u "HASH_BITS"), (345, .class_ 1136), (0, u "java/util/concurrent/ConcurrentHashMap$BulkTask"), (0, .class_ 1138), (0, u "java/util/concurrent/ConcurrentHashMap$CollectionView"), (0, .class_ 1140), (0, u "java/util/concurrent/ConcurrentHashMap$EntrySpliterator"), (0, .class_ 1142), (0, u "java/util/concurrent/ConcurrentHashMap$ValueSpliterator"), (0, .class_ 1144), (0, u "java/util/concurrent/ConcurrentHashMap$KeySpliterator"), (0, .class_ 1146), (0, u "java/util/concurrent/ConcurrentHashMap$MapEntry"), (0, .class_ 1148), (0, u "java/util/concurrent/ConcurrentHashMap$EntryIterator"), (0, .class_ 1150), (0, u "java/util/concurrent/ConcurrentHashMap$BaseIterator"), (0, .class_ 1152), (0, u "java/util/concurrent/ConcurrentHashMap$TableStack")] 57

def k9c0 : Code := { maxStack := 1, maxLocals := 1, code := jdk_2776_method_8_code, exceptionTable := #[], attributes := #[] }
def k9m0 : Method := { name := "<init>", desc := "()V", sig := { parameters := [], returnType := none }, accessFlags := 1, code := some k9c0 }
/-- java/util/concurrent/ConcurrentHashMap -/
def k9 : Class := { plain "java/util/concurrent/ConcurrentHashMap" (some 6) with
  accessFlags := 33
  interfaces := #[7, 8]
  cf := some (fileOf pool9 3 #[.nestMembers #[561, 696, 654, 612, 552, 690, 648, 606, 540, 684, 642, 600, 534, 678, 636, 594, 672, 630, 588, 525, 668, 626, 582, 519, 664, 622, 576, 507, 660, 618, 570, 1135, 282, 274, 265, 1137, 1139, 1141, 1143, 1145, 1147, 394, 389, 1149, 142, 1151, 170, 242, 439, 176, 461, 302, 57]] #[{ accessFlags := 1, nameIndex := 71, descriptorIndex := 72, attributes := #[] }] 33 68 #[757, 759] #[{ accessFlags := 26, nameIndex := 761, descriptorIndex := 359, attributes := #[] }, { accessFlags := 26, nameIndex := 765, descriptorIndex := 47, attributes := #[] }, { accessFlags := 26, nameIndex := 766, descriptorIndex := 47, attributes := #[] }, { accessFlags := 24, nameIndex := 768, descriptorIndex := 47, attributes := #[] }, { accessFlags := 26, nameIndex := 770, descriptorIndex := 47, attributes := #[] }, { accessFlags := 26, nameIndex := 771, descriptorIndex := 772, attributes := #[] }, { accessFlags := 24, nameIndex := 773, descriptorIndex := 47, attributes := #[] }, { accessFlags := 24, nameIndex := 775, descriptorIndex := 47, attributes := #[] }, { accessFlags := 24, nameIndex := 777, descriptorIndex := 47, attributes := #[] }, { accessFlags := 26, nameIndex := 779, descriptorIndex := 47, attributes := #[] }, { accessFlags := 26, nameIndex := 780, descriptorIndex := 47, attributes := #[] }, { accessFlags := 26, nameIndex := 781, descriptorIndex := 47, attributes := #[] }, { accessFlags := 26, nameIndex := 782, descriptorIndex := 47, attributes := #[] }, { accessFlags := 24, nameIndex := 783, descriptorIndex := 47, attributes := #[] }, { accessFlags := 24, nameIndex := 785, descriptorIndex := 47, attributes := #[] }, { accessFlags := 24, nameIndex := 787, descriptorIndex := 47, attributes := #[] }, { accessFlags := 24, nameIndex := 789, descriptorIndex := 47, attributes := #[] }, { accessFlags := 24, nameIndex := 467, descriptorIndex := 47, attributes := #[] }, { accessFlags := 26, nameIndex := 727, descriptorIndex := 728, attributes := #[] }, { accessFlags := 192, nameIndex := 107, descriptorIndex := 108, attributes := #[] }, { accessFlags := 194, nameIndex := 453, descriptorIndex := 108, attributes := #[] }, { accessFlags := 194, nameIndex := 358, descriptorIndex := 359, attributes := #[] }, { accessFlags := 194, nameIndex := 79, descriptorIndex := 47, attributes := #[] }, { accessFlags := 194, nameIndex := 456, descriptorIndex := 47, attributes := #[] }, { accessFlags := 194, nameIndex := 481, descriptorIndex := 47, attributes := #[] }, { accessFlags := 194, nameIndex := 421, descriptorIndex := 422, attributes := #[] }, { accessFlags := 130, nameIndex := 263, descriptorIndex := 264, attributes := #[] }, { accessFlags := 130, nameIndex := 272, descriptorIndex := 273, attributes := #[] }, { accessFlags := 130, nameIndex := 204, descriptorIndex := 281, attributes := #[] }, { accessFlags := 26, nameIndex := 42, descriptorIndex := 43, attributes := #[] }, { accessFlags := 26, nameIndex := 414, descriptorIndex := 359, attributes := #[] }, { accessFlags := 26, nameIndex := 475, descriptorIndex := 359, attributes := #[] }, { accessFlags := 26, nameIndex := 425, descriptorIndex := 359, attributes := #[] }, { accessFlags := 26, nameIndex := 487, descriptorIndex := 359, attributes := #[] }, { accessFlags := 26, nameIndex := 437, descriptorIndex := 359, attributes := #[] }, { accessFlags := 26, nameIndex := 50, descriptorIndex := 47, attributes := #[] }, { accessFlags := 26, nameIndex := 46, descriptorIndex := 47, attributes := #[] }])
  fields := #[{ name := "serialVersionUID", type := .long, accessFlags := 26, slot := 0, constantValue := 0 }, { name := "MAXIMUM_CAPACITY", type := .int, accessFlags := 26, slot := 1, constantValue := 0 }, { name := "DEFAULT_CAPACITY", type := .int, accessFlags := 26, slot := 2, constantValue := 0 }, { name := "MAX_ARRAY_SIZE", type := .int, accessFlags := 24, slot := 3, constantValue := 0 }, { name := "DEFAULT_CONCURRENCY_LEVEL", type := .int, accessFlags := 26, slot := 4, constantValue := 0 }, { name := "LOAD_FACTOR", type := .float, accessFlags := 26, slot := 5, constantValue := 0 }, { name := "TREEIFY_THRESHOLD", type := .int, accessFlags := 24, slot := 6, constantValue := 0 }, { name := "UNTREEIFY_THRESHOLD", type := .int, accessFlags := 24, slot := 7, constantValue := 0 }, { name := "MIN_TREEIFY_CAPACITY", type := .int, accessFlags := 24, slot := 8, constantValue := 0 }, { name := "MIN_TRANSFER_STRIDE", type := .int, accessFlags := 26, slot := 9, constantValue := 0 }, { name := "RESIZE_STAMP_BITS", type := .int, accessFlags := 26, slot := 10, constantValue := 0 }, { name := "MAX_RESIZERS", type := .int, accessFlags := 26, slot := 11, constantValue := 0 }, { name := "RESIZE_STAMP_SHIFT", type := .int, accessFlags := 26, slot := 12, constantValue := 0 }, { name := "MOVED", type := .int, accessFlags := 24, slot := 13, constantValue := 0 }, { name := "TREEBIN", type := .int, accessFlags := 24, slot := 14, constantValue := 0 }, { name := "RESERVED", type := .int, accessFlags := 24, slot := 15, constantValue := 0 }, { name := "HASH_BITS", type := .int, accessFlags := 24, slot := 16, constantValue := 0 }, { name := "NCPU", type := .int, accessFlags := 24, slot := 17, constantValue := 0 }, { name := "serialPersistentFields", type := (.array (.object "java/io/ObjectStreamField")), accessFlags := 26, slot := 18, constantValue := 0 }, { name := "table", type := (.array (.object "java/util/concurrent/ConcurrentHashMap$Node")), accessFlags := 192, slot := 2, constantValue := 0 }, { name := "nextTable", type := (.array (.object "java/util/concurrent/ConcurrentHashMap$Node")), accessFlags := 194, slot := 3, constantValue := 0 }, { name := "baseCount", type := .long, accessFlags := 194, slot := 4, constantValue := 0 }, { name := "sizeCtl", type := .int, accessFlags := 194, slot := 5, constantValue := 0 }, { name := "transferIndex", type := .int, accessFlags := 194, slot := 6, constantValue := 0 }, { name := "cellsBusy", type := .int, accessFlags := 194, slot := 7, constantValue := 0 }, { name := "counterCells", type := (.array (.object "java/util/concurrent/ConcurrentHashMap$CounterCell")), accessFlags := 194, slot := 8, constantValue := 0 }, { name := "keySet", type := (.object "java/util/concurrent/ConcurrentHashMap$KeySetView"), accessFlags := 130, slot := 9, constantValue := 0 }, { name := "values", type := (.object "java/util/concurrent/ConcurrentHashMap$ValuesView"), accessFlags := 130, slot := 10, constantValue := 0 }, { name := "entrySet", type := (.object "java/util/concurrent/ConcurrentHashMap$EntrySetView"), accessFlags := 130, slot := 11, constantValue := 0 }, { name := "U", type := (.object "jdk/internal/misc/Unsafe"), accessFlags := 26, slot := 19, constantValue := 0 }, { name := "SIZECTL", type := .long, accessFlags := 26, slot := 20, constantValue := 0 }, { name := "TRANSFERINDEX", type := .long, accessFlags := 26, slot := 21, constantValue := 0 }, { name := "BASECOUNT", type := .long, accessFlags := 26, slot := 22, constantValue := 0 }, { name := "CELLSBUSY", type := .long, accessFlags := 26, slot := 23, constantValue := 0 }, { name := "CELLVALUE", type := .long, accessFlags := 26, slot := 24, constantValue := 0 }, { name := "ABASE", type := .int, accessFlags := 26, slot := 25, constantValue := 0 }, { name := "ASHIFT", type := .int, accessFlags := 26, slot := 26, constantValue := 0 }]
  methods := #[k9m0]
  instanceTypes := #[(.object "java/util/Set"), (.object "java/util/Collection"), (.array (.object "java/util/concurrent/ConcurrentHashMap$Node")), (.array (.object "java/util/concurrent/ConcurrentHashMap$Node")), .long, .int, .int, .int, (.array (.object "java/util/concurrent/ConcurrentHashMap$CounterCell")), (.object "java/util/concurrent/ConcurrentHashMap$KeySetView"), (.object "java/util/concurrent/ConcurrentHashMap$ValuesView"), (.object "java/util/concurrent/ConcurrentHashMap$EntrySetView")]
  staticTypes := #[.long, .int, .int, .int, .int, .float, .int, .int, .int, .int, .int, .int, .int, .int, .int, .int, .int, .int, (.array (.object "java/io/ObjectStreamField")), (.object "jdk/internal/misc/Unsafe"), .long, .long, .long, .long, .long, .int, .int]
  resolved := Array.replicate 1210 none
  statics := none }

def pool10 : Array CpInfo := pool [(1, u "java/lang/Cloneable"), (0, .class_ 1), (0, u "java/lang/Object"), (0, .class_ 3)] 3

/-- java/lang/Cloneable -/
def k10 : Class := { plain "java/lang/Cloneable" (some 0) with
  accessFlags := 1537
  interfaces := #[]
  cf := some (fileOf pool10 2 #[] #[] 1537 4 #[] #[])
  fields := #[]
  methods := #[]
  instanceTypes := #[]
  staticTypes := #[]
  resolved := Array.replicate 8 none
  statics := none }

/-- the primitive byte -/
def k11 : Class := { plain "byte" none with kind := .primitive 'B', accessFlags := 0x411 }
/-- [B -/
def k12 : Class := { plain "[B" (some 0) with kind := .array 11 .byte, interfaces := #[10, 8], accessFlags := 1041 }

/-- the primitive int -/
def k13 : Class := { plain "int" none with kind := .primitive 'I', accessFlags := 0x411 }
/-- [I -/
def k14 : Class := { plain "[I" (some 0) with kind := .array 13 .int, interfaces := #[10, 8], accessFlags := 1041 }

def heap : Heap := #[]
def classes : Array Class := #[k0, k1, k2, k3, k4, k5, k6, k7, k8, k9, k10, k11, k12, k13, k14]
def interned : List (Array UInt16 × Addr) := []
def slotsUsed : Nat := 0
def theMethod : MethodId := ⟨1, 1⟩
def args0 : Array Value := #[.int 5]
def aboutOver (below : List Frame) : State where
  vm := { classes := classes, interned := interned.toArray }
  heap := heap
  slotsUsed := slotsUsed
  threads := #[{ frames := .invoking theMethod args0 :: below }]
def below0 : List Frame := [.native { method := ⟨0, 0⟩, args := #[] }]
def about1 : State := aboutOver below0
def p0 : Program := .bare "" "" ""
def e0 : Env := launch0.env 0 0 0
theorem w_frames : about1.frames = Frame.invoking theMethod args0 :: below0 := rfl
set_option maxRecDepth 65536 in
theorem w_args : argsFit about1.vm theMethod args0 = true := by decide +kernel
set_option maxRecDepth 65536 in
theorem w_heap : heapFits about1 = true := by decide +kernel
set_option maxRecDepth 65536 in
theorem w_runnable : about1.curStatus? = some .runnable := by decide +kernel
set_option maxRecDepth 65536 in
theorem w_alone : about1.alone = true := by decide +kernel
set_option maxRecDepth 65536 in
theorem w_named : about1.methodNamed? x = some theMethod := by decide +kernel
set_option maxRecDepth 65536 in
theorem w_hears : about1.hears theMethod below0 = true := by decide +kernel
set_option maxRecDepth 65536 in
theorem w_ripe : about1.ripe theMethod args0 below0 = true := by decide +kernel
theorem w_running : about1.status = .running := rfl
set_option maxRecDepth 65536 in
theorem w_room : about1.hasRoom e0.platform room_1 = true :=
  launch0.hasRoom_least _ room_1 (by decide +kernel) (by decide +kernel) (by decide +kernel) (by decide +kernel) (by decide +kernel) (by decide +kernel)
theorem allAtoms_all (ts : List Jvm.Cond) (a : Array Jvm.Value) (st : Jvm.State) : (allAtoms ts).before a st = ts.all (fun c => c.before a st) := by
  induction ts with
  | nil => rfl
  | cons c t ih =>
    show (Jvm.Cond.and c (allAtoms t)).before a st = _
    rw [Jvm.Cond.before_and, ih, List.all_cons]
def words1 : List Jvm.Cond := Jvm.Cond.code x code maxLocals ret :: tables_1
/-- a 'code' word, met by the world's own term for the bytes: nothing is compared byte by byte -/
theorem code_word {y : MethodName} {bytes : ByteArray} {mx : Nat} {rt : Option FieldType} {a : Array Value} {s : State} {m : MethodId} {meth : Method} {c : Code} (h1 : s.methodNamed? y = some m) (h2 : s.vm.method? m = some meth) (h3 : meth.code = some c) (h4 : c.code = bytes)
    (h5 : (c.maxLocals == mx && c.exceptionTable.isEmpty && decide (c.maxStack ≤ mostOperands) && decide (meth.sig.returnType = rt) && !meth.locks && decide (parseMethodDescriptor y.desc = some meth.sig)) = true) : (Jvm.Cond.code y bytes mx rt).before a s = true := by
  simp only [Bool.and_eq_true, beq_iff_eq, Bool.not_eq_true', decide_eq_true_eq] at h5
  obtain ⟨⟨⟨⟨⟨g1, g2⟩, g3⟩, g4⟩, g5⟩, g6⟩ := h5
  simp [Cond.before, Cond.holds, Cond.value, h1, h2, h3, h4, g1, g2, g3, g4, g5, g6]
def isCode : Jvm.Cond → Bool
  | .code _ _ _ _ => true
  | _ => false
theorem all_split {L : List Jvm.Cond} {P : Jvm.Cond → Bool} (h1 : L.all (fun c => isCode c || P c) = true) (h2 : ∀ c ∈ L.filter isCode, P c = true) : L.all P = true := by
  refine List.all_eq_true.mpr fun c hc => ?_
  have h := List.all_eq_true.mp h1 c hc
  rcases Bool.eq_false_or_eq_true (isCode c) with hi | hi
  · exact h2 c (List.mem_filter.mpr ⟨hc, hi⟩)
  · simpa [hi] using h
set_option maxRecDepth 65536 in
theorem w_c0 : (Jvm.Cond.code x code maxLocals ret).before args0 about1 = true := code_word (m := ⟨1, 1⟩) (meth := k1m1) (c := k1c1) (by decide +kernel) rfl rfl rfl (by decide +kernel)
set_option maxRecDepth 65536 in
theorem w_c1 : (Jvm.Cond.code ({ cls := "com/example/tenon/tenon/OpenableScope", name := "<init>", desc := "()V" } : Jvm.MethodName) prog_10_method_1_code (1 : Nat) (Option.none : Option Jvm.ClassFile.FieldType)).before args0 about1 = true := code_word (m := ⟨3, 0⟩) (meth := k3m0) (c := k3c0) (by decide +kernel) rfl rfl rfl (by decide +kernel)
set_option maxRecDepth 65536 in
theorem w_c2 : (Jvm.Cond.code ({ cls := "java/lang/Object", name := "<init>", desc := "()V" } : Jvm.MethodName) object_method_1_code (1 : Nat) (Option.none : Option Jvm.ClassFile.FieldType)).before args0 about1 = true := code_word (m := ⟨0, 0⟩) (meth := k0m0) (c := k0c0) (by decide +kernel) rfl rfl rfl (by decide +kernel)
set_option maxRecDepth 65536 in
theorem w_c3 : (Jvm.Cond.code ({ cls := "com/example/tenon/tenon/OpenableScope", name := "isOpen", desc := "()Z" } : Jvm.MethodName) prog_10_method_4_code (1 : Nat) (Option.some Jvm.ClassFile.FieldType.boolean)).before args0 about1 = true := code_word (m := ⟨3, 3⟩) (meth := k3m3) (c := k3c3) (by decide +kernel) rfl rfl rfl (by decide +kernel)
set_option maxRecDepth 65536 in
theorem w_c4 : (Jvm.Cond.code ({ cls := "com/example/tenon/tenon/OpenableScopeIsOpenPinLaw", name := "step", desc := "(Lcom/example/tenon/tenon/OpenableScope;ZZ)Z" } : Jvm.MethodName) method_3_code (3 : Nat) (Option.some Jvm.ClassFile.FieldType.boolean)).before args0 about1 = true := code_word (m := ⟨1, 2⟩) (meth := k1m2) (c := k1c2) (by decide +kernel) rfl rfl rfl (by decide +kernel)
set_option maxRecDepth 65536 in
theorem w_c5 : (Jvm.Cond.code ({ cls := "com/example/tenon/tenon/OpenableScope", name := "current", desc := "()Lcom/example/tenon/tenon/Scope$Opening;" } : Jvm.MethodName) prog_10_method_5_code (1 : Nat) (Option.some (Jvm.ClassFile.FieldType.object "com/example/tenon/tenon/Scope$Opening"))).before args0 about1 = true := code_word (m := ⟨3, 4⟩) (meth := k3m4) (c := k3c4) (by decide +kernel) rfl rfl rfl (by decide +kernel)
set_option maxRecDepth 65536 in
theorem w_c6 : (Jvm.Cond.code ({ cls := "com/example/tenon/tenon/Scope$Opening", name := "<init>", desc := "()V" } : Jvm.MethodName) prog_14_method_1_code (1 : Nat) (Option.none : Option Jvm.ClassFile.FieldType)).before args0 about1 = true := code_word (m := ⟨4, 0⟩) (meth := k4m0) (c := k4c0) (by decide +kernel) rfl rfl rfl (by decide +kernel)
set_option maxRecDepth 65536 in
theorem w_c7 : (Jvm.Cond.code ({ cls := "java/util/concurrent/ConcurrentHashMap", name := "<init>", desc := "()V" } : Jvm.MethodName) jdk_2776_method_8_code (1 : Nat) (Option.none : Option Jvm.ClassFile.FieldType)).before args0 about1 = true := code_word (m := ⟨9, 0⟩) (meth := k9m0) (c := k9c0) (by decide +kernel) rfl rfl rfl (by decide +kernel)
set_option maxRecDepth 65536 in
theorem w_c8 : (Jvm.Cond.code ({ cls := "java/util/AbstractMap", name := "<init>", desc := "()V" } : Jvm.MethodName) jdk_71_method_1_code (1 : Nat) (Option.none : Option Jvm.ClassFile.FieldType)).before args0 about1 = true := code_word (m := ⟨6, 0⟩) (meth := k6m0) (c := k6c0) (by decide +kernel) rfl rfl rfl (by decide +kernel)
def codes1 : List Jvm.Cond := [Jvm.Cond.code x code maxLocals ret, Jvm.Cond.code ({ cls := "com/example/tenon/tenon/OpenableScope", name := "<init>", desc := "()V" } : Jvm.MethodName) prog_10_method_1_code (1 : Nat) (Option.none : Option Jvm.ClassFile.FieldType), Jvm.Cond.code ({ cls := "java/lang/Object", name := "<init>", desc := "()V" } : Jvm.MethodName) object_method_1_code (1 : Nat) (Option.none : Option Jvm.ClassFile.FieldType), Jvm.Cond.code ({ cls := "com/example/tenon/tenon/OpenableScope", name := "isOpen", desc := "()Z" } : Jvm.MethodName) prog_10_method_4_code (1 : Nat) (Option.some Jvm.ClassFile.FieldType.boolean), Jvm.Cond.code ({ cls := "com/example/tenon/tenon/OpenableScopeIsOpenPinLaw", name := "step", desc := "(Lcom/example/tenon/tenon/OpenableScope;ZZ)Z" } : Jvm.MethodName) method_3_code (3 : Nat) (Option.some Jvm.ClassFile.FieldType.boolean), Jvm.Cond.code ({ cls := "com/example/tenon/tenon/OpenableScope", name := "current", desc := "()Lcom/example/tenon/tenon/Scope$Opening;" } : Jvm.MethodName) prog_10_method_5_code (1 : Nat) (Option.some (Jvm.ClassFile.FieldType.object "com/example/tenon/tenon/Scope$Opening")), Jvm.Cond.code ({ cls := "com/example/tenon/tenon/Scope$Opening", name := "<init>", desc := "()V" } : Jvm.MethodName) prog_14_method_1_code (1 : Nat) (Option.none : Option Jvm.ClassFile.FieldType), Jvm.Cond.code ({ cls := "java/util/concurrent/ConcurrentHashMap", name := "<init>", desc := "()V" } : Jvm.MethodName) jdk_2776_method_8_code (1 : Nat) (Option.none : Option Jvm.ClassFile.FieldType), Jvm.Cond.code ({ cls := "java/util/AbstractMap", name := "<init>", desc := "()V" } : Jvm.MethodName) jdk_71_method_1_code (1 : Nat) (Option.none : Option Jvm.ClassFile.FieldType)]
set_option maxRecDepth 65536 in
theorem codes_eq : words1.filter isCode = codes1 := rfl
theorem w_codes : ∀ c ∈ words1.filter isCode, c.before args0 about1 = true := by
  rw [codes_eq]
  intro c hc
  simp only [codes1, List.mem_cons, List.not_mem_nil, or_false] at hc
  rcases hc with rfl | rfl | rfl | rfl | rfl | rfl | rfl | rfl | rfl
  · exact w_c0
  · exact w_c1
  · exact w_c2
  · exact w_c3
  · exact w_c4
  · exact w_c5
  · exact w_c6
  · exact w_c7
  · exact w_c8
set_option maxRecDepth 65536 in
theorem w_t1 : (words1.take 24).all (fun c => isCode c || c.before args0 about1) = true := by decide +kernel
set_option maxRecDepth 65536 in
theorem w_t2 : ((words1.drop 24).take 24).all (fun c => isCode c || c.before args0 about1) = true := by decide +kernel
set_option maxRecDepth 65536 in
theorem w_t3 : ((words1.drop 24).drop 24).all (fun c => isCode c || c.before args0 about1) = true := by decide +kernel
theorem w_tables : (allAtoms (Jvm.Cond.code x code maxLocals ret :: tables_1)).before args0 about1 = true := by
  rw [allAtoms_all]
  show words1.all (fun c => c.before args0 about1) = true
  refine all_split ?_ w_codes
  rw [← List.take_append_drop 24 words1, List.all_append, w_t1, ← List.take_append_drop 24 (words1.drop 24), List.all_append, w_t2, w_t3]
  rfl
set_option maxRecDepth 65536 in
theorem w_case : (Jvm.Cond.and given_1 narrow_1).before args0 about1 = true := by decide +kernel
theorem w_applies : (headSpec (Jvm.Cond.code x code maxLocals ret :: tables_1) room_1).applies x e0.platform about1 = true :=
  (Spec.applies_iff w_frames).mpr ⟨w_running, w_runnable, w_alone, w_named, w_hears, w_ripe, w_room, w_tables⟩
theorem atStart : AtStart classFile x code maxLocals ret World_1 tables_1 room_1 Calls_1 rest_1 Pre_1 launch0 p0 e0 about1 theMethod args0 below0 :=
  ⟨lists_1, trivial, launch0.admits_env _ _ _, launch0.least_env, fairChoices_fair.cas, fairChoices_fair.clock, w_frames, w_args, w_heap, w_applies, trivial, trivial, w_case⟩
end start1
theorem witness_1 : WitnessClaimed_1 := ⟨start1.p0, start1.e0, start1.about1, start1.theMethod, start1.args0, start1.below0, start1.atStart⟩
end Jvm.Pilot.@@N@@
