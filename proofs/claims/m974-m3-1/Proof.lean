import JvmDerived
import JvmDerived.Pilot.@@N@@Statement
import JvmDerived.Pilot.@@N@@Code
set_option linter.unusedVariables false
set_option linter.unusedSimpArgs false
namespace Jvm.RoadKit
open Sem ClassFile Op Lib Jvm.Stand Jvm.Free Jvm.LawKit
section New
variable {p : Program} {l : Launch} {e : Env} {R : Room} {s : State} {m : MethodId} {args : Array Value} {below : List Frame} {meth : Method} {c : Code} {T : State} {locs : List Loc} {cells slots : Nat}
theorem retI (X : Stand p l e R s m args below meth c T locs cells slots) (hx : p.tables.exec = Jvm.exec) {pc : Nat} {Ls : Array Slot} {z : Int32} {rest : List Value} (hret : meth.sig.returnType = some .int) (hd : decode c.code pc = .ok (.ireturn, 1)) {fs : List Frame}
    (hl : ∀ (f : JFrame) (acts : List Action), f.method = m → f.locked = none → f.entered = [] → (doReturn e (T.setTop f) acts (some (.int z))).1 = T.setFrames fs) : Steps p.tables e below (T.setTop (mkF m pc Ls (.int z :: rest))) (T.setFrames fs) := by
  have hm' : T.vm.method? m = some meth := X.method'
  have hn : narrow .int (.int z) = .int z := rfl
  show Steps p.tables e below (T.setTop { method := m, pc := pc, locals := Ls, stack := _ :: rest, locked := none }) _
  jvm_step X.here [X.here.top, hx, hd, hm', hret, hn]
  first | (intro acts; rw [hl _ acts rfl rfl rfl]) | rw [hl _ _ rfl rfl rfl]
  exact Steps.refl _
end New
end Jvm.RoadKit
@@BLOCK:NumsL.lean.txt@@
namespace Jvm.Pilot.@@N@@
open Jvm Jvm.ClassFile Sem Op Lib Jvm.Free Jvm.Stand Jvm.LawKit Jvm.RoadKit Bundle Jvm.Pilot.@@N@@.Jvm.D
/-! own: an array by its places -/
def own_A (Z : State) (h : Heap) (a : Addr) (ty : FieldType) (N : Nat) (f : Nat → Value) : Prop := ∃ c : Cell, Arr Z h a c ty ∧ c.slots.size = N ∧ ∀ j, j < N → c.slots[j]? = some (f j)
def own_set (f : Nat → Value) (j : Nat) (v : Value) : Nat → Value := fun i => if i = j then v else f i
section OwnArr
variable {Z : State} {h h' : Heap} {a b : Addr} {ty : FieldType} {N : Nat} {f g : Nat → Value}
theorem own_A.ext (A : own_A Z h a ty N f) (E : Ext h h') : own_A Z h' a ty N f := by obtain ⟨c, x, r⟩ := A; exact ⟨c, x.ext E, r⟩
theorem own_A.other {sl : Nat} {v : Value} (A : own_A Z h b ty N f) (W : Wr h h' a sl v) (q : b ≠ a) : own_A Z h' b ty N f := by obtain ⟨c, x, r⟩ := A; exact ⟨c, x.other W q, r⟩
theorem own_A.keep {ws : List Addr} (A : own_A Z h a ty N f) (K : Keep h h' ws) (q : a ∉ ws) : own_A Z h' a ty N f := by obtain ⟨c, x, r⟩ := A; exact ⟨c, ⟨K.2.1 a c x.1 q, x.2⟩, r⟩
theorem own_A.lt (A : own_A Z h a ty N f) : a < h.size := by obtain ⟨c, x, -⟩ := A; exact x.lt
theorem own_A.congr (A : own_A Z h a ty N f) (q : ∀ j, j < N → f j = g j) : own_A Z h a ty N g := by obtain ⟨c, x, s, H⟩ := A; exact ⟨c, x, s, fun j hj => by rw [H j hj, q j hj]⟩
theorem own_A.new {k : ClassId} {z : Int32} (x : Arr Z h a (newA k ty z) ty) (hz : z.toNatClampNeg = N) : own_A Z h a ty N (fun _ => defaultValue ty) := ⟨_, x, by rw [sz_new]; exact hz, fun j hj => by rw [← hz] at hj; simp [newA, hj]⟩
theorem own_A.set {n : Nat} {v : Value} (A : own_A Z h a ty N f) (W : Wr h h' a n v) (hn : n < N) : own_A Z h' a ty N (own_set f n v) := by
  obtain ⟨c, x, s, H⟩ := A
  refine ⟨_, x.same W, by rw [sz_set]; exact s, fun j hj => ?_⟩
  show (c.slots.setIfInBounds n v)[j]? = _
  by_cases q : j = n
  · subst q; simp [own_set, s, hn]
  · rw [Array.getElem?_setIfInBounds_ne (fun z => q z.symm), H j hj, own_set, if_neg q]
theorem own_natC (n : Nat) (hn : n < 2 ^ 31) : (Int32.ofNat n).toNatClampNeg = n := by
  rw [Int32.toNatClampNeg, Int32.toInt_ofNat_of_lt hn]; rfl
theorem own_in {c : Cell} {n : Nat} (s : c.slots.size = N) (hn : n < N) (hN : N < 2 ^ 31) : ¬ (Int32.ofNat n < 0 ∨ c.slots.size ≤ (Int32.ofNat n).toNatClampNeg) := by
  rw [own_natC n (by omega), s, Int32.lt_iff_toInt_lt, Int32.toInt_ofNat_of_lt (by omega)]
  simp only [Int32.toInt_zero]
  omega
end OwnArr
/-! own: a quotient of two whole numbers is no NaN and no zero; what is divided by it is no NaN -/
open Jvm.FP.Core in
theorem own_rr (s : Bool) (N M : Nat) (hN : 0 < N) (hM : 0 < M) (hM2 : M ≤ 65536) : roundRatio b64 s N M 0 ≠ .nan ∧ ∀ s' q', roundRatio b64 s N M 0 ≠ .fin s' 0 q' := by
  refine ⟨roundRatio_ne_nan _ _ _ _ _, fun s' q' => ?_⟩
  have hk : 1 ≤ nearest (unitsNum N 0 (quantum b64 N M 0)) (unitsDen M 0 (quantum b64 N M 0)) := by
    refine nearest_ge (unitsDen_pos hM _ _) ?_
    have nb : ¬ Below N M (quantum b64 N M 0 - 0 + ((0 : Nat) : Int)) := by
      rcases quantum_not_below (f := b64) hN hM 0 with h | h
      · rw [h]
        intro z
        have e : b64.qmin - 0 + ((0 : Nat) : Int) = ((0 : Nat) : Int) - (1074 : Nat) := by decide
        rw [e, below_iff] at z
        have p : 65536 ≤ 2 ^ 1074 := Nat.le_trans (show 65536 ≤ 2 ^ 16 by decide) (Nat.pow_le_pow_right (by decide) (by decide))
        have p2 : 2 ^ 1074 ≤ N * 2 ^ 1074 := Nat.le_mul_of_pos_left _ hN
        rw [Nat.pow_zero, Nat.mul_one] at z
        exact absurd (Nat.lt_of_lt_of_le (Nat.lt_of_le_of_lt p2 z) (Nat.le_trans hM2 p)) (Nat.lt_irrefl _)
      · intro z
        exact h (below_mono (by rw [show b64.p = 53 from rfl]; omega) z)
    rw [← units_below] at nb
    have := Nat.le_of_not_lt nb
    simpa using this
  unfold roundRatio
  rw [if_neg (by omega)]
  unfold roundAt
  generalize nearest (unitsNum N 0 (quantum b64 N M 0)) (unitsDen M 0 (quantum b64 N M 0)) = k at hk
  unfold settle bound
  by_cases h1 : k < 2 ^ b64.p
  · rw [if_pos h1]
    by_cases h2 : quantum b64 N M 0 ≤ b64.qmax
    · rw [if_pos h2]; intro z; injection z with _ z _; omega
    · rw [if_neg h2]; intro z; cases z
  · rw [if_neg h1]
    by_cases h2 : quantum b64 N M 0 + 1 ≤ b64.qmax
    · rw [if_pos h2]; intro z; injection z with _ z _; exact absurd z (by decide)
    · rw [if_neg h2]; intro z; cases z
theorem own_pows {c m n d a b a' b' x y : Nat} (h1 : c * 2 ^ a = n * 2 ^ b) (h2 : d * 2 ^ a' = m * 2 ^ b') (hxy : a + b' + y = b + a' + x) (h0 : x = 0 ∨ y = 0) : c * m * 2 ^ x = n * d * 2 ^ y := by
  have e : c * m * 2 ^ (a + b') = n * d * 2 ^ (b + a') := by
    rw [Nat.pow_add, Nat.pow_add]
    calc c * m * (2 ^ a * 2 ^ b') = (c * 2 ^ a) * (m * 2 ^ b') := by ac_rfl
      _ = (n * 2 ^ b) * (d * 2 ^ a') := by rw [h1, h2]
      _ = n * d * (2 ^ b * 2 ^ a') := by ac_rfl
  rcases h0 with h0 | h0
  · subst h0
    have q : b + a' = y + (a + b') := by omega
    rw [q, Nat.pow_add 2 y, ← Nat.mul_assoc] at e
    rw [Nat.pow_zero, Nat.mul_one]
    exact Nat.eq_of_mul_eq_mul_right (Nat.two_pow_pos _) e
  · subst h0
    have q : a + b' = x + (b + a') := by omega
    rw [q, Nat.pow_add 2 x, ← Nat.mul_assoc] at e
    rw [Nat.pow_zero, Nat.mul_one]
    exact Nat.eq_of_mul_eq_mul_right (Nat.two_pow_pos _) e
open Jvm.FP.Core in
theorem own_quot (n m : Int32) (hn : 1 ≤ n.toInt) (hm : 1 ≤ m.toInt) (hm2 : m.toInt ≤ 65536) : val64 (ddiv (i2d n) (i2d m)) ≠ .nan ∧ ∀ s q, val64 (ddiv (i2d n) (i2d m)) ≠ .fin s 0 q := by
  have wn : Whole n.toInt (val64 (i2d n)) := i2d_int n
  have wm : Whole m.toInt (val64 (i2d m)) := i2d_int m
  rw [val64_ddiv]
  generalize val64 (i2d n) = dn at wn
  generalize val64 (i2d m) = dm at wm
  cases dn with
  | nan => exact wn.elim
  | inf => exact wn.elim
  | fin s c q =>
  cases dm with
  | nan => exact wm.elim
  | inf => exact wm.elim
  | fin t d r =>
    have hd : d ≠ 0 := fun z => by have := (whole_zero wm).1 z; omega
    have e : quotient b64 (.fin s c q) (.fin t d r) = roundRatio b64 (s != t) c d (q - r) := by
      show (if d = 0 then _ else _) = _
      rw [if_neg hd]
    have h1 := whole_natAbs wn
    have h2 := whole_natAbs wm
    have e2 : roundRatio b64 (s != t) c d (q - r) = roundRatio b64 (s != t) n.toInt.natAbs m.toInt.natAbs 0 :=
      roundRatio_congr (by omega) (by omega) (own_pows h1 h2 (by omega) (by omega))
    rw [e, e2]
    exact own_rr _ _ _ (by omega) (by omega) (by omega)
open Jvm.FP.Core in
theorem own_over (x : Int32) (t : UInt64) (h : val64 t ≠ .nan ∧ ∀ s q, val64 t ≠ .fin s 0 q) : Jvm.Free.Fl.NoNaN64 (Jvm.FP.ddiv (Jvm.FP.i2d x) t) := by
  rw [Jvm.Free.Fl.noNaN64_no, notNaN_iff]
  show val64 (ddiv (i2d x) t) ≠ .nan
  rw [val64_ddiv]
  have wx : Whole x.toInt (val64 (i2d x)) := i2d_int x
  generalize val64 (i2d x) = dx at wx
  generalize val64 t = dt at h
  cases dx with
  | nan => exact wx.elim
  | inf => exact wx.elim
  | fin s c q =>
  cases dt with
  | nan => exact absurd rfl h.1
  | inf t => intro z; cases z
  | fin t d r =>
    have hd : d ≠ 0 := fun z => h.2 t r (by rw [z])
    show (if d = 0 then _ else _) ≠ _
    rw [if_neg hd]
    exact roundRatio_ne_nan _ _ _ _ _
open Jvm.FP.Core in
theorem own_noNaN (n m : Int32) (hn : 1 ≤ n.toInt) (hm : 1 ≤ m.toInt) (hm2 : m.toInt ≤ 65536) : Jvm.Free.Fl.NoNaN64 (Jvm.FP.ddiv (Jvm.FP.i2d n) (Jvm.FP.i2d m)) := by
  rw [Jvm.Free.Fl.noNaN64_no, notNaN_iff]
  exact (own_quot n m hn hm hm2).1
def own_D (Z : State) (h : Heap) (a : Addr) (f : Nat → UInt64) : Prop := own_A Z h a .double 4 (fun j => .double (f j))
def own_sd (f : Nat → UInt64) (k : Nat) (v : UInt64) : Nat → UInt64 := fun j => if j = k then v else f j
theorem own_D.store {Z : State} {h h' : Heap} {a : Addr} {f : Nat → UInt64} {n : Nat} {v : UInt64} (A : own_D Z h a f) (W : Wr h h' a (Int32.ofNat n).toNatClampNeg (.double v)) (hn : n < 4) : own_D Z h' a (own_sd f n v) := by
  rw [own_natC n (by omega)] at W
  refine (own_A.set A W hn).congr fun j hj => ?_
  show (if j = n then _ else _) = Value.double (if j = n then _ else _)
  by_cases q : j = n
  · rw [if_pos q, if_pos q]
  · rw [if_neg q, if_neg q]
theorem own_D.congr {Z : State} {h : Heap} {a : Addr} {f g : Nat → UInt64} (A : own_D Z h a f) (q : ∀ j, j < 4 → f j = g j) : own_D Z h a g := own_A.congr A fun j hj => by show Value.double (f j) = Value.double (g j); rw [q j hj]
theorem own_at {c : Cell} {f : Nat → UInt64} (H : ∀ j, j < 4 → c.slots[j]? = some ((fun j => Value.double (f j)) j)) {n : Nat} (hn : n < 4) {v : UInt64} (e : f n = v) : c.slots[(Int32.ofNat n).toNatClampNeg]? = some (.double v) := by
  rw [own_natC n (by omega), H n hn]; show some (Value.double (f n)) = _; rw [e]
/-- k places divided -/
def own_dk (g : Nat → UInt64) (t : UInt64) (k : Nat) : Nat → UInt64 := fun j => if j < k then FP.ddiv (g j) t else g j
theorem own_D.turn {Z : State} {h h' : Heap} {a : Addr} {g : Nat → UInt64} {t : UInt64} {k : Nat} (A : own_D Z h a (own_dk g t k)) (W : Wr h h' a (Int32.ofNat k).toNatClampNeg (.double (FP.ddiv (g k) t))) (hk : k < 4) : own_D Z h' a (own_dk g t (k + 1)) := by
  refine own_D.congr (own_D.store A W hk) fun j hj => ?_
  show (if j = k then FP.ddiv (g k) t else if j < k then FP.ddiv (g j) t else g j) = if j < k + 1 then FP.ddiv (g j) t else g j
  by_cases q : j = k
  · rw [if_pos q, if_pos (by omega), q]
  · rw [if_neg q]
    by_cases q2 : j < k
    · rw [if_pos q2, if_pos (by omega)]
    · rw [if_neg q2, if_neg (by omega)]
theorem own_dk_at (g : Nat → UInt64) (t : UInt64) (k : Nat) : own_dk g t k k = g k := if_neg (Nat.lt_irrefl _)
theorem d1_0 : decode prog_22_method_8_code 0 = .ok (.iconst 0, 1) := by decide +kernel
theorem d1_1 : decode prog_22_method_8_code 1 = .ok (.istore_n 3, 1) := by decide +kernel
theorem d1_2 : decode prog_22_method_8_code 2 = .ok (.iload_n 3, 1) := by decide +kernel
theorem d1_3 : decode prog_22_method_8_code 3 = .ok (.aload_n 0, 1) := by decide +kernel
theorem d1_4 : decode prog_22_method_8_code 4 = .ok (.arraylength, 1) := by decide +kernel
theorem d1_5 : decode prog_22_method_8_code 5 = .ok (.if_icmp .ge 16, 3) := by decide +kernel
theorem d1_8 : decode prog_22_method_8_code 8 = .ok (.aload_n 0, 1) := by decide +kernel
theorem d1_9 : decode prog_22_method_8_code 9 = .ok (.iload_n 3, 1) := by decide +kernel
theorem d1_10 : decode prog_22_method_8_code 10 = .ok (.dup2, 1) := by decide +kernel
theorem d1_11 : decode prog_22_method_8_code 11 = .ok (.daload, 1) := by decide +kernel
theorem d1_12 : decode prog_22_method_8_code 12 = .ok (.dload_n 1, 1) := by decide +kernel
theorem d1_13 : decode prog_22_method_8_code 13 = .ok (.ddiv, 1) := by decide +kernel
theorem d1_14 : decode prog_22_method_8_code 14 = .ok (.dastore, 1) := by decide +kernel
theorem d1_15 : decode prog_22_method_8_code 15 = .ok (.iinc 3 1, 3) := by decide +kernel
theorem d1_18 : decode prog_22_method_8_code 18 = .ok (.goto (-16), 3) := by decide +kernel
theorem d1_21 : decode prog_22_method_8_code 21 = .ok (.return_, 1) := by decide +kernel
theorem pn_1 : plainName "com/example/caudal/caudal/Sweep" = true := by first | (simp [plainName, overriddenIn]; done) | decide +kernel
theorem ef_1 (m : MethodId) (x0 : Addr) (x1 : UInt64) : entryFrame m #[(.ref x0), (.double x1)] 4 = mkF m 0 #[.val (.ref x0), .val (.double x1), .second, .unset] [] := by first | rfl | (simp [entryFrame, mkF, argsToLocals, Value.category]; done)
def Q1 (Z : State) (a1 : Addr) (td : UInt64) (g : Nat → UInt64) (h0 : Heap) (n0 : Nat) (v : Option Value) (h : Heap) (L : List Loc) : Prop := v = none ∧ Fr n0 L ∧ n0 ≤ h.size ∧ own_D Z h a1 (own_dk g td 4)
set_option maxRecDepth 65536 in
set_option maxHeartbeats 40000000 in
theorem rm1 (l : Launch) (Z : State) (a0 : Array Value) (hw : ∀ d ∈ tables_1, d.before a0 Z = true) (ws : List Jvm.Cond) (a1 : Addr) (td : UInt64) (g : Nat → UInt64) (h0 : Heap) (n0 : Nat) (Z0 : n0 ≤ h0.size) (A : own_D Z h0 a1 (own_dk g td 0)) (g_a1 : n0 ≤ a1) (hn : ∀ j, Jvm.Free.Fl.NoNaN64 (FP.ddiv (g j) td)) :
    MetFree l (⟨"com/example/caudal/caudal/Sweep", "normalise", "([DD)V"⟩ : MethodName) (head1 (Jvm.Cond.code (⟨"com/example/caudal/caudal/Sweep", "normalise", "([DD)V"⟩ : MethodName) prog_22_method_8_code 4 none :: ws) ({ frames := 0, cells := 0, slots := 0, locals := 0 } : Room)) (fun a U => a = #[(.ref a1), (.double td)] ∧ Z.Warmed39 U.vm ∧ U.heap = h0) (fun _ _ _ _ _ => True) (fun _ U o U' => ∃ v L, o = .returned v ∧ Q1 Z a1 td g h0 n0 v U'.heap L ∧ FrameEnd U o U' L ({ frames := 0, cells := 0, slots := 0, locals := 0 } : Room).cells ({ frames := 0, cells := 0, slots := 0, locals := 0 } : Room).slots) := by
  refine MetFree.of_bodySF (plainFor_of_name pn_1) hisR ?_
  intro p e s m args below meth c s₁ Bd hml0 hP hK
  obtain ⟨rfl, hZ, hh⟩ := hP
  have hx := Bd.exec
  have hby := Bd.bytes
  have hml : c.maxLocals = 4 := hml0
  have hown : s.vm.findClass "com/example/caudal/caudal/Sweep" = some m.cls := findClass_of_methodNamed Bd.named
  have hnm := (name_of_methodNamed Bd.named Bd.method).1
  have X0 : Stand p l e ({ frames := 0, cells := 0, slots := 0, locals := 0 } : Room) s m #[(.ref a1), (.double td)] below meth c s₁ [] 0 0 := Stand.of_body Bd
  have e0 : s₁.heap = h0 := by rw [← hh, Bd.state]; rfl
  have N0 := Fr.nil n0
  have pre0 : ∀ t, Steps p.tables e below (s₁.setTop (mkF m 0 #[.val (.ref a1), .val (.double td), .second, .unset] [])) t → Steps p.tables e below (s₁.setTop (entryFrame m #[(.ref a1), (.double td)] 4)) t := fun t k => castTop (ef_1 m a1 td) k
  have A0 := A
  have Y0 := Z0
  obtain ⟨c1, Ar1, S1, H1⟩ := id A0
  obtain ⟨T1, h1, X1, e1, W1, st1⟩ := stD X0 hx hZ e0 Ar1 (j := (0 : Int32)) (own_in (n := 0) S1 (by decide) (by decide)) (g := (mkF m 14 #[.val (.ref a1), .val (.double td), .second, .val (.int (0 : Int32))] [(.double (FP.ddiv (g 0) td)), (.int (0 : Int32)), (.ref a1)])) rfl rfl (hb hby d1_14)
  have A1 : own_D Z h1 a1 (own_dk g td 1) := own_D.turn (k := 0) A0 W1 (by decide)
  have N1 := Fr.snoc X1 N0 g_a1
  have Y1 : n0 ≤ h1.size := Nat.le_trans Y0 (Keep.of_wr W1).1
  obtain ⟨c2, Ar2, S2, H2⟩ := id A1
  obtain ⟨T2, h2, X2, e2, W2, st2⟩ := stD X1 hx hZ e1 Ar2 (j := (1 : Int32)) (own_in (n := 1) S2 (by decide) (by decide)) (g := (mkF m 14 #[.val (.ref a1), .val (.double td), .second, .val (.int (1 : Int32))] [(.double (FP.ddiv (g 1) td)), (.int (1 : Int32)), (.ref a1)])) rfl rfl (hb hby d1_14)
  have A2 : own_D Z h2 a1 (own_dk g td 2) := own_D.turn (k := 1) A1 W2 (by decide)
  have N2 := Fr.snoc X2 N1 g_a1
  have Y2 : n0 ≤ h2.size := Nat.le_trans Y1 (Keep.of_wr W2).1
  obtain ⟨c3, Ar3, S3, H3⟩ := id A2
  obtain ⟨T3, h3, X3, e3, W3, st3⟩ := stD X2 hx hZ e2 Ar3 (j := (2 : Int32)) (own_in (n := 2) S3 (by decide) (by decide)) (g := (mkF m 14 #[.val (.ref a1), .val (.double td), .second, .val (.int (2 : Int32))] [(.double (FP.ddiv (g 2) td)), (.int (2 : Int32)), (.ref a1)])) rfl rfl (hb hby d1_14)
  have A3 : own_D Z h3 a1 (own_dk g td 3) := own_D.turn (k := 2) A2 W3 (by decide)
  have N3 := Fr.snoc X3 N2 g_a1
  have Y3 : n0 ≤ h3.size := Nat.le_trans Y2 (Keep.of_wr W3).1
  obtain ⟨c4, Ar4, S4, H4⟩ := id A3
  obtain ⟨T4, h4, X4, e4, W4, st4⟩ := stD X3 hx hZ e3 Ar4 (j := (3 : Int32)) (own_in (n := 3) S4 (by decide) (by decide)) (g := (mkF m 14 #[.val (.ref a1), .val (.double td), .second, .val (.int (3 : Int32))] [(.double (FP.ddiv (g 3) td)), (.int (3 : Int32)), (.ref a1)])) rfl rfl (hb hby d1_14)
  have A4 : own_D Z h4 a1 (own_dk g td 4) := own_D.turn (k := 3) A3 W4 (by decide)
  have N4 := Fr.snoc X4 N3 g_a1
  have Y4 : n0 ≤ h4.size := Nat.le_trans Y3 (Keep.of_wr W4).1
  obtain ⟨c9, Ar9, S9, H9⟩ := id A4
  obtain ⟨fs, hr, hrun, hended, hW, hsame⟩ := X4.leave (v := none) (fun _ => rfl)
  refine ⟨_, _, pre0 _ ?_, hrun, hended, _, _, rfl, ?_, ⟨_, rfl⟩, hW, hsame.mono (by decide) (by decide)⟩
  · show Steps p.tables e below (s₁.setTop (mkF m 0 #[.val (.ref a1), .val (.double td), .second, .unset] [])) _
    refine XS.iconst X0.here hx rfl (hb hby d1_0) ?_
    show Steps p.tables e below (s₁.setTop (mkF m 1 #[.val (.ref a1), .val (.double td), .second, .unset] [(.int (0 : Int32))])) _
    refine XS.istoreN X0.here hx rfl (hb hby d1_1) rfl (l' := #[.val (.ref a1), .val (.double td), .second, .val (.int (0 : Int32))]) rfl ?_
    show Steps p.tables e below (s₁.setTop (mkF m 2 #[.val (.ref a1), .val (.double td), .second, .val (.int (0 : Int32))] [])) _
    refine XS.iloadN X0.here hx rfl (hb hby d1_2) rfl ?_
    show Steps p.tables e below (s₁.setTop (mkF m 3 #[.val (.ref a1), .val (.double td), .second, .val (.int (0 : Int32))] [(.int (0 : Int32))])) _
    refine XS.aloadN X0.here hx rfl (hb hby d1_3) rfl rfl ?_
    show Steps p.tables e below (s₁.setTop (mkF m 4 #[.val (.ref a1), .val (.double td), .second, .val (.int (0 : Int32))] [(.ref a1), (.int (0 : Int32))])) _
    refine X0.arraylength hx (by rw [e0]; exact Ar1.1) (State.isArrayOf_alike hZ.alike Ar1.2.1) (g := (mkF m 4 #[.val (.ref a1), .val (.double td), .second, .val (.int (0 : Int32))] [(.ref a1), (.int (0 : Int32))])) rfl rfl (hb hby d1_4) _ ?_
    show Steps p.tables e below (s₁.setTop (mkF m 5 #[.val (.ref a1), .val (.double td), .second, .val (.int (0 : Int32))] [(.int (c1.slots.size).toInt32), (.int (0 : Int32))])) _
    rw [S1]
    show Steps p.tables e below (s₁.setTop (mkF m 5 #[.val (.ref a1), .val (.double td), .second, .val (.int (0 : Int32))] [(.int (4 : Int32)), (.int (0 : Int32))])) _
    refine XS.icmpNo X0.here hx rfl (hb hby d1_5) rfl (tlt (by decide)).2.1 ?_
    show Steps p.tables e below (s₁.setTop (mkF m 8 #[.val (.ref a1), .val (.double td), .second, .val (.int (0 : Int32))] [])) _
    refine XS.aloadN X0.here hx rfl (hb hby d1_8) rfl rfl ?_
    show Steps p.tables e below (s₁.setTop (mkF m 9 #[.val (.ref a1), .val (.double td), .second, .val (.int (0 : Int32))] [(.ref a1)])) _
    refine XS.iloadN X0.here hx rfl (hb hby d1_9) rfl ?_
    show Steps p.tables e below (s₁.setTop (mkF m 10 #[.val (.ref a1), .val (.double td), .second, .val (.int (0 : Int32))] [(.int (0 : Int32)), (.ref a1)])) _
    jvm_step X0.here [X0.here.top, hx, (hb hby d1_10), Value.category]
    show Steps p.tables e below (s₁.setTop (mkF m 11 #[.val (.ref a1), .val (.double td), .second, .val (.int (0 : Int32))] [(.int (0 : Int32)), (.ref a1), (.int (0 : Int32)), (.ref a1)])) _
    refine X0.daload hx (j := (0 : Int32)) (v := (.double (g 0))) (by rw [e0]; exact Ar1.1) (State.isArrayOf_alike hZ.alike Ar1.2.1) Ar1.2.2 (own_in (n := 0) S1 (by decide) (by decide)) (own_at (n := 0) H1 (by decide) (own_dk_at g td 0)) (g := (mkF m 11 #[.val (.ref a1), .val (.double td), .second, .val (.int (0 : Int32))] [(.int (0 : Int32)), (.ref a1), (.int (0 : Int32)), (.ref a1)])) rfl rfl (hb hby d1_11) _ ?_
    show Steps p.tables e below (s₁.setTop (mkF m 12 #[.val (.ref a1), .val (.double td), .second, .val (.int (0 : Int32))] [(.double (g 0)), (.int (0 : Int32)), (.ref a1)])) _
    refine XS.dloadN X0.here hx rfl (hb hby d1_12) rfl ?_
    show Steps p.tables e below (s₁.setTop (mkF m 13 #[.val (.ref a1), .val (.double td), .second, .val (.int (0 : Int32))] [(.double td), (.double (g 0)), (.int (0 : Int32)), (.ref a1)])) _
    refine XS.ddivS X0.here hx rfl (hb hby d1_13) rfl (hn 0) rfl ?_
    show Steps p.tables e below (s₁.setTop (mkF m 14 #[.val (.ref a1), .val (.double td), .second, .val (.int (0 : Int32))] [(.double (FP.ddiv (g 0) td)), (.int (0 : Int32)), (.ref a1)])) _
    refine st1 _ ?_
    show Steps p.tables e below (T1.setTop (mkF m 15 #[.val (.ref a1), .val (.double td), .second, .val (.int (0 : Int32))] [])) _
    refine XS.iinc X1.here hx rfl (hb hby d1_15) rfl (l' := #[.val (.ref a1), .val (.double td), .second, .val (.int ((0 : Int32) + (1 : Int32)))]) rfl ?_
    show Steps p.tables e below (T1.setTop (mkF m 18 #[.val (.ref a1), .val (.double td), .second, .val (.int (1 : Int32))] [])) _
    refine XS.goto X1.here hx rfl (pc0 := 18) (pc' := 2) rfl (hb hby d1_18) (by decide) (by decide) ?_
    show Steps p.tables e below (T1.setTop (mkF m 2 #[.val (.ref a1), .val (.double td), .second, .val (.int (1 : Int32))] [])) _
    refine XS.iloadN X1.here hx rfl (hb hby d1_2) rfl ?_
    show Steps p.tables e below (T1.setTop (mkF m 3 #[.val (.ref a1), .val (.double td), .second, .val (.int (1 : Int32))] [(.int (1 : Int32))])) _
    refine XS.aloadN X1.here hx rfl (hb hby d1_3) rfl rfl ?_
    show Steps p.tables e below (T1.setTop (mkF m 4 #[.val (.ref a1), .val (.double td), .second, .val (.int (1 : Int32))] [(.ref a1), (.int (1 : Int32))])) _
    refine X1.arraylength hx (by rw [e1]; exact Ar2.1) (State.isArrayOf_alike hZ.alike Ar2.2.1) (g := (mkF m 4 #[.val (.ref a1), .val (.double td), .second, .val (.int (1 : Int32))] [(.ref a1), (.int (1 : Int32))])) rfl rfl (hb hby d1_4) _ ?_
    show Steps p.tables e below (T1.setTop (mkF m 5 #[.val (.ref a1), .val (.double td), .second, .val (.int (1 : Int32))] [(.int (c2.slots.size).toInt32), (.int (1 : Int32))])) _
    rw [S2]
    show Steps p.tables e below (T1.setTop (mkF m 5 #[.val (.ref a1), .val (.double td), .second, .val (.int (1 : Int32))] [(.int (4 : Int32)), (.int (1 : Int32))])) _
    refine XS.icmpNo X1.here hx rfl (hb hby d1_5) rfl (tlt (by decide)).2.1 ?_
    show Steps p.tables e below (T1.setTop (mkF m 8 #[.val (.ref a1), .val (.double td), .second, .val (.int (1 : Int32))] [])) _
    refine XS.aloadN X1.here hx rfl (hb hby d1_8) rfl rfl ?_
    show Steps p.tables e below (T1.setTop (mkF m 9 #[.val (.ref a1), .val (.double td), .second, .val (.int (1 : Int32))] [(.ref a1)])) _
    refine XS.iloadN X1.here hx rfl (hb hby d1_9) rfl ?_
    show Steps p.tables e below (T1.setTop (mkF m 10 #[.val (.ref a1), .val (.double td), .second, .val (.int (1 : Int32))] [(.int (1 : Int32)), (.ref a1)])) _
    jvm_step X1.here [X1.here.top, hx, (hb hby d1_10), Value.category]
    show Steps p.tables e below (T1.setTop (mkF m 11 #[.val (.ref a1), .val (.double td), .second, .val (.int (1 : Int32))] [(.int (1 : Int32)), (.ref a1), (.int (1 : Int32)), (.ref a1)])) _
    refine X1.daload hx (j := (1 : Int32)) (v := (.double (g 1))) (by rw [e1]; exact Ar2.1) (State.isArrayOf_alike hZ.alike Ar2.2.1) Ar2.2.2 (own_in (n := 1) S2 (by decide) (by decide)) (own_at (n := 1) H2 (by decide) (own_dk_at g td 1)) (g := (mkF m 11 #[.val (.ref a1), .val (.double td), .second, .val (.int (1 : Int32))] [(.int (1 : Int32)), (.ref a1), (.int (1 : Int32)), (.ref a1)])) rfl rfl (hb hby d1_11) _ ?_
    show Steps p.tables e below (T1.setTop (mkF m 12 #[.val (.ref a1), .val (.double td), .second, .val (.int (1 : Int32))] [(.double (g 1)), (.int (1 : Int32)), (.ref a1)])) _
    refine XS.dloadN X1.here hx rfl (hb hby d1_12) rfl ?_
    show Steps p.tables e below (T1.setTop (mkF m 13 #[.val (.ref a1), .val (.double td), .second, .val (.int (1 : Int32))] [(.double td), (.double (g 1)), (.int (1 : Int32)), (.ref a1)])) _
    refine XS.ddivS X1.here hx rfl (hb hby d1_13) rfl (hn 1) rfl ?_
    show Steps p.tables e below (T1.setTop (mkF m 14 #[.val (.ref a1), .val (.double td), .second, .val (.int (1 : Int32))] [(.double (FP.ddiv (g 1) td)), (.int (1 : Int32)), (.ref a1)])) _
    refine st2 _ ?_
    show Steps p.tables e below (T2.setTop (mkF m 15 #[.val (.ref a1), .val (.double td), .second, .val (.int (1 : Int32))] [])) _
    refine XS.iinc X2.here hx rfl (hb hby d1_15) rfl (l' := #[.val (.ref a1), .val (.double td), .second, .val (.int ((1 : Int32) + (1 : Int32)))]) rfl ?_
    show Steps p.tables e below (T2.setTop (mkF m 18 #[.val (.ref a1), .val (.double td), .second, .val (.int (2 : Int32))] [])) _
    refine XS.goto X2.here hx rfl (pc0 := 18) (pc' := 2) rfl (hb hby d1_18) (by decide) (by decide) ?_
    show Steps p.tables e below (T2.setTop (mkF m 2 #[.val (.ref a1), .val (.double td), .second, .val (.int (2 : Int32))] [])) _
    refine XS.iloadN X2.here hx rfl (hb hby d1_2) rfl ?_
    show Steps p.tables e below (T2.setTop (mkF m 3 #[.val (.ref a1), .val (.double td), .second, .val (.int (2 : Int32))] [(.int (2 : Int32))])) _
    refine XS.aloadN X2.here hx rfl (hb hby d1_3) rfl rfl ?_
    show Steps p.tables e below (T2.setTop (mkF m 4 #[.val (.ref a1), .val (.double td), .second, .val (.int (2 : Int32))] [(.ref a1), (.int (2 : Int32))])) _
    refine X2.arraylength hx (by rw [e2]; exact Ar3.1) (State.isArrayOf_alike hZ.alike Ar3.2.1) (g := (mkF m 4 #[.val (.ref a1), .val (.double td), .second, .val (.int (2 : Int32))] [(.ref a1), (.int (2 : Int32))])) rfl rfl (hb hby d1_4) _ ?_
    show Steps p.tables e below (T2.setTop (mkF m 5 #[.val (.ref a1), .val (.double td), .second, .val (.int (2 : Int32))] [(.int (c3.slots.size).toInt32), (.int (2 : Int32))])) _
    rw [S3]
    show Steps p.tables e below (T2.setTop (mkF m 5 #[.val (.ref a1), .val (.double td), .second, .val (.int (2 : Int32))] [(.int (4 : Int32)), (.int (2 : Int32))])) _
    refine XS.icmpNo X2.here hx rfl (hb hby d1_5) rfl (tlt (by decide)).2.1 ?_
    show Steps p.tables e below (T2.setTop (mkF m 8 #[.val (.ref a1), .val (.double td), .second, .val (.int (2 : Int32))] [])) _
    refine XS.aloadN X2.here hx rfl (hb hby d1_8) rfl rfl ?_
    show Steps p.tables e below (T2.setTop (mkF m 9 #[.val (.ref a1), .val (.double td), .second, .val (.int (2 : Int32))] [(.ref a1)])) _
    refine XS.iloadN X2.here hx rfl (hb hby d1_9) rfl ?_
    show Steps p.tables e below (T2.setTop (mkF m 10 #[.val (.ref a1), .val (.double td), .second, .val (.int (2 : Int32))] [(.int (2 : Int32)), (.ref a1)])) _
    jvm_step X2.here [X2.here.top, hx, (hb hby d1_10), Value.category]
    show Steps p.tables e below (T2.setTop (mkF m 11 #[.val (.ref a1), .val (.double td), .second, .val (.int (2 : Int32))] [(.int (2 : Int32)), (.ref a1), (.int (2 : Int32)), (.ref a1)])) _
    refine X2.daload hx (j := (2 : Int32)) (v := (.double (g 2))) (by rw [e2]; exact Ar3.1) (State.isArrayOf_alike hZ.alike Ar3.2.1) Ar3.2.2 (own_in (n := 2) S3 (by decide) (by decide)) (own_at (n := 2) H3 (by decide) (own_dk_at g td 2)) (g := (mkF m 11 #[.val (.ref a1), .val (.double td), .second, .val (.int (2 : Int32))] [(.int (2 : Int32)), (.ref a1), (.int (2 : Int32)), (.ref a1)])) rfl rfl (hb hby d1_11) _ ?_
    show Steps p.tables e below (T2.setTop (mkF m 12 #[.val (.ref a1), .val (.double td), .second, .val (.int (2 : Int32))] [(.double (g 2)), (.int (2 : Int32)), (.ref a1)])) _
    refine XS.dloadN X2.here hx rfl (hb hby d1_12) rfl ?_
    show Steps p.tables e below (T2.setTop (mkF m 13 #[.val (.ref a1), .val (.double td), .second, .val (.int (2 : Int32))] [(.double td), (.double (g 2)), (.int (2 : Int32)), (.ref a1)])) _
    refine XS.ddivS X2.here hx rfl (hb hby d1_13) rfl (hn 2) rfl ?_
    show Steps p.tables e below (T2.setTop (mkF m 14 #[.val (.ref a1), .val (.double td), .second, .val (.int (2 : Int32))] [(.double (FP.ddiv (g 2) td)), (.int (2 : Int32)), (.ref a1)])) _
    refine st3 _ ?_
    show Steps p.tables e below (T3.setTop (mkF m 15 #[.val (.ref a1), .val (.double td), .second, .val (.int (2 : Int32))] [])) _
    refine XS.iinc X3.here hx rfl (hb hby d1_15) rfl (l' := #[.val (.ref a1), .val (.double td), .second, .val (.int ((2 : Int32) + (1 : Int32)))]) rfl ?_
    show Steps p.tables e below (T3.setTop (mkF m 18 #[.val (.ref a1), .val (.double td), .second, .val (.int (3 : Int32))] [])) _
    refine XS.goto X3.here hx rfl (pc0 := 18) (pc' := 2) rfl (hb hby d1_18) (by decide) (by decide) ?_
    show Steps p.tables e below (T3.setTop (mkF m 2 #[.val (.ref a1), .val (.double td), .second, .val (.int (3 : Int32))] [])) _
    refine XS.iloadN X3.here hx rfl (hb hby d1_2) rfl ?_
    show Steps p.tables e below (T3.setTop (mkF m 3 #[.val (.ref a1), .val (.double td), .second, .val (.int (3 : Int32))] [(.int (3 : Int32))])) _
    refine XS.aloadN X3.here hx rfl (hb hby d1_3) rfl rfl ?_
    show Steps p.tables e below (T3.setTop (mkF m 4 #[.val (.ref a1), .val (.double td), .second, .val (.int (3 : Int32))] [(.ref a1), (.int (3 : Int32))])) _
    refine X3.arraylength hx (by rw [e3]; exact Ar4.1) (State.isArrayOf_alike hZ.alike Ar4.2.1) (g := (mkF m 4 #[.val (.ref a1), .val (.double td), .second, .val (.int (3 : Int32))] [(.ref a1), (.int (3 : Int32))])) rfl rfl (hb hby d1_4) _ ?_
    show Steps p.tables e below (T3.setTop (mkF m 5 #[.val (.ref a1), .val (.double td), .second, .val (.int (3 : Int32))] [(.int (c4.slots.size).toInt32), (.int (3 : Int32))])) _
    rw [S4]
    show Steps p.tables e below (T3.setTop (mkF m 5 #[.val (.ref a1), .val (.double td), .second, .val (.int (3 : Int32))] [(.int (4 : Int32)), (.int (3 : Int32))])) _
    refine XS.icmpNo X3.here hx rfl (hb hby d1_5) rfl (tlt (by decide)).2.1 ?_
    show Steps p.tables e below (T3.setTop (mkF m 8 #[.val (.ref a1), .val (.double td), .second, .val (.int (3 : Int32))] [])) _
    refine XS.aloadN X3.here hx rfl (hb hby d1_8) rfl rfl ?_
    show Steps p.tables e below (T3.setTop (mkF m 9 #[.val (.ref a1), .val (.double td), .second, .val (.int (3 : Int32))] [(.ref a1)])) _
    refine XS.iloadN X3.here hx rfl (hb hby d1_9) rfl ?_
    show Steps p.tables e below (T3.setTop (mkF m 10 #[.val (.ref a1), .val (.double td), .second, .val (.int (3 : Int32))] [(.int (3 : Int32)), (.ref a1)])) _
    jvm_step X3.here [X3.here.top, hx, (hb hby d1_10), Value.category]
    show Steps p.tables e below (T3.setTop (mkF m 11 #[.val (.ref a1), .val (.double td), .second, .val (.int (3 : Int32))] [(.int (3 : Int32)), (.ref a1), (.int (3 : Int32)), (.ref a1)])) _
    refine X3.daload hx (j := (3 : Int32)) (v := (.double (g 3))) (by rw [e3]; exact Ar4.1) (State.isArrayOf_alike hZ.alike Ar4.2.1) Ar4.2.2 (own_in (n := 3) S4 (by decide) (by decide)) (own_at (n := 3) H4 (by decide) (own_dk_at g td 3)) (g := (mkF m 11 #[.val (.ref a1), .val (.double td), .second, .val (.int (3 : Int32))] [(.int (3 : Int32)), (.ref a1), (.int (3 : Int32)), (.ref a1)])) rfl rfl (hb hby d1_11) _ ?_
    show Steps p.tables e below (T3.setTop (mkF m 12 #[.val (.ref a1), .val (.double td), .second, .val (.int (3 : Int32))] [(.double (g 3)), (.int (3 : Int32)), (.ref a1)])) _
    refine XS.dloadN X3.here hx rfl (hb hby d1_12) rfl ?_
    show Steps p.tables e below (T3.setTop (mkF m 13 #[.val (.ref a1), .val (.double td), .second, .val (.int (3 : Int32))] [(.double td), (.double (g 3)), (.int (3 : Int32)), (.ref a1)])) _
    refine XS.ddivS X3.here hx rfl (hb hby d1_13) rfl (hn 3) rfl ?_
    show Steps p.tables e below (T3.setTop (mkF m 14 #[.val (.ref a1), .val (.double td), .second, .val (.int (3 : Int32))] [(.double (FP.ddiv (g 3) td)), (.int (3 : Int32)), (.ref a1)])) _
    refine st4 _ ?_
    show Steps p.tables e below (T4.setTop (mkF m 15 #[.val (.ref a1), .val (.double td), .second, .val (.int (3 : Int32))] [])) _
    refine XS.iinc X4.here hx rfl (hb hby d1_15) rfl (l' := #[.val (.ref a1), .val (.double td), .second, .val (.int ((3 : Int32) + (1 : Int32)))]) rfl ?_
    show Steps p.tables e below (T4.setTop (mkF m 18 #[.val (.ref a1), .val (.double td), .second, .val (.int (4 : Int32))] [])) _
    refine XS.goto X4.here hx rfl (pc0 := 18) (pc' := 2) rfl (hb hby d1_18) (by decide) (by decide) ?_
    show Steps p.tables e below (T4.setTop (mkF m 2 #[.val (.ref a1), .val (.double td), .second, .val (.int (4 : Int32))] [])) _
    refine XS.iloadN X4.here hx rfl (hb hby d1_2) rfl ?_
    show Steps p.tables e below (T4.setTop (mkF m 3 #[.val (.ref a1), .val (.double td), .second, .val (.int (4 : Int32))] [(.int (4 : Int32))])) _
    refine XS.aloadN X4.here hx rfl (hb hby d1_3) rfl rfl ?_
    show Steps p.tables e below (T4.setTop (mkF m 4 #[.val (.ref a1), .val (.double td), .second, .val (.int (4 : Int32))] [(.ref a1), (.int (4 : Int32))])) _
    refine X4.arraylength hx (by rw [e4]; exact Ar9.1) (State.isArrayOf_alike hZ.alike Ar9.2.1) (g := (mkF m 4 #[.val (.ref a1), .val (.double td), .second, .val (.int (4 : Int32))] [(.ref a1), (.int (4 : Int32))])) rfl rfl (hb hby d1_4) _ ?_
    show Steps p.tables e below (T4.setTop (mkF m 5 #[.val (.ref a1), .val (.double td), .second, .val (.int (4 : Int32))] [(.int (c9.slots.size).toInt32), (.int (4 : Int32))])) _
    rw [S9]
    show Steps p.tables e below (T4.setTop (mkF m 5 #[.val (.ref a1), .val (.double td), .second, .val (.int (4 : Int32))] [(.int (4 : Int32)), (.int (4 : Int32))])) _
    refine XS.icmpYes X4.here hx rfl (pc0 := 5) (pc' := 21) rfl (hb hby d1_5) rfl (flt (by decide)).2.1 (by decide) (by decide) ?_
    show Steps p.tables e below (T4.setTop (mkF m 21 #[.val (.ref a1), .val (.double td), .second, .val (.int (4 : Int32))] [])) _
    exact X4.returnOut hx Bd.returns (hb hby d1_21) hr
  · show Q1 Z a1 td g h0 n0 _ T4.heap _
    exact ⟨rfl, N4, by rw [e4]; exact Y4, by rw [e4]; exact A4⟩
theorem pn_0 : plainName "com/example/caudal/caudal/SweepNormalisePinLaw" = true := by first | (simp [plainName, overriddenIn]; done) | decide +kernel
theorem ef_0 (m : MethodId) (x0 : Int32) (x1 : Int32) (x2 : Int32) (x3 : Int32) (x4 : Int32) (x5 : Int32) : entryFrame m #[(.int x0), (.int x1), (.int x2), (.int x3), (.int x4), (.int x5)] maxLocals = mkF m 0 #[.val (.int x0), .val (.int x1), .val (.int x2), .val (.int x3), .val (.int x4), .val (.int x5), .unset, .unset, .unset, .unset, .unset, .unset, .unset, .unset, .unset, .unset, .unset, .unset, .unset, .unset, .unset] [] := by first | (simp [entryFrame, mkF, argsToLocals, Value.category, maxLocals]; done) | rfl
theorem pd_n : parseMethodDescriptor "([DD)V" = some ⟨[.array .double, .double], none⟩ := by decide +kernel
theorem own_plus (p : Int32) : 1 ≤ ((p &&& (65535 : Int32)) + (1 : Int32)).toInt ∧ ((p &&& (65535 : Int32)) + (1 : Int32)).toInt ≤ 65536 := by
  have e : (p &&& (65535 : Int32)).toInt = p.toInt % 2 ^ 16 := Jvm.Kit.i32_mask p 65535 (k := 16) (by decide) (by decide)
  have o : (1 : Int32).toInt = 1 := rfl
  have e2 : ((p &&& (65535 : Int32)) + (1 : Int32)).toInt = (p &&& (65535 : Int32)).toInt + 1 := by rw [Jvm.Kit.i32_add (by omega) (by omega), o]
  omega
-- 2. THE CONTRACT: what this body leaves is yours
def Q0 (Z : State) (p1 : Int32) (p2 : Int32) (p3 : Int32) (p4 : Int32) (p5 : Int32) (p6 : Int32) (h0 : Heap) (n0 : Nat) (v : Option Value) (h : Heap) (L : List Loc) : Prop := v = some (.int (1 : Int32)) ∧ Fr n0 L
set_option maxRecDepth 65536 in
set_option maxHeartbeats 40000000 in
theorem rm0 (l : Launch) (Z : State) (a0 : Array Value) (hw : ∀ d ∈ tables_1, d.before a0 Z = true) (ws : List Jvm.Cond) (p1 : Int32) (p2 : Int32) (p3 : Int32) (p4 : Int32) (p5 : Int32) (p6 : Int32) (h0 : Heap) (n0 : Nat) (Z0 : n0 ≤ h0.size) :
    MetFree l x (head1 (Jvm.Cond.code x code maxLocals ret :: ws) room_1) (fun a U => a = #[(.int p1), (.int p2), (.int p3), (.int p4), (.int p5), (.int p6)] ∧ Z.Warmed39 U.vm ∧ U.heap = h0) (fun _ _ _ _ _ => True) (fun _ U o U' => ∃ v L, o = .returned v ∧ Q0 Z p1 p2 p3 p4 p5 p6 h0 n0 v U'.heap L ∧ FrameEnd U o U' L room_1.cells room_1.slots) := by
  refine MetFree.of_bodySF (plainFor_of_name pn_0) hisR ?_
  intro p e s m args below meth c s₁ Bd hml0 hP hK
  obtain ⟨rfl, hZ, hh⟩ := hP
  have hx := Bd.exec
  have hby := Bd.bytes
  have hml : c.maxLocals = 21 := hml0
  have hown : s.vm.findClass "com/example/caudal/caudal/SweepNormalisePinLaw" = some m.cls := findClass_of_methodNamed Bd.named
  have hnm := (name_of_methodNamed Bd.named Bd.method).1
  have X0 : Stand p l e room_1 s m #[(.int p1), (.int p2), (.int p3), (.int p4), (.int p5), (.int p6)] below meth c s₁ [] 0 0 := Stand.of_body Bd
  have e0 : s₁.heap = h0 := by rw [← hh, Bd.state]; rfl
  have N0 := Fr.nil n0
  have pre0 : ∀ t, Steps p.tables e below (s₁.setTop (mkF m 0 #[.val (.int p1), .val (.int p2), .val (.int p3), .val (.int p4), .val (.int p5), .val (.int p6), .unset, .unset, .unset, .unset, .unset, .unset, .unset, .unset, .unset, .unset, .unset, .unset, .unset, .unset, .unset] [])) t → Steps p.tables e below (s₁.setTop (entryFrame m #[(.int p1), (.int p2), (.int p3), (.int p4), (.int p5), (.int p6)] maxLocals)) t := fun t k => castTop (ef_0 m p1 p2 p3 p4 p5 p6) k
  obtain ⟨tot, htot⟩ : ∃ z, FP.ddiv (FP.i2d ((p5 &&& (65535 : Int32)) + (1 : Int32))) (FP.i2d ((p6 &&& (65535 : Int32)) + (1 : Int32))) = z := ⟨_, rfl⟩
  have hno : Jvm.Free.Fl.NoNaN64 (FP.ddiv (FP.i2d ((p5 &&& (65535 : Int32)) + (1 : Int32))) (FP.i2d ((p6 &&& (65535 : Int32)) + (1 : Int32)))) := own_noNaN _ _ (own_plus p5).1 (own_plus p6).1 (own_plus p6).2
  have hov : ∀ x : Int32, Jvm.Free.Fl.NoNaN64 (FP.ddiv (FP.i2d x) tot) := fun x => by rw [← htot]; exact own_over x _ (own_quot _ _ (own_plus p5).1 (own_plus p6).1 (own_plus p6).2)
  obtain ⟨T1, h1, k1, X1, e1, E1, B1, st1⟩ := newP X0 hx hZ (hw _ (List.mem_of_getElem? (i := 2) rfl)) e0 (g := (mkF m 56 #[.val (.int p1), .val (.int p2), .val (.int p3), .val (.int p4), .val (.int p5), .val (.int p6), .val (.double (FP.i2d ((p5 &&& (65535 : Int32)) + (1 : Int32)))), .second, .val (.double (FP.i2d ((p6 &&& (65535 : Int32)) + (1 : Int32)))), .second, .val (.double tot), .second, .val (.double (FP.i2d (p1 &&& (2147483647 : Int32)))), .second, .val (.double (FP.i2d (p2 &&& (2147483647 : Int32)))), .second, .val (.double (FP.i2d (p3 &&& (2147483647 : Int32)))), .second, .val (.double (FP.i2d (p4 &&& (2147483647 : Int32)))), .second, .unset] [(.int (4 : Int32))])) rfl (hb hby at_56) rfl (by decide) (cap := 4) (by decide) (by decide) (by decide) (by decide)
  obtain ⟨b, gb⟩ : ∃ z, z = h0.size := ⟨_, rfl⟩
  rw [← gb] at B1 st1
  have g_b : n0 ≤ b := Nat.le_trans Z0 (Nat.le_of_eq gb.symm)
  have A1 : own_D Z h1 b (fun _ => 0) := own_A.new (ty := .double) B1 rfl
  have N1 := N0
  have Y1 : n0 ≤ h1.size := Nat.le_trans Z0 E1.1
  obtain ⟨c2, Ar2, S2, H2⟩ := id A1
  obtain ⟨T2, h2, X2, e2, W2, st2⟩ := stD X1 hx hZ e1 Ar2 (j := (0 : Int32)) (own_in (n := 0) S2 (by decide) (by decide)) (g := (mkF m 65 #[.val (.int p1), .val (.int p2), .val (.int p3), .val (.int p4), .val (.int p5), .val (.int p6), .val (.double (FP.i2d ((p5 &&& (65535 : Int32)) + (1 : Int32)))), .second, .val (.double (FP.i2d ((p6 &&& (65535 : Int32)) + (1 : Int32)))), .second, .val (.double tot), .second, .val (.double (FP.i2d (p1 &&& (2147483647 : Int32)))), .second, .val (.double (FP.i2d (p2 &&& (2147483647 : Int32)))), .second, .val (.double (FP.i2d (p3 &&& (2147483647 : Int32)))), .second, .val (.double (FP.i2d (p4 &&& (2147483647 : Int32)))), .second, .val (.ref b)] [(.double (FP.i2d (p1 &&& (2147483647 : Int32)))), (.int (0 : Int32)), (.ref b)])) rfl rfl (hb hby at_65)
  have A2 := own_D.store (n := 0) A1 W2 (by decide)
  have N2 := Fr.snoc X2 N1 g_b
  have Y2 : n0 ≤ h2.size := Nat.le_trans Y1 (Keep.of_wr W2).1
  obtain ⟨c3, Ar3, S3, H3⟩ := id A2
  obtain ⟨T3, h3, X3, e3, W3, st3⟩ := stD X2 hx hZ e2 Ar3 (j := (1 : Int32)) (own_in (n := 1) S3 (by decide) (by decide)) (g := (mkF m 71 #[.val (.int p1), .val (.int p2), .val (.int p3), .val (.int p4), .val (.int p5), .val (.int p6), .val (.double (FP.i2d ((p5 &&& (65535 : Int32)) + (1 : Int32)))), .second, .val (.double (FP.i2d ((p6 &&& (65535 : Int32)) + (1 : Int32)))), .second, .val (.double tot), .second, .val (.double (FP.i2d (p1 &&& (2147483647 : Int32)))), .second, .val (.double (FP.i2d (p2 &&& (2147483647 : Int32)))), .second, .val (.double (FP.i2d (p3 &&& (2147483647 : Int32)))), .second, .val (.double (FP.i2d (p4 &&& (2147483647 : Int32)))), .second, .val (.ref b)] [(.double (FP.i2d (p2 &&& (2147483647 : Int32)))), (.int (1 : Int32)), (.ref b)])) rfl rfl (hb hby at_71)
  have A3 := own_D.store (n := 1) A2 W3 (by decide)
  have N3 := Fr.snoc X3 N2 g_b
  have Y3 : n0 ≤ h3.size := Nat.le_trans Y2 (Keep.of_wr W3).1
  obtain ⟨c4, Ar4, S4, H4⟩ := id A3
  obtain ⟨T4, h4, X4, e4, W4, st4⟩ := stD X3 hx hZ e3 Ar4 (j := (2 : Int32)) (own_in (n := 2) S4 (by decide) (by decide)) (g := (mkF m 77 #[.val (.int p1), .val (.int p2), .val (.int p3), .val (.int p4), .val (.int p5), .val (.int p6), .val (.double (FP.i2d ((p5 &&& (65535 : Int32)) + (1 : Int32)))), .second, .val (.double (FP.i2d ((p6 &&& (65535 : Int32)) + (1 : Int32)))), .second, .val (.double tot), .second, .val (.double (FP.i2d (p1 &&& (2147483647 : Int32)))), .second, .val (.double (FP.i2d (p2 &&& (2147483647 : Int32)))), .second, .val (.double (FP.i2d (p3 &&& (2147483647 : Int32)))), .second, .val (.double (FP.i2d (p4 &&& (2147483647 : Int32)))), .second, .val (.ref b)] [(.double (FP.i2d (p3 &&& (2147483647 : Int32)))), (.int (2 : Int32)), (.ref b)])) rfl rfl (hb hby at_77)
  have A4 := own_D.store (n := 2) A3 W4 (by decide)
  have N4 := Fr.snoc X4 N3 g_b
  have Y4 : n0 ≤ h4.size := Nat.le_trans Y3 (Keep.of_wr W4).1
  obtain ⟨c5, Ar5, S5, H5⟩ := id A4
  obtain ⟨T5, h5, X5, e5, W5, st5⟩ := stD X4 hx hZ e4 Ar5 (j := (3 : Int32)) (own_in (n := 3) S5 (by decide) (by decide)) (g := (mkF m 83 #[.val (.int p1), .val (.int p2), .val (.int p3), .val (.int p4), .val (.int p5), .val (.int p6), .val (.double (FP.i2d ((p5 &&& (65535 : Int32)) + (1 : Int32)))), .second, .val (.double (FP.i2d ((p6 &&& (65535 : Int32)) + (1 : Int32)))), .second, .val (.double tot), .second, .val (.double (FP.i2d (p1 &&& (2147483647 : Int32)))), .second, .val (.double (FP.i2d (p2 &&& (2147483647 : Int32)))), .second, .val (.double (FP.i2d (p3 &&& (2147483647 : Int32)))), .second, .val (.double (FP.i2d (p4 &&& (2147483647 : Int32)))), .second, .val (.ref b)] [(.double (FP.i2d (p4 &&& (2147483647 : Int32)))), (.int (3 : Int32)), (.ref b)])) rfl rfl (hb hby at_83)
  have A5 := own_D.store (n := 3) A4 W5 (by decide)
  have N5 := Fr.snoc X5 N4 g_b
  have Y5 : n0 ≤ h5.size := Nat.le_trans Y4 (Keep.of_wr W5).1
  have B5 : own_D Z h5 b (own_dk (fun j => FP.i2d (if j = 0 then (p1 &&& (2147483647 : Int32)) else if j = 1 then (p2 &&& (2147483647 : Int32)) else if j = 2 then (p3 &&& (2147483647 : Int32)) else (p4 &&& (2147483647 : Int32)))) tot 0) := own_D.congr A5 fun j hj => by
    match j, hj with
    | 0, _ => rfl | 1, _ => rfl | 2, _ => rfl | 3, _ => rfl
  obtain ⟨_, _, ⟨T8, L8, k8, n8⟩, -, X8, ⟨Lc8, hQ8, l8, y8, z8⟩, st8⟩ := Jvm.LawKit.callS X5 hx (y := (⟨"com/example/caudal/caudal/Sweep", "normalise", "([DD)V"⟩ : MethodName)) hown (mvT hZ (hw _ (List.mem_of_getElem? (i := 3) rfl))) (mvT hZ (hw _ (List.mem_of_getElem? (i := 4) rfl))) (mvT hZ (hw _ (List.mem_of_getElem? (i := 5) rfl))) (mvT hZ (hw _ (List.mem_of_getElem? (i := 6) rfl))) (by decide) (backOf (W := 0) (rm1 l Z a0 hw [] b tot (fun j => FP.i2d (if j = 0 then (p1 &&& (2147483647 : Int32)) else if j = 1 then (p2 &&& (2147483647 : Int32)) else if j = 2 then (p3 &&& (2147483647 : Int32)) else (p4 &&& (2147483647 : Int32)))) h5 n0 Y5 B5 g_b (fun j => hov _)) hZ (hw _ (List.mem_of_getElem? (i := 6) rfl)) (hw _ (List.mem_of_getElem? (i := 5) rfl)) (by decide) (by decide)) (g := (mkF m 88 #[.val (.int p1), .val (.int p2), .val (.int p3), .val (.int p4), .val (.int p5), .val (.int p6), .val (.double (FP.i2d ((p5 &&& (65535 : Int32)) + (1 : Int32)))), .second, .val (.double (FP.i2d ((p6 &&& (65535 : Int32)) + (1 : Int32)))), .second, .val (.double tot), .second, .val (.double (FP.i2d (p1 &&& (2147483647 : Int32)))), .second, .val (.double (FP.i2d (p2 &&& (2147483647 : Int32)))), .second, .val (.double (FP.i2d (p3 &&& (2147483647 : Int32)))), .second, .val (.double (FP.i2d (p4 &&& (2147483647 : Int32)))), .second, .val (.ref b)] [(.double tot), (.ref b)])) rfl (by rw [hml]; rfl) (argsL := [(.ref b), (.double tot)]) (rest := []) (lenOf pd_n rfl) rfl (by show 2 * 0 + _ ≤ _; exact Nat.le_of_eq rfl) (hb hby at_88) (fun _ _ => ⟨rfl, e5, (by decide : 1 + 0 ≤ _), (by decide : 4 + 0 ≤ _)⟩)
  dsimp only [Pt.U, Pt.locs, Pt.cells, Pt.slots] at X8 l8 y8 z8 st8 hQ8
  subst l8 y8 z8
  obtain ⟨rfl, N8q, Y8, A8⟩ := hQ8
  have N8 := Fr.app N5 N8q
  obtain ⟨c8, Ar8, S8, H8⟩ := id A8
  obtain ⟨fs, hr, hrun, hended, hW, hsame⟩ := X8.leave (v := some (.int (1 : Int32))) (fun h => by rw [Bd.returns] at h; cases h)
  refine ⟨_, _, pre0 _ ?_, hrun, hended, _, _, rfl, ?_, ⟨_, rfl⟩, hW, hsame.mono (by decide) (by decide)⟩
  · show Steps p.tables e below (s₁.setTop (mkF m 0 #[.val (.int p1), .val (.int p2), .val (.int p3), .val (.int p4), .val (.int p5), .val (.int p6), .unset, .unset, .unset, .unset, .unset, .unset, .unset, .unset, .unset, .unset, .unset, .unset, .unset, .unset, .unset] [])) _
    refine XS.iload X0.here hx rfl (hb hby at_0) rfl ?_
    show Steps p.tables e below (s₁.setTop (mkF m 2 #[.val (.int p1), .val (.int p2), .val (.int p3), .val (.int p4), .val (.int p5), .val (.int p6), .unset, .unset, .unset, .unset, .unset, .unset, .unset, .unset, .unset, .unset, .unset, .unset, .unset, .unset, .unset] [(.int p5)])) _
    refine X0.ldcInt hx hown (mvT hZ (hw _ (List.mem_of_getElem? (i := 0) rfl))) (g := (mkF m 2 #[.val (.int p1), .val (.int p2), .val (.int p3), .val (.int p4), .val (.int p5), .val (.int p6), .unset, .unset, .unset, .unset, .unset, .unset, .unset, .unset, .unset, .unset, .unset, .unset, .unset, .unset, .unset] [(.int p5)])) rfl (hb hby at_2) _ ?_
    show Steps p.tables e below (s₁.setTop (mkF m 4 #[.val (.int p1), .val (.int p2), .val (.int p3), .val (.int p4), .val (.int p5), .val (.int p6), .unset, .unset, .unset, .unset, .unset, .unset, .unset, .unset, .unset, .unset, .unset, .unset, .unset, .unset, .unset] [(.int (65535 : Int32)), (.int p5)])) _
    refine XS.iand X0.here hx rfl (hb hby at_4) rfl ?_
    show Steps p.tables e below (s₁.setTop (mkF m 5 #[.val (.int p1), .val (.int p2), .val (.int p3), .val (.int p4), .val (.int p5), .val (.int p6), .unset, .unset, .unset, .unset, .unset, .unset, .unset, .unset, .unset, .unset, .unset, .unset, .unset, .unset, .unset] [(.int (p5 &&& (65535 : Int32)))])) _
    refine XS.iconst X0.here hx rfl (hb hby at_5) ?_
    show Steps p.tables e below (s₁.setTop (mkF m 6 #[.val (.int p1), .val (.int p2), .val (.int p3), .val (.int p4), .val (.int p5), .val (.int p6), .unset, .unset, .unset, .unset, .unset, .unset, .unset, .unset, .unset, .unset, .unset, .unset, .unset, .unset, .unset] [(.int (1 : Int32)), (.int (p5 &&& (65535 : Int32)))])) _
    refine XS.iadd X0.here hx rfl (hb hby at_6) rfl ?_
    show Steps p.tables e below (s₁.setTop (mkF m 7 #[.val (.int p1), .val (.int p2), .val (.int p3), .val (.int p4), .val (.int p5), .val (.int p6), .unset, .unset, .unset, .unset, .unset, .unset, .unset, .unset, .unset, .unset, .unset, .unset, .unset, .unset, .unset] [(.int ((p5 &&& (65535 : Int32)) + (1 : Int32)))])) _
    refine XS.i2dS X0.here hx rfl (hb hby at_7) rfl rfl ?_
    show Steps p.tables e below (s₁.setTop (mkF m 8 #[.val (.int p1), .val (.int p2), .val (.int p3), .val (.int p4), .val (.int p5), .val (.int p6), .unset, .unset, .unset, .unset, .unset, .unset, .unset, .unset, .unset, .unset, .unset, .unset, .unset, .unset, .unset] [(.double (FP.i2d ((p5 &&& (65535 : Int32)) + (1 : Int32))))])) _
    refine XS.dstore X0.here hx rfl (hb hby at_8) rfl (l' := #[.val (.int p1), .val (.int p2), .val (.int p3), .val (.int p4), .val (.int p5), .val (.int p6), .val (.double (FP.i2d ((p5 &&& (65535 : Int32)) + (1 : Int32)))), .second, .unset, .unset, .unset, .unset, .unset, .unset, .unset, .unset, .unset, .unset, .unset, .unset, .unset]) rfl ?_
    show Steps p.tables e below (s₁.setTop (mkF m 10 #[.val (.int p1), .val (.int p2), .val (.int p3), .val (.int p4), .val (.int p5), .val (.int p6), .val (.double (FP.i2d ((p5 &&& (65535 : Int32)) + (1 : Int32)))), .second, .unset, .unset, .unset, .unset, .unset, .unset, .unset, .unset, .unset, .unset, .unset, .unset, .unset] [])) _
    refine XS.iload X0.here hx rfl (hb hby at_10) rfl ?_
    show Steps p.tables e below (s₁.setTop (mkF m 12 #[.val (.int p1), .val (.int p2), .val (.int p3), .val (.int p4), .val (.int p5), .val (.int p6), .val (.double (FP.i2d ((p5 &&& (65535 : Int32)) + (1 : Int32)))), .second, .unset, .unset, .unset, .unset, .unset, .unset, .unset, .unset, .unset, .unset, .unset, .unset, .unset] [(.int p6)])) _
    refine X0.ldcInt hx hown (mvT hZ (hw _ (List.mem_of_getElem? (i := 0) rfl))) (g := (mkF m 12 #[.val (.int p1), .val (.int p2), .val (.int p3), .val (.int p4), .val (.int p5), .val (.int p6), .val (.double (FP.i2d ((p5 &&& (65535 : Int32)) + (1 : Int32)))), .second, .unset, .unset, .unset, .unset, .unset, .unset, .unset, .unset, .unset, .unset, .unset, .unset, .unset] [(.int p6)])) rfl (hb hby at_12) _ ?_
    show Steps p.tables e below (s₁.setTop (mkF m 14 #[.val (.int p1), .val (.int p2), .val (.int p3), .val (.int p4), .val (.int p5), .val (.int p6), .val (.double (FP.i2d ((p5 &&& (65535 : Int32)) + (1 : Int32)))), .second, .unset, .unset, .unset, .unset, .unset, .unset, .unset, .unset, .unset, .unset, .unset, .unset, .unset] [(.int (65535 : Int32)), (.int p6)])) _
    refine XS.iand X0.here hx rfl (hb hby at_14) rfl ?_
    show Steps p.tables e below (s₁.setTop (mkF m 15 #[.val (.int p1), .val (.int p2), .val (.int p3), .val (.int p4), .val (.int p5), .val (.int p6), .val (.double (FP.i2d ((p5 &&& (65535 : Int32)) + (1 : Int32)))), .second, .unset, .unset, .unset, .unset, .unset, .unset, .unset, .unset, .unset, .unset, .unset, .unset, .unset] [(.int (p6 &&& (65535 : Int32)))])) _
    refine XS.iconst X0.here hx rfl (hb hby at_15) ?_
    show Steps p.tables e below (s₁.setTop (mkF m 16 #[.val (.int p1), .val (.int p2), .val (.int p3), .val (.int p4), .val (.int p5), .val (.int p6), .val (.double (FP.i2d ((p5 &&& (65535 : Int32)) + (1 : Int32)))), .second, .unset, .unset, .unset, .unset, .unset, .unset, .unset, .unset, .unset, .unset, .unset, .unset, .unset] [(.int (1 : Int32)), (.int (p6 &&& (65535 : Int32)))])) _
    refine XS.iadd X0.here hx rfl (hb hby at_16) rfl ?_
    show Steps p.tables e below (s₁.setTop (mkF m 17 #[.val (.int p1), .val (.int p2), .val (.int p3), .val (.int p4), .val (.int p5), .val (.int p6), .val (.double (FP.i2d ((p5 &&& (65535 : Int32)) + (1 : Int32)))), .second, .unset, .unset, .unset, .unset, .unset, .unset, .unset, .unset, .unset, .unset, .unset, .unset, .unset] [(.int ((p6 &&& (65535 : Int32)) + (1 : Int32)))])) _
    refine XS.i2dS X0.here hx rfl (hb hby at_17) rfl rfl ?_
    show Steps p.tables e below (s₁.setTop (mkF m 18 #[.val (.int p1), .val (.int p2), .val (.int p3), .val (.int p4), .val (.int p5), .val (.int p6), .val (.double (FP.i2d ((p5 &&& (65535 : Int32)) + (1 : Int32)))), .second, .unset, .unset, .unset, .unset, .unset, .unset, .unset, .unset, .unset, .unset, .unset, .unset, .unset] [(.double (FP.i2d ((p6 &&& (65535 : Int32)) + (1 : Int32))))])) _
    refine XS.dstore X0.here hx rfl (hb hby at_18) rfl (l' := #[.val (.int p1), .val (.int p2), .val (.int p3), .val (.int p4), .val (.int p5), .val (.int p6), .val (.double (FP.i2d ((p5 &&& (65535 : Int32)) + (1 : Int32)))), .second, .val (.double (FP.i2d ((p6 &&& (65535 : Int32)) + (1 : Int32)))), .second, .unset, .unset, .unset, .unset, .unset, .unset, .unset, .unset, .unset, .unset, .unset]) rfl ?_
    show Steps p.tables e below (s₁.setTop (mkF m 20 #[.val (.int p1), .val (.int p2), .val (.int p3), .val (.int p4), .val (.int p5), .val (.int p6), .val (.double (FP.i2d ((p5 &&& (65535 : Int32)) + (1 : Int32)))), .second, .val (.double (FP.i2d ((p6 &&& (65535 : Int32)) + (1 : Int32)))), .second, .unset, .unset, .unset, .unset, .unset, .unset, .unset, .unset, .unset, .unset, .unset] [])) _
    refine XS.dload X0.here hx rfl (hb hby at_20) rfl ?_
    show Steps p.tables e below (s₁.setTop (mkF m 22 #[.val (.int p1), .val (.int p2), .val (.int p3), .val (.int p4), .val (.int p5), .val (.int p6), .val (.double (FP.i2d ((p5 &&& (65535 : Int32)) + (1 : Int32)))), .second, .val (.double (FP.i2d ((p6 &&& (65535 : Int32)) + (1 : Int32)))), .second, .unset, .unset, .unset, .unset, .unset, .unset, .unset, .unset, .unset, .unset, .unset] [(.double (FP.i2d ((p5 &&& (65535 : Int32)) + (1 : Int32))))])) _
    refine XS.dload X0.here hx rfl (hb hby at_22) rfl ?_
    show Steps p.tables e below (s₁.setTop (mkF m 24 #[.val (.int p1), .val (.int p2), .val (.int p3), .val (.int p4), .val (.int p5), .val (.int p6), .val (.double (FP.i2d ((p5 &&& (65535 : Int32)) + (1 : Int32)))), .second, .val (.double (FP.i2d ((p6 &&& (65535 : Int32)) + (1 : Int32)))), .second, .unset, .unset, .unset, .unset, .unset, .unset, .unset, .unset, .unset, .unset, .unset] [(.double (FP.i2d ((p6 &&& (65535 : Int32)) + (1 : Int32)))), (.double (FP.i2d ((p5 &&& (65535 : Int32)) + (1 : Int32))))])) _
    refine XS.ddivS X0.here hx rfl (hb hby at_24) rfl hno htot ?_
    show Steps p.tables e below (s₁.setTop (mkF m 25 #[.val (.int p1), .val (.int p2), .val (.int p3), .val (.int p4), .val (.int p5), .val (.int p6), .val (.double (FP.i2d ((p5 &&& (65535 : Int32)) + (1 : Int32)))), .second, .val (.double (FP.i2d ((p6 &&& (65535 : Int32)) + (1 : Int32)))), .second, .unset, .unset, .unset, .unset, .unset, .unset, .unset, .unset, .unset, .unset, .unset] [(.double tot)])) _
    refine XS.dstore X0.here hx rfl (hb hby at_25) rfl (l' := #[.val (.int p1), .val (.int p2), .val (.int p3), .val (.int p4), .val (.int p5), .val (.int p6), .val (.double (FP.i2d ((p5 &&& (65535 : Int32)) + (1 : Int32)))), .second, .val (.double (FP.i2d ((p6 &&& (65535 : Int32)) + (1 : Int32)))), .second, .val (.double tot), .second, .unset, .unset, .unset, .unset, .unset, .unset, .unset, .unset, .unset]) rfl ?_
    show Steps p.tables e below (s₁.setTop (mkF m 27 #[.val (.int p1), .val (.int p2), .val (.int p3), .val (.int p4), .val (.int p5), .val (.int p6), .val (.double (FP.i2d ((p5 &&& (65535 : Int32)) + (1 : Int32)))), .second, .val (.double (FP.i2d ((p6 &&& (65535 : Int32)) + (1 : Int32)))), .second, .val (.double tot), .second, .unset, .unset, .unset, .unset, .unset, .unset, .unset, .unset, .unset] [])) _
    refine XS.iloadN X0.here hx rfl (hb hby at_27) rfl ?_
    show Steps p.tables e below (s₁.setTop (mkF m 28 #[.val (.int p1), .val (.int p2), .val (.int p3), .val (.int p4), .val (.int p5), .val (.int p6), .val (.double (FP.i2d ((p5 &&& (65535 : Int32)) + (1 : Int32)))), .second, .val (.double (FP.i2d ((p6 &&& (65535 : Int32)) + (1 : Int32)))), .second, .val (.double tot), .second, .unset, .unset, .unset, .unset, .unset, .unset, .unset, .unset, .unset] [(.int p1)])) _
    refine X0.ldcInt hx hown (mvT hZ (hw _ (List.mem_of_getElem? (i := 1) rfl))) (g := (mkF m 28 #[.val (.int p1), .val (.int p2), .val (.int p3), .val (.int p4), .val (.int p5), .val (.int p6), .val (.double (FP.i2d ((p5 &&& (65535 : Int32)) + (1 : Int32)))), .second, .val (.double (FP.i2d ((p6 &&& (65535 : Int32)) + (1 : Int32)))), .second, .val (.double tot), .second, .unset, .unset, .unset, .unset, .unset, .unset, .unset, .unset, .unset] [(.int p1)])) rfl (hb hby at_28) _ ?_
    show Steps p.tables e below (s₁.setTop (mkF m 30 #[.val (.int p1), .val (.int p2), .val (.int p3), .val (.int p4), .val (.int p5), .val (.int p6), .val (.double (FP.i2d ((p5 &&& (65535 : Int32)) + (1 : Int32)))), .second, .val (.double (FP.i2d ((p6 &&& (65535 : Int32)) + (1 : Int32)))), .second, .val (.double tot), .second, .unset, .unset, .unset, .unset, .unset, .unset, .unset, .unset, .unset] [(.int (2147483647 : Int32)), (.int p1)])) _
    refine XS.iand X0.here hx rfl (hb hby at_30) rfl ?_
    show Steps p.tables e below (s₁.setTop (mkF m 31 #[.val (.int p1), .val (.int p2), .val (.int p3), .val (.int p4), .val (.int p5), .val (.int p6), .val (.double (FP.i2d ((p5 &&& (65535 : Int32)) + (1 : Int32)))), .second, .val (.double (FP.i2d ((p6 &&& (65535 : Int32)) + (1 : Int32)))), .second, .val (.double tot), .second, .unset, .unset, .unset, .unset, .unset, .unset, .unset, .unset, .unset] [(.int (p1 &&& (2147483647 : Int32)))])) _
    refine XS.i2dS X0.here hx rfl (hb hby at_31) rfl rfl ?_
    show Steps p.tables e below (s₁.setTop (mkF m 32 #[.val (.int p1), .val (.int p2), .val (.int p3), .val (.int p4), .val (.int p5), .val (.int p6), .val (.double (FP.i2d ((p5 &&& (65535 : Int32)) + (1 : Int32)))), .second, .val (.double (FP.i2d ((p6 &&& (65535 : Int32)) + (1 : Int32)))), .second, .val (.double tot), .second, .unset, .unset, .unset, .unset, .unset, .unset, .unset, .unset, .unset] [(.double (FP.i2d (p1 &&& (2147483647 : Int32))))])) _
    refine XS.dstore X0.here hx rfl (hb hby at_32) rfl (l' := #[.val (.int p1), .val (.int p2), .val (.int p3), .val (.int p4), .val (.int p5), .val (.int p6), .val (.double (FP.i2d ((p5 &&& (65535 : Int32)) + (1 : Int32)))), .second, .val (.double (FP.i2d ((p6 &&& (65535 : Int32)) + (1 : Int32)))), .second, .val (.double tot), .second, .val (.double (FP.i2d (p1 &&& (2147483647 : Int32)))), .second, .unset, .unset, .unset, .unset, .unset, .unset, .unset]) rfl ?_
    show Steps p.tables e below (s₁.setTop (mkF m 34 #[.val (.int p1), .val (.int p2), .val (.int p3), .val (.int p4), .val (.int p5), .val (.int p6), .val (.double (FP.i2d ((p5 &&& (65535 : Int32)) + (1 : Int32)))), .second, .val (.double (FP.i2d ((p6 &&& (65535 : Int32)) + (1 : Int32)))), .second, .val (.double tot), .second, .val (.double (FP.i2d (p1 &&& (2147483647 : Int32)))), .second, .unset, .unset, .unset, .unset, .unset, .unset, .unset] [])) _
    refine XS.iloadN X0.here hx rfl (hb hby at_34) rfl ?_
    show Steps p.tables e below (s₁.setTop (mkF m 35 #[.val (.int p1), .val (.int p2), .val (.int p3), .val (.int p4), .val (.int p5), .val (.int p6), .val (.double (FP.i2d ((p5 &&& (65535 : Int32)) + (1 : Int32)))), .second, .val (.double (FP.i2d ((p6 &&& (65535 : Int32)) + (1 : Int32)))), .second, .val (.double tot), .second, .val (.double (FP.i2d (p1 &&& (2147483647 : Int32)))), .second, .unset, .unset, .unset, .unset, .unset, .unset, .unset] [(.int p2)])) _
    refine X0.ldcInt hx hown (mvT hZ (hw _ (List.mem_of_getElem? (i := 1) rfl))) (g := (mkF m 35 #[.val (.int p1), .val (.int p2), .val (.int p3), .val (.int p4), .val (.int p5), .val (.int p6), .val (.double (FP.i2d ((p5 &&& (65535 : Int32)) + (1 : Int32)))), .second, .val (.double (FP.i2d ((p6 &&& (65535 : Int32)) + (1 : Int32)))), .second, .val (.double tot), .second, .val (.double (FP.i2d (p1 &&& (2147483647 : Int32)))), .second, .unset, .unset, .unset, .unset, .unset, .unset, .unset] [(.int p2)])) rfl (hb hby at_35) _ ?_
    show Steps p.tables e below (s₁.setTop (mkF m 37 #[.val (.int p1), .val (.int p2), .val (.int p3), .val (.int p4), .val (.int p5), .val (.int p6), .val (.double (FP.i2d ((p5 &&& (65535 : Int32)) + (1 : Int32)))), .second, .val (.double (FP.i2d ((p6 &&& (65535 : Int32)) + (1 : Int32)))), .second, .val (.double tot), .second, .val (.double (FP.i2d (p1 &&& (2147483647 : Int32)))), .second, .unset, .unset, .unset, .unset, .unset, .unset, .unset] [(.int (2147483647 : Int32)), (.int p2)])) _
    refine XS.iand X0.here hx rfl (hb hby at_37) rfl ?_
    show Steps p.tables e below (s₁.setTop (mkF m 38 #[.val (.int p1), .val (.int p2), .val (.int p3), .val (.int p4), .val (.int p5), .val (.int p6), .val (.double (FP.i2d ((p5 &&& (65535 : Int32)) + (1 : Int32)))), .second, .val (.double (FP.i2d ((p6 &&& (65535 : Int32)) + (1 : Int32)))), .second, .val (.double tot), .second, .val (.double (FP.i2d (p1 &&& (2147483647 : Int32)))), .second, .unset, .unset, .unset, .unset, .unset, .unset, .unset] [(.int (p2 &&& (2147483647 : Int32)))])) _
    refine XS.i2dS X0.here hx rfl (hb hby at_38) rfl rfl ?_
    show Steps p.tables e below (s₁.setTop (mkF m 39 #[.val (.int p1), .val (.int p2), .val (.int p3), .val (.int p4), .val (.int p5), .val (.int p6), .val (.double (FP.i2d ((p5 &&& (65535 : Int32)) + (1 : Int32)))), .second, .val (.double (FP.i2d ((p6 &&& (65535 : Int32)) + (1 : Int32)))), .second, .val (.double tot), .second, .val (.double (FP.i2d (p1 &&& (2147483647 : Int32)))), .second, .unset, .unset, .unset, .unset, .unset, .unset, .unset] [(.double (FP.i2d (p2 &&& (2147483647 : Int32))))])) _
    refine XS.dstore X0.here hx rfl (hb hby at_39) rfl (l' := #[.val (.int p1), .val (.int p2), .val (.int p3), .val (.int p4), .val (.int p5), .val (.int p6), .val (.double (FP.i2d ((p5 &&& (65535 : Int32)) + (1 : Int32)))), .second, .val (.double (FP.i2d ((p6 &&& (65535 : Int32)) + (1 : Int32)))), .second, .val (.double tot), .second, .val (.double (FP.i2d (p1 &&& (2147483647 : Int32)))), .second, .val (.double (FP.i2d (p2 &&& (2147483647 : Int32)))), .second, .unset, .unset, .unset, .unset, .unset]) rfl ?_
    show Steps p.tables e below (s₁.setTop (mkF m 41 #[.val (.int p1), .val (.int p2), .val (.int p3), .val (.int p4), .val (.int p5), .val (.int p6), .val (.double (FP.i2d ((p5 &&& (65535 : Int32)) + (1 : Int32)))), .second, .val (.double (FP.i2d ((p6 &&& (65535 : Int32)) + (1 : Int32)))), .second, .val (.double tot), .second, .val (.double (FP.i2d (p1 &&& (2147483647 : Int32)))), .second, .val (.double (FP.i2d (p2 &&& (2147483647 : Int32)))), .second, .unset, .unset, .unset, .unset, .unset] [])) _
    refine XS.iloadN X0.here hx rfl (hb hby at_41) rfl ?_
    show Steps p.tables e below (s₁.setTop (mkF m 42 #[.val (.int p1), .val (.int p2), .val (.int p3), .val (.int p4), .val (.int p5), .val (.int p6), .val (.double (FP.i2d ((p5 &&& (65535 : Int32)) + (1 : Int32)))), .second, .val (.double (FP.i2d ((p6 &&& (65535 : Int32)) + (1 : Int32)))), .second, .val (.double tot), .second, .val (.double (FP.i2d (p1 &&& (2147483647 : Int32)))), .second, .val (.double (FP.i2d (p2 &&& (2147483647 : Int32)))), .second, .unset, .unset, .unset, .unset, .unset] [(.int p3)])) _
    refine X0.ldcInt hx hown (mvT hZ (hw _ (List.mem_of_getElem? (i := 1) rfl))) (g := (mkF m 42 #[.val (.int p1), .val (.int p2), .val (.int p3), .val (.int p4), .val (.int p5), .val (.int p6), .val (.double (FP.i2d ((p5 &&& (65535 : Int32)) + (1 : Int32)))), .second, .val (.double (FP.i2d ((p6 &&& (65535 : Int32)) + (1 : Int32)))), .second, .val (.double tot), .second, .val (.double (FP.i2d (p1 &&& (2147483647 : Int32)))), .second, .val (.double (FP.i2d (p2 &&& (2147483647 : Int32)))), .second, .unset, .unset, .unset, .unset, .unset] [(.int p3)])) rfl (hb hby at_42) _ ?_
    show Steps p.tables e below (s₁.setTop (mkF m 44 #[.val (.int p1), .val (.int p2), .val (.int p3), .val (.int p4), .val (.int p5), .val (.int p6), .val (.double (FP.i2d ((p5 &&& (65535 : Int32)) + (1 : Int32)))), .second, .val (.double (FP.i2d ((p6 &&& (65535 : Int32)) + (1 : Int32)))), .second, .val (.double tot), .second, .val (.double (FP.i2d (p1 &&& (2147483647 : Int32)))), .second, .val (.double (FP.i2d (p2 &&& (2147483647 : Int32)))), .second, .unset, .unset, .unset, .unset, .unset] [(.int (2147483647 : Int32)), (.int p3)])) _
    refine XS.iand X0.here hx rfl (hb hby at_44) rfl ?_
    show Steps p.tables e below (s₁.setTop (mkF m 45 #[.val (.int p1), .val (.int p2), .val (.int p3), .val (.int p4), .val (.int p5), .val (.int p6), .val (.double (FP.i2d ((p5 &&& (65535 : Int32)) + (1 : Int32)))), .second, .val (.double (FP.i2d ((p6 &&& (65535 : Int32)) + (1 : Int32)))), .second, .val (.double tot), .second, .val (.double (FP.i2d (p1 &&& (2147483647 : Int32)))), .second, .val (.double (FP.i2d (p2 &&& (2147483647 : Int32)))), .second, .unset, .unset, .unset, .unset, .unset] [(.int (p3 &&& (2147483647 : Int32)))])) _
    refine XS.i2dS X0.here hx rfl (hb hby at_45) rfl rfl ?_
    show Steps p.tables e below (s₁.setTop (mkF m 46 #[.val (.int p1), .val (.int p2), .val (.int p3), .val (.int p4), .val (.int p5), .val (.int p6), .val (.double (FP.i2d ((p5 &&& (65535 : Int32)) + (1 : Int32)))), .second, .val (.double (FP.i2d ((p6 &&& (65535 : Int32)) + (1 : Int32)))), .second, .val (.double tot), .second, .val (.double (FP.i2d (p1 &&& (2147483647 : Int32)))), .second, .val (.double (FP.i2d (p2 &&& (2147483647 : Int32)))), .second, .unset, .unset, .unset, .unset, .unset] [(.double (FP.i2d (p3 &&& (2147483647 : Int32))))])) _
    refine XS.dstore X0.here hx rfl (hb hby at_46) rfl (l' := #[.val (.int p1), .val (.int p2), .val (.int p3), .val (.int p4), .val (.int p5), .val (.int p6), .val (.double (FP.i2d ((p5 &&& (65535 : Int32)) + (1 : Int32)))), .second, .val (.double (FP.i2d ((p6 &&& (65535 : Int32)) + (1 : Int32)))), .second, .val (.double tot), .second, .val (.double (FP.i2d (p1 &&& (2147483647 : Int32)))), .second, .val (.double (FP.i2d (p2 &&& (2147483647 : Int32)))), .second, .val (.double (FP.i2d (p3 &&& (2147483647 : Int32)))), .second, .unset, .unset, .unset]) rfl ?_
    show Steps p.tables e below (s₁.setTop (mkF m 48 #[.val (.int p1), .val (.int p2), .val (.int p3), .val (.int p4), .val (.int p5), .val (.int p6), .val (.double (FP.i2d ((p5 &&& (65535 : Int32)) + (1 : Int32)))), .second, .val (.double (FP.i2d ((p6 &&& (65535 : Int32)) + (1 : Int32)))), .second, .val (.double tot), .second, .val (.double (FP.i2d (p1 &&& (2147483647 : Int32)))), .second, .val (.double (FP.i2d (p2 &&& (2147483647 : Int32)))), .second, .val (.double (FP.i2d (p3 &&& (2147483647 : Int32)))), .second, .unset, .unset, .unset] [])) _
    refine XS.iloadN X0.here hx rfl (hb hby at_48) rfl ?_
    show Steps p.tables e below (s₁.setTop (mkF m 49 #[.val (.int p1), .val (.int p2), .val (.int p3), .val (.int p4), .val (.int p5), .val (.int p6), .val (.double (FP.i2d ((p5 &&& (65535 : Int32)) + (1 : Int32)))), .second, .val (.double (FP.i2d ((p6 &&& (65535 : Int32)) + (1 : Int32)))), .second, .val (.double tot), .second, .val (.double (FP.i2d (p1 &&& (2147483647 : Int32)))), .second, .val (.double (FP.i2d (p2 &&& (2147483647 : Int32)))), .second, .val (.double (FP.i2d (p3 &&& (2147483647 : Int32)))), .second, .unset, .unset, .unset] [(.int p4)])) _
    refine X0.ldcInt hx hown (mvT hZ (hw _ (List.mem_of_getElem? (i := 1) rfl))) (g := (mkF m 49 #[.val (.int p1), .val (.int p2), .val (.int p3), .val (.int p4), .val (.int p5), .val (.int p6), .val (.double (FP.i2d ((p5 &&& (65535 : Int32)) + (1 : Int32)))), .second, .val (.double (FP.i2d ((p6 &&& (65535 : Int32)) + (1 : Int32)))), .second, .val (.double tot), .second, .val (.double (FP.i2d (p1 &&& (2147483647 : Int32)))), .second, .val (.double (FP.i2d (p2 &&& (2147483647 : Int32)))), .second, .val (.double (FP.i2d (p3 &&& (2147483647 : Int32)))), .second, .unset, .unset, .unset] [(.int p4)])) rfl (hb hby at_49) _ ?_
    show Steps p.tables e below (s₁.setTop (mkF m 51 #[.val (.int p1), .val (.int p2), .val (.int p3), .val (.int p4), .val (.int p5), .val (.int p6), .val (.double (FP.i2d ((p5 &&& (65535 : Int32)) + (1 : Int32)))), .second, .val (.double (FP.i2d ((p6 &&& (65535 : Int32)) + (1 : Int32)))), .second, .val (.double tot), .second, .val (.double (FP.i2d (p1 &&& (2147483647 : Int32)))), .second, .val (.double (FP.i2d (p2 &&& (2147483647 : Int32)))), .second, .val (.double (FP.i2d (p3 &&& (2147483647 : Int32)))), .second, .unset, .unset, .unset] [(.int (2147483647 : Int32)), (.int p4)])) _
    refine XS.iand X0.here hx rfl (hb hby at_51) rfl ?_
    show Steps p.tables e below (s₁.setTop (mkF m 52 #[.val (.int p1), .val (.int p2), .val (.int p3), .val (.int p4), .val (.int p5), .val (.int p6), .val (.double (FP.i2d ((p5 &&& (65535 : Int32)) + (1 : Int32)))), .second, .val (.double (FP.i2d ((p6 &&& (65535 : Int32)) + (1 : Int32)))), .second, .val (.double tot), .second, .val (.double (FP.i2d (p1 &&& (2147483647 : Int32)))), .second, .val (.double (FP.i2d (p2 &&& (2147483647 : Int32)))), .second, .val (.double (FP.i2d (p3 &&& (2147483647 : Int32)))), .second, .unset, .unset, .unset] [(.int (p4 &&& (2147483647 : Int32)))])) _
    refine XS.i2dS X0.here hx rfl (hb hby at_52) rfl rfl ?_
    show Steps p.tables e below (s₁.setTop (mkF m 53 #[.val (.int p1), .val (.int p2), .val (.int p3), .val (.int p4), .val (.int p5), .val (.int p6), .val (.double (FP.i2d ((p5 &&& (65535 : Int32)) + (1 : Int32)))), .second, .val (.double (FP.i2d ((p6 &&& (65535 : Int32)) + (1 : Int32)))), .second, .val (.double tot), .second, .val (.double (FP.i2d (p1 &&& (2147483647 : Int32)))), .second, .val (.double (FP.i2d (p2 &&& (2147483647 : Int32)))), .second, .val (.double (FP.i2d (p3 &&& (2147483647 : Int32)))), .second, .unset, .unset, .unset] [(.double (FP.i2d (p4 &&& (2147483647 : Int32))))])) _
    refine XS.dstore X0.here hx rfl (hb hby at_53) rfl (l' := #[.val (.int p1), .val (.int p2), .val (.int p3), .val (.int p4), .val (.int p5), .val (.int p6), .val (.double (FP.i2d ((p5 &&& (65535 : Int32)) + (1 : Int32)))), .second, .val (.double (FP.i2d ((p6 &&& (65535 : Int32)) + (1 : Int32)))), .second, .val (.double tot), .second, .val (.double (FP.i2d (p1 &&& (2147483647 : Int32)))), .second, .val (.double (FP.i2d (p2 &&& (2147483647 : Int32)))), .second, .val (.double (FP.i2d (p3 &&& (2147483647 : Int32)))), .second, .val (.double (FP.i2d (p4 &&& (2147483647 : Int32)))), .second, .unset]) rfl ?_
    show Steps p.tables e below (s₁.setTop (mkF m 55 #[.val (.int p1), .val (.int p2), .val (.int p3), .val (.int p4), .val (.int p5), .val (.int p6), .val (.double (FP.i2d ((p5 &&& (65535 : Int32)) + (1 : Int32)))), .second, .val (.double (FP.i2d ((p6 &&& (65535 : Int32)) + (1 : Int32)))), .second, .val (.double tot), .second, .val (.double (FP.i2d (p1 &&& (2147483647 : Int32)))), .second, .val (.double (FP.i2d (p2 &&& (2147483647 : Int32)))), .second, .val (.double (FP.i2d (p3 &&& (2147483647 : Int32)))), .second, .val (.double (FP.i2d (p4 &&& (2147483647 : Int32)))), .second, .unset] [])) _
    refine XS.iconst X0.here hx rfl (hb hby at_55) ?_
    show Steps p.tables e below (s₁.setTop (mkF m 56 #[.val (.int p1), .val (.int p2), .val (.int p3), .val (.int p4), .val (.int p5), .val (.int p6), .val (.double (FP.i2d ((p5 &&& (65535 : Int32)) + (1 : Int32)))), .second, .val (.double (FP.i2d ((p6 &&& (65535 : Int32)) + (1 : Int32)))), .second, .val (.double tot), .second, .val (.double (FP.i2d (p1 &&& (2147483647 : Int32)))), .second, .val (.double (FP.i2d (p2 &&& (2147483647 : Int32)))), .second, .val (.double (FP.i2d (p3 &&& (2147483647 : Int32)))), .second, .val (.double (FP.i2d (p4 &&& (2147483647 : Int32)))), .second, .unset] [(.int (4 : Int32))])) _
    refine st1 _ ?_
    show Steps p.tables e below (T1.setTop (mkF m 58 #[.val (.int p1), .val (.int p2), .val (.int p3), .val (.int p4), .val (.int p5), .val (.int p6), .val (.double (FP.i2d ((p5 &&& (65535 : Int32)) + (1 : Int32)))), .second, .val (.double (FP.i2d ((p6 &&& (65535 : Int32)) + (1 : Int32)))), .second, .val (.double tot), .second, .val (.double (FP.i2d (p1 &&& (2147483647 : Int32)))), .second, .val (.double (FP.i2d (p2 &&& (2147483647 : Int32)))), .second, .val (.double (FP.i2d (p3 &&& (2147483647 : Int32)))), .second, .val (.double (FP.i2d (p4 &&& (2147483647 : Int32)))), .second, .unset] [(.ref b)])) _
    refine XS.astore X1.here hx rfl (hb hby at_58) rfl rfl (l' := #[.val (.int p1), .val (.int p2), .val (.int p3), .val (.int p4), .val (.int p5), .val (.int p6), .val (.double (FP.i2d ((p5 &&& (65535 : Int32)) + (1 : Int32)))), .second, .val (.double (FP.i2d ((p6 &&& (65535 : Int32)) + (1 : Int32)))), .second, .val (.double tot), .second, .val (.double (FP.i2d (p1 &&& (2147483647 : Int32)))), .second, .val (.double (FP.i2d (p2 &&& (2147483647 : Int32)))), .second, .val (.double (FP.i2d (p3 &&& (2147483647 : Int32)))), .second, .val (.double (FP.i2d (p4 &&& (2147483647 : Int32)))), .second, .val (.ref b)]) rfl ?_
    show Steps p.tables e below (T1.setTop (mkF m 60 #[.val (.int p1), .val (.int p2), .val (.int p3), .val (.int p4), .val (.int p5), .val (.int p6), .val (.double (FP.i2d ((p5 &&& (65535 : Int32)) + (1 : Int32)))), .second, .val (.double (FP.i2d ((p6 &&& (65535 : Int32)) + (1 : Int32)))), .second, .val (.double tot), .second, .val (.double (FP.i2d (p1 &&& (2147483647 : Int32)))), .second, .val (.double (FP.i2d (p2 &&& (2147483647 : Int32)))), .second, .val (.double (FP.i2d (p3 &&& (2147483647 : Int32)))), .second, .val (.double (FP.i2d (p4 &&& (2147483647 : Int32)))), .second, .val (.ref b)] [])) _
    refine XS.aload X1.here hx rfl (hb hby at_60) rfl rfl ?_
    show Steps p.tables e below (T1.setTop (mkF m 62 #[.val (.int p1), .val (.int p2), .val (.int p3), .val (.int p4), .val (.int p5), .val (.int p6), .val (.double (FP.i2d ((p5 &&& (65535 : Int32)) + (1 : Int32)))), .second, .val (.double (FP.i2d ((p6 &&& (65535 : Int32)) + (1 : Int32)))), .second, .val (.double tot), .second, .val (.double (FP.i2d (p1 &&& (2147483647 : Int32)))), .second, .val (.double (FP.i2d (p2 &&& (2147483647 : Int32)))), .second, .val (.double (FP.i2d (p3 &&& (2147483647 : Int32)))), .second, .val (.double (FP.i2d (p4 &&& (2147483647 : Int32)))), .second, .val (.ref b)] [(.ref b)])) _
    refine XS.iconst X1.here hx rfl (hb hby at_62) ?_
    show Steps p.tables e below (T1.setTop (mkF m 63 #[.val (.int p1), .val (.int p2), .val (.int p3), .val (.int p4), .val (.int p5), .val (.int p6), .val (.double (FP.i2d ((p5 &&& (65535 : Int32)) + (1 : Int32)))), .second, .val (.double (FP.i2d ((p6 &&& (65535 : Int32)) + (1 : Int32)))), .second, .val (.double tot), .second, .val (.double (FP.i2d (p1 &&& (2147483647 : Int32)))), .second, .val (.double (FP.i2d (p2 &&& (2147483647 : Int32)))), .second, .val (.double (FP.i2d (p3 &&& (2147483647 : Int32)))), .second, .val (.double (FP.i2d (p4 &&& (2147483647 : Int32)))), .second, .val (.ref b)] [(.int (0 : Int32)), (.ref b)])) _
    refine XS.dload X1.here hx rfl (hb hby at_63) rfl ?_
    show Steps p.tables e below (T1.setTop (mkF m 65 #[.val (.int p1), .val (.int p2), .val (.int p3), .val (.int p4), .val (.int p5), .val (.int p6), .val (.double (FP.i2d ((p5 &&& (65535 : Int32)) + (1 : Int32)))), .second, .val (.double (FP.i2d ((p6 &&& (65535 : Int32)) + (1 : Int32)))), .second, .val (.double tot), .second, .val (.double (FP.i2d (p1 &&& (2147483647 : Int32)))), .second, .val (.double (FP.i2d (p2 &&& (2147483647 : Int32)))), .second, .val (.double (FP.i2d (p3 &&& (2147483647 : Int32)))), .second, .val (.double (FP.i2d (p4 &&& (2147483647 : Int32)))), .second, .val (.ref b)] [(.double (FP.i2d (p1 &&& (2147483647 : Int32)))), (.int (0 : Int32)), (.ref b)])) _
    refine st2 _ ?_
    show Steps p.tables e below (T2.setTop (mkF m 66 #[.val (.int p1), .val (.int p2), .val (.int p3), .val (.int p4), .val (.int p5), .val (.int p6), .val (.double (FP.i2d ((p5 &&& (65535 : Int32)) + (1 : Int32)))), .second, .val (.double (FP.i2d ((p6 &&& (65535 : Int32)) + (1 : Int32)))), .second, .val (.double tot), .second, .val (.double (FP.i2d (p1 &&& (2147483647 : Int32)))), .second, .val (.double (FP.i2d (p2 &&& (2147483647 : Int32)))), .second, .val (.double (FP.i2d (p3 &&& (2147483647 : Int32)))), .second, .val (.double (FP.i2d (p4 &&& (2147483647 : Int32)))), .second, .val (.ref b)] [])) _
    refine XS.aload X2.here hx rfl (hb hby at_66) rfl rfl ?_
    show Steps p.tables e below (T2.setTop (mkF m 68 #[.val (.int p1), .val (.int p2), .val (.int p3), .val (.int p4), .val (.int p5), .val (.int p6), .val (.double (FP.i2d ((p5 &&& (65535 : Int32)) + (1 : Int32)))), .second, .val (.double (FP.i2d ((p6 &&& (65535 : Int32)) + (1 : Int32)))), .second, .val (.double tot), .second, .val (.double (FP.i2d (p1 &&& (2147483647 : Int32)))), .second, .val (.double (FP.i2d (p2 &&& (2147483647 : Int32)))), .second, .val (.double (FP.i2d (p3 &&& (2147483647 : Int32)))), .second, .val (.double (FP.i2d (p4 &&& (2147483647 : Int32)))), .second, .val (.ref b)] [(.ref b)])) _
    refine XS.iconst X2.here hx rfl (hb hby at_68) ?_
    show Steps p.tables e below (T2.setTop (mkF m 69 #[.val (.int p1), .val (.int p2), .val (.int p3), .val (.int p4), .val (.int p5), .val (.int p6), .val (.double (FP.i2d ((p5 &&& (65535 : Int32)) + (1 : Int32)))), .second, .val (.double (FP.i2d ((p6 &&& (65535 : Int32)) + (1 : Int32)))), .second, .val (.double tot), .second, .val (.double (FP.i2d (p1 &&& (2147483647 : Int32)))), .second, .val (.double (FP.i2d (p2 &&& (2147483647 : Int32)))), .second, .val (.double (FP.i2d (p3 &&& (2147483647 : Int32)))), .second, .val (.double (FP.i2d (p4 &&& (2147483647 : Int32)))), .second, .val (.ref b)] [(.int (1 : Int32)), (.ref b)])) _
    refine XS.dload X2.here hx rfl (hb hby at_69) rfl ?_
    show Steps p.tables e below (T2.setTop (mkF m 71 #[.val (.int p1), .val (.int p2), .val (.int p3), .val (.int p4), .val (.int p5), .val (.int p6), .val (.double (FP.i2d ((p5 &&& (65535 : Int32)) + (1 : Int32)))), .second, .val (.double (FP.i2d ((p6 &&& (65535 : Int32)) + (1 : Int32)))), .second, .val (.double tot), .second, .val (.double (FP.i2d (p1 &&& (2147483647 : Int32)))), .second, .val (.double (FP.i2d (p2 &&& (2147483647 : Int32)))), .second, .val (.double (FP.i2d (p3 &&& (2147483647 : Int32)))), .second, .val (.double (FP.i2d (p4 &&& (2147483647 : Int32)))), .second, .val (.ref b)] [(.double (FP.i2d (p2 &&& (2147483647 : Int32)))), (.int (1 : Int32)), (.ref b)])) _
    refine st3 _ ?_
    show Steps p.tables e below (T3.setTop (mkF m 72 #[.val (.int p1), .val (.int p2), .val (.int p3), .val (.int p4), .val (.int p5), .val (.int p6), .val (.double (FP.i2d ((p5 &&& (65535 : Int32)) + (1 : Int32)))), .second, .val (.double (FP.i2d ((p6 &&& (65535 : Int32)) + (1 : Int32)))), .second, .val (.double tot), .second, .val (.double (FP.i2d (p1 &&& (2147483647 : Int32)))), .second, .val (.double (FP.i2d (p2 &&& (2147483647 : Int32)))), .second, .val (.double (FP.i2d (p3 &&& (2147483647 : Int32)))), .second, .val (.double (FP.i2d (p4 &&& (2147483647 : Int32)))), .second, .val (.ref b)] [])) _
    refine XS.aload X3.here hx rfl (hb hby at_72) rfl rfl ?_
    show Steps p.tables e below (T3.setTop (mkF m 74 #[.val (.int p1), .val (.int p2), .val (.int p3), .val (.int p4), .val (.int p5), .val (.int p6), .val (.double (FP.i2d ((p5 &&& (65535 : Int32)) + (1 : Int32)))), .second, .val (.double (FP.i2d ((p6 &&& (65535 : Int32)) + (1 : Int32)))), .second, .val (.double tot), .second, .val (.double (FP.i2d (p1 &&& (2147483647 : Int32)))), .second, .val (.double (FP.i2d (p2 &&& (2147483647 : Int32)))), .second, .val (.double (FP.i2d (p3 &&& (2147483647 : Int32)))), .second, .val (.double (FP.i2d (p4 &&& (2147483647 : Int32)))), .second, .val (.ref b)] [(.ref b)])) _
    refine XS.iconst X3.here hx rfl (hb hby at_74) ?_
    show Steps p.tables e below (T3.setTop (mkF m 75 #[.val (.int p1), .val (.int p2), .val (.int p3), .val (.int p4), .val (.int p5), .val (.int p6), .val (.double (FP.i2d ((p5 &&& (65535 : Int32)) + (1 : Int32)))), .second, .val (.double (FP.i2d ((p6 &&& (65535 : Int32)) + (1 : Int32)))), .second, .val (.double tot), .second, .val (.double (FP.i2d (p1 &&& (2147483647 : Int32)))), .second, .val (.double (FP.i2d (p2 &&& (2147483647 : Int32)))), .second, .val (.double (FP.i2d (p3 &&& (2147483647 : Int32)))), .second, .val (.double (FP.i2d (p4 &&& (2147483647 : Int32)))), .second, .val (.ref b)] [(.int (2 : Int32)), (.ref b)])) _
    refine XS.dload X3.here hx rfl (hb hby at_75) rfl ?_
    show Steps p.tables e below (T3.setTop (mkF m 77 #[.val (.int p1), .val (.int p2), .val (.int p3), .val (.int p4), .val (.int p5), .val (.int p6), .val (.double (FP.i2d ((p5 &&& (65535 : Int32)) + (1 : Int32)))), .second, .val (.double (FP.i2d ((p6 &&& (65535 : Int32)) + (1 : Int32)))), .second, .val (.double tot), .second, .val (.double (FP.i2d (p1 &&& (2147483647 : Int32)))), .second, .val (.double (FP.i2d (p2 &&& (2147483647 : Int32)))), .second, .val (.double (FP.i2d (p3 &&& (2147483647 : Int32)))), .second, .val (.double (FP.i2d (p4 &&& (2147483647 : Int32)))), .second, .val (.ref b)] [(.double (FP.i2d (p3 &&& (2147483647 : Int32)))), (.int (2 : Int32)), (.ref b)])) _
    refine st4 _ ?_
    show Steps p.tables e below (T4.setTop (mkF m 78 #[.val (.int p1), .val (.int p2), .val (.int p3), .val (.int p4), .val (.int p5), .val (.int p6), .val (.double (FP.i2d ((p5 &&& (65535 : Int32)) + (1 : Int32)))), .second, .val (.double (FP.i2d ((p6 &&& (65535 : Int32)) + (1 : Int32)))), .second, .val (.double tot), .second, .val (.double (FP.i2d (p1 &&& (2147483647 : Int32)))), .second, .val (.double (FP.i2d (p2 &&& (2147483647 : Int32)))), .second, .val (.double (FP.i2d (p3 &&& (2147483647 : Int32)))), .second, .val (.double (FP.i2d (p4 &&& (2147483647 : Int32)))), .second, .val (.ref b)] [])) _
    refine XS.aload X4.here hx rfl (hb hby at_78) rfl rfl ?_
    show Steps p.tables e below (T4.setTop (mkF m 80 #[.val (.int p1), .val (.int p2), .val (.int p3), .val (.int p4), .val (.int p5), .val (.int p6), .val (.double (FP.i2d ((p5 &&& (65535 : Int32)) + (1 : Int32)))), .second, .val (.double (FP.i2d ((p6 &&& (65535 : Int32)) + (1 : Int32)))), .second, .val (.double tot), .second, .val (.double (FP.i2d (p1 &&& (2147483647 : Int32)))), .second, .val (.double (FP.i2d (p2 &&& (2147483647 : Int32)))), .second, .val (.double (FP.i2d (p3 &&& (2147483647 : Int32)))), .second, .val (.double (FP.i2d (p4 &&& (2147483647 : Int32)))), .second, .val (.ref b)] [(.ref b)])) _
    refine XS.iconst X4.here hx rfl (hb hby at_80) ?_
    show Steps p.tables e below (T4.setTop (mkF m 81 #[.val (.int p1), .val (.int p2), .val (.int p3), .val (.int p4), .val (.int p5), .val (.int p6), .val (.double (FP.i2d ((p5 &&& (65535 : Int32)) + (1 : Int32)))), .second, .val (.double (FP.i2d ((p6 &&& (65535 : Int32)) + (1 : Int32)))), .second, .val (.double tot), .second, .val (.double (FP.i2d (p1 &&& (2147483647 : Int32)))), .second, .val (.double (FP.i2d (p2 &&& (2147483647 : Int32)))), .second, .val (.double (FP.i2d (p3 &&& (2147483647 : Int32)))), .second, .val (.double (FP.i2d (p4 &&& (2147483647 : Int32)))), .second, .val (.ref b)] [(.int (3 : Int32)), (.ref b)])) _
    refine XS.dload X4.here hx rfl (hb hby at_81) rfl ?_
    show Steps p.tables e below (T4.setTop (mkF m 83 #[.val (.int p1), .val (.int p2), .val (.int p3), .val (.int p4), .val (.int p5), .val (.int p6), .val (.double (FP.i2d ((p5 &&& (65535 : Int32)) + (1 : Int32)))), .second, .val (.double (FP.i2d ((p6 &&& (65535 : Int32)) + (1 : Int32)))), .second, .val (.double tot), .second, .val (.double (FP.i2d (p1 &&& (2147483647 : Int32)))), .second, .val (.double (FP.i2d (p2 &&& (2147483647 : Int32)))), .second, .val (.double (FP.i2d (p3 &&& (2147483647 : Int32)))), .second, .val (.double (FP.i2d (p4 &&& (2147483647 : Int32)))), .second, .val (.ref b)] [(.double (FP.i2d (p4 &&& (2147483647 : Int32)))), (.int (3 : Int32)), (.ref b)])) _
    refine st5 _ ?_
    show Steps p.tables e below (T5.setTop (mkF m 84 #[.val (.int p1), .val (.int p2), .val (.int p3), .val (.int p4), .val (.int p5), .val (.int p6), .val (.double (FP.i2d ((p5 &&& (65535 : Int32)) + (1 : Int32)))), .second, .val (.double (FP.i2d ((p6 &&& (65535 : Int32)) + (1 : Int32)))), .second, .val (.double tot), .second, .val (.double (FP.i2d (p1 &&& (2147483647 : Int32)))), .second, .val (.double (FP.i2d (p2 &&& (2147483647 : Int32)))), .second, .val (.double (FP.i2d (p3 &&& (2147483647 : Int32)))), .second, .val (.double (FP.i2d (p4 &&& (2147483647 : Int32)))), .second, .val (.ref b)] [])) _
    refine XS.aload X5.here hx rfl (hb hby at_84) rfl rfl ?_
    show Steps p.tables e below (T5.setTop (mkF m 86 #[.val (.int p1), .val (.int p2), .val (.int p3), .val (.int p4), .val (.int p5), .val (.int p6), .val (.double (FP.i2d ((p5 &&& (65535 : Int32)) + (1 : Int32)))), .second, .val (.double (FP.i2d ((p6 &&& (65535 : Int32)) + (1 : Int32)))), .second, .val (.double tot), .second, .val (.double (FP.i2d (p1 &&& (2147483647 : Int32)))), .second, .val (.double (FP.i2d (p2 &&& (2147483647 : Int32)))), .second, .val (.double (FP.i2d (p3 &&& (2147483647 : Int32)))), .second, .val (.double (FP.i2d (p4 &&& (2147483647 : Int32)))), .second, .val (.ref b)] [(.ref b)])) _
    refine XS.dload X5.here hx rfl (hb hby at_86) rfl ?_
    show Steps p.tables e below (T5.setTop (mkF m 88 #[.val (.int p1), .val (.int p2), .val (.int p3), .val (.int p4), .val (.int p5), .val (.int p6), .val (.double (FP.i2d ((p5 &&& (65535 : Int32)) + (1 : Int32)))), .second, .val (.double (FP.i2d ((p6 &&& (65535 : Int32)) + (1 : Int32)))), .second, .val (.double tot), .second, .val (.double (FP.i2d (p1 &&& (2147483647 : Int32)))), .second, .val (.double (FP.i2d (p2 &&& (2147483647 : Int32)))), .second, .val (.double (FP.i2d (p3 &&& (2147483647 : Int32)))), .second, .val (.double (FP.i2d (p4 &&& (2147483647 : Int32)))), .second, .val (.ref b)] [(.double tot), (.ref b)])) _
    refine st8 _ ?_
    show Steps p.tables e below (T8.setTop (mkF m 91 #[.val (.int p1), .val (.int p2), .val (.int p3), .val (.int p4), .val (.int p5), .val (.int p6), .val (.double (FP.i2d ((p5 &&& (65535 : Int32)) + (1 : Int32)))), .second, .val (.double (FP.i2d ((p6 &&& (65535 : Int32)) + (1 : Int32)))), .second, .val (.double tot), .second, .val (.double (FP.i2d (p1 &&& (2147483647 : Int32)))), .second, .val (.double (FP.i2d (p2 &&& (2147483647 : Int32)))), .second, .val (.double (FP.i2d (p3 &&& (2147483647 : Int32)))), .second, .val (.double (FP.i2d (p4 &&& (2147483647 : Int32)))), .second, .val (.ref b)] [])) _
    refine XS.aload X8.here hx rfl (hb hby at_91) rfl rfl ?_
    show Steps p.tables e below (T8.setTop (mkF m 93 #[.val (.int p1), .val (.int p2), .val (.int p3), .val (.int p4), .val (.int p5), .val (.int p6), .val (.double (FP.i2d ((p5 &&& (65535 : Int32)) + (1 : Int32)))), .second, .val (.double (FP.i2d ((p6 &&& (65535 : Int32)) + (1 : Int32)))), .second, .val (.double tot), .second, .val (.double (FP.i2d (p1 &&& (2147483647 : Int32)))), .second, .val (.double (FP.i2d (p2 &&& (2147483647 : Int32)))), .second, .val (.double (FP.i2d (p3 &&& (2147483647 : Int32)))), .second, .val (.double (FP.i2d (p4 &&& (2147483647 : Int32)))), .second, .val (.ref b)] [(.ref b)])) _
    refine X8.arraylength hx Ar8.1 (State.isArrayOf_alike hZ.alike Ar8.2.1) (g := (mkF m 93 #[.val (.int p1), .val (.int p2), .val (.int p3), .val (.int p4), .val (.int p5), .val (.int p6), .val (.double (FP.i2d ((p5 &&& (65535 : Int32)) + (1 : Int32)))), .second, .val (.double (FP.i2d ((p6 &&& (65535 : Int32)) + (1 : Int32)))), .second, .val (.double tot), .second, .val (.double (FP.i2d (p1 &&& (2147483647 : Int32)))), .second, .val (.double (FP.i2d (p2 &&& (2147483647 : Int32)))), .second, .val (.double (FP.i2d (p3 &&& (2147483647 : Int32)))), .second, .val (.double (FP.i2d (p4 &&& (2147483647 : Int32)))), .second, .val (.ref b)] [(.ref b)])) rfl rfl (hb hby at_93) _ ?_
    show Steps p.tables e below (T8.setTop (mkF m 94 #[.val (.int p1), .val (.int p2), .val (.int p3), .val (.int p4), .val (.int p5), .val (.int p6), .val (.double (FP.i2d ((p5 &&& (65535 : Int32)) + (1 : Int32)))), .second, .val (.double (FP.i2d ((p6 &&& (65535 : Int32)) + (1 : Int32)))), .second, .val (.double tot), .second, .val (.double (FP.i2d (p1 &&& (2147483647 : Int32)))), .second, .val (.double (FP.i2d (p2 &&& (2147483647 : Int32)))), .second, .val (.double (FP.i2d (p3 &&& (2147483647 : Int32)))), .second, .val (.double (FP.i2d (p4 &&& (2147483647 : Int32)))), .second, .val (.ref b)] [(.int (c8.slots.size).toInt32)])) _
    rw [S8]
    show Steps p.tables e below (T8.setTop (mkF m 94 #[.val (.int p1), .val (.int p2), .val (.int p3), .val (.int p4), .val (.int p5), .val (.int p6), .val (.double (FP.i2d ((p5 &&& (65535 : Int32)) + (1 : Int32)))), .second, .val (.double (FP.i2d ((p6 &&& (65535 : Int32)) + (1 : Int32)))), .second, .val (.double tot), .second, .val (.double (FP.i2d (p1 &&& (2147483647 : Int32)))), .second, .val (.double (FP.i2d (p2 &&& (2147483647 : Int32)))), .second, .val (.double (FP.i2d (p3 &&& (2147483647 : Int32)))), .second, .val (.double (FP.i2d (p4 &&& (2147483647 : Int32)))), .second, .val (.ref b)] [(.int (4 : Int32))])) _
    refine XS.iconst X8.here hx rfl (hb hby at_94) ?_
    show Steps p.tables e below (T8.setTop (mkF m 95 #[.val (.int p1), .val (.int p2), .val (.int p3), .val (.int p4), .val (.int p5), .val (.int p6), .val (.double (FP.i2d ((p5 &&& (65535 : Int32)) + (1 : Int32)))), .second, .val (.double (FP.i2d ((p6 &&& (65535 : Int32)) + (1 : Int32)))), .second, .val (.double tot), .second, .val (.double (FP.i2d (p1 &&& (2147483647 : Int32)))), .second, .val (.double (FP.i2d (p2 &&& (2147483647 : Int32)))), .second, .val (.double (FP.i2d (p3 &&& (2147483647 : Int32)))), .second, .val (.double (FP.i2d (p4 &&& (2147483647 : Int32)))), .second, .val (.ref b)] [(.int (4 : Int32)), (.int (4 : Int32))])) _
    refine XS.icmpNo X8.here hx rfl (hb hby at_95) rfl (teq rfl).2 ?_
    show Steps p.tables e below (T8.setTop (mkF m 98 #[.val (.int p1), .val (.int p2), .val (.int p3), .val (.int p4), .val (.int p5), .val (.int p6), .val (.double (FP.i2d ((p5 &&& (65535 : Int32)) + (1 : Int32)))), .second, .val (.double (FP.i2d ((p6 &&& (65535 : Int32)) + (1 : Int32)))), .second, .val (.double tot), .second, .val (.double (FP.i2d (p1 &&& (2147483647 : Int32)))), .second, .val (.double (FP.i2d (p2 &&& (2147483647 : Int32)))), .second, .val (.double (FP.i2d (p3 &&& (2147483647 : Int32)))), .second, .val (.double (FP.i2d (p4 &&& (2147483647 : Int32)))), .second, .val (.ref b)] [])) _
    refine XS.aload X8.here hx rfl (hb hby at_98) rfl rfl ?_
    show Steps p.tables e below (T8.setTop (mkF m 100 #[.val (.int p1), .val (.int p2), .val (.int p3), .val (.int p4), .val (.int p5), .val (.int p6), .val (.double (FP.i2d ((p5 &&& (65535 : Int32)) + (1 : Int32)))), .second, .val (.double (FP.i2d ((p6 &&& (65535 : Int32)) + (1 : Int32)))), .second, .val (.double tot), .second, .val (.double (FP.i2d (p1 &&& (2147483647 : Int32)))), .second, .val (.double (FP.i2d (p2 &&& (2147483647 : Int32)))), .second, .val (.double (FP.i2d (p3 &&& (2147483647 : Int32)))), .second, .val (.double (FP.i2d (p4 &&& (2147483647 : Int32)))), .second, .val (.ref b)] [(.ref b)])) _
    refine XS.iconst X8.here hx rfl (hb hby at_100) ?_
    show Steps p.tables e below (T8.setTop (mkF m 101 #[.val (.int p1), .val (.int p2), .val (.int p3), .val (.int p4), .val (.int p5), .val (.int p6), .val (.double (FP.i2d ((p5 &&& (65535 : Int32)) + (1 : Int32)))), .second, .val (.double (FP.i2d ((p6 &&& (65535 : Int32)) + (1 : Int32)))), .second, .val (.double tot), .second, .val (.double (FP.i2d (p1 &&& (2147483647 : Int32)))), .second, .val (.double (FP.i2d (p2 &&& (2147483647 : Int32)))), .second, .val (.double (FP.i2d (p3 &&& (2147483647 : Int32)))), .second, .val (.double (FP.i2d (p4 &&& (2147483647 : Int32)))), .second, .val (.ref b)] [(.int (0 : Int32)), (.ref b)])) _
    refine X8.daload hx (j := (0 : Int32)) (v := (.double (FP.ddiv (FP.i2d (p1 &&& (2147483647 : Int32))) tot))) Ar8.1 (State.isArrayOf_alike hZ.alike Ar8.2.1) Ar8.2.2 (own_in (n := 0) S8 (by decide) (by decide)) (own_at (n := 0) H8 (by decide) rfl) (g := (mkF m 101 #[.val (.int p1), .val (.int p2), .val (.int p3), .val (.int p4), .val (.int p5), .val (.int p6), .val (.double (FP.i2d ((p5 &&& (65535 : Int32)) + (1 : Int32)))), .second, .val (.double (FP.i2d ((p6 &&& (65535 : Int32)) + (1 : Int32)))), .second, .val (.double tot), .second, .val (.double (FP.i2d (p1 &&& (2147483647 : Int32)))), .second, .val (.double (FP.i2d (p2 &&& (2147483647 : Int32)))), .second, .val (.double (FP.i2d (p3 &&& (2147483647 : Int32)))), .second, .val (.double (FP.i2d (p4 &&& (2147483647 : Int32)))), .second, .val (.ref b)] [(.int (0 : Int32)), (.ref b)])) rfl rfl (hb hby at_101) _ ?_
    show Steps p.tables e below (T8.setTop (mkF m 102 #[.val (.int p1), .val (.int p2), .val (.int p3), .val (.int p4), .val (.int p5), .val (.int p6), .val (.double (FP.i2d ((p5 &&& (65535 : Int32)) + (1 : Int32)))), .second, .val (.double (FP.i2d ((p6 &&& (65535 : Int32)) + (1 : Int32)))), .second, .val (.double tot), .second, .val (.double (FP.i2d (p1 &&& (2147483647 : Int32)))), .second, .val (.double (FP.i2d (p2 &&& (2147483647 : Int32)))), .second, .val (.double (FP.i2d (p3 &&& (2147483647 : Int32)))), .second, .val (.double (FP.i2d (p4 &&& (2147483647 : Int32)))), .second, .val (.ref b)] [(.double (FP.ddiv (FP.i2d (p1 &&& (2147483647 : Int32))) tot))])) _
    refine XS.dload X8.here hx rfl (hb hby at_102) rfl ?_
    show Steps p.tables e below (T8.setTop (mkF m 104 #[.val (.int p1), .val (.int p2), .val (.int p3), .val (.int p4), .val (.int p5), .val (.int p6), .val (.double (FP.i2d ((p5 &&& (65535 : Int32)) + (1 : Int32)))), .second, .val (.double (FP.i2d ((p6 &&& (65535 : Int32)) + (1 : Int32)))), .second, .val (.double tot), .second, .val (.double (FP.i2d (p1 &&& (2147483647 : Int32)))), .second, .val (.double (FP.i2d (p2 &&& (2147483647 : Int32)))), .second, .val (.double (FP.i2d (p3 &&& (2147483647 : Int32)))), .second, .val (.double (FP.i2d (p4 &&& (2147483647 : Int32)))), .second, .val (.ref b)] [(.double (FP.i2d (p1 &&& (2147483647 : Int32)))), (.double (FP.ddiv (FP.i2d (p1 &&& (2147483647 : Int32))) tot))])) _
    refine XS.dload X8.here hx rfl (hb hby at_104) rfl ?_
    show Steps p.tables e below (T8.setTop (mkF m 106 #[.val (.int p1), .val (.int p2), .val (.int p3), .val (.int p4), .val (.int p5), .val (.int p6), .val (.double (FP.i2d ((p5 &&& (65535 : Int32)) + (1 : Int32)))), .second, .val (.double (FP.i2d ((p6 &&& (65535 : Int32)) + (1 : Int32)))), .second, .val (.double tot), .second, .val (.double (FP.i2d (p1 &&& (2147483647 : Int32)))), .second, .val (.double (FP.i2d (p2 &&& (2147483647 : Int32)))), .second, .val (.double (FP.i2d (p3 &&& (2147483647 : Int32)))), .second, .val (.double (FP.i2d (p4 &&& (2147483647 : Int32)))), .second, .val (.ref b)] [(.double tot), (.double (FP.i2d (p1 &&& (2147483647 : Int32)))), (.double (FP.ddiv (FP.i2d (p1 &&& (2147483647 : Int32))) tot))])) _
    refine XS.ddivS X8.here hx rfl (hb hby at_106) rfl (hov _) rfl ?_
    show Steps p.tables e below (T8.setTop (mkF m 107 #[.val (.int p1), .val (.int p2), .val (.int p3), .val (.int p4), .val (.int p5), .val (.int p6), .val (.double (FP.i2d ((p5 &&& (65535 : Int32)) + (1 : Int32)))), .second, .val (.double (FP.i2d ((p6 &&& (65535 : Int32)) + (1 : Int32)))), .second, .val (.double tot), .second, .val (.double (FP.i2d (p1 &&& (2147483647 : Int32)))), .second, .val (.double (FP.i2d (p2 &&& (2147483647 : Int32)))), .second, .val (.double (FP.i2d (p3 &&& (2147483647 : Int32)))), .second, .val (.double (FP.i2d (p4 &&& (2147483647 : Int32)))), .second, .val (.ref b)] [(.double (FP.ddiv (FP.i2d (p1 &&& (2147483647 : Int32))) tot)), (.double (FP.ddiv (FP.i2d (p1 &&& (2147483647 : Int32))) tot))])) _
    refine XS.dcmpS X8.here hx rfl (hb hby at_107) rfl (dcmpV_self (hov _) _) ?_
    show Steps p.tables e below (T8.setTop (mkF m 108 #[.val (.int p1), .val (.int p2), .val (.int p3), .val (.int p4), .val (.int p5), .val (.int p6), .val (.double (FP.i2d ((p5 &&& (65535 : Int32)) + (1 : Int32)))), .second, .val (.double (FP.i2d ((p6 &&& (65535 : Int32)) + (1 : Int32)))), .second, .val (.double tot), .second, .val (.double (FP.i2d (p1 &&& (2147483647 : Int32)))), .second, .val (.double (FP.i2d (p2 &&& (2147483647 : Int32)))), .second, .val (.double (FP.i2d (p3 &&& (2147483647 : Int32)))), .second, .val (.double (FP.i2d (p4 &&& (2147483647 : Int32)))), .second, .val (.ref b)] [(.int (0 : Int32))])) _
    refine XS.ifNo X8.here hx rfl (hb hby at_108) rfl ((if0 _ _).trans (teq rfl).2) ?_
    show Steps p.tables e below (T8.setTop (mkF m 111 #[.val (.int p1), .val (.int p2), .val (.int p3), .val (.int p4), .val (.int p5), .val (.int p6), .val (.double (FP.i2d ((p5 &&& (65535 : Int32)) + (1 : Int32)))), .second, .val (.double (FP.i2d ((p6 &&& (65535 : Int32)) + (1 : Int32)))), .second, .val (.double tot), .second, .val (.double (FP.i2d (p1 &&& (2147483647 : Int32)))), .second, .val (.double (FP.i2d (p2 &&& (2147483647 : Int32)))), .second, .val (.double (FP.i2d (p3 &&& (2147483647 : Int32)))), .second, .val (.double (FP.i2d (p4 &&& (2147483647 : Int32)))), .second, .val (.ref b)] [])) _
    refine XS.aload X8.here hx rfl (hb hby at_111) rfl rfl ?_
    show Steps p.tables e below (T8.setTop (mkF m 113 #[.val (.int p1), .val (.int p2), .val (.int p3), .val (.int p4), .val (.int p5), .val (.int p6), .val (.double (FP.i2d ((p5 &&& (65535 : Int32)) + (1 : Int32)))), .second, .val (.double (FP.i2d ((p6 &&& (65535 : Int32)) + (1 : Int32)))), .second, .val (.double tot), .second, .val (.double (FP.i2d (p1 &&& (2147483647 : Int32)))), .second, .val (.double (FP.i2d (p2 &&& (2147483647 : Int32)))), .second, .val (.double (FP.i2d (p3 &&& (2147483647 : Int32)))), .second, .val (.double (FP.i2d (p4 &&& (2147483647 : Int32)))), .second, .val (.ref b)] [(.ref b)])) _
    refine XS.iconst X8.here hx rfl (hb hby at_113) ?_
    show Steps p.tables e below (T8.setTop (mkF m 114 #[.val (.int p1), .val (.int p2), .val (.int p3), .val (.int p4), .val (.int p5), .val (.int p6), .val (.double (FP.i2d ((p5 &&& (65535 : Int32)) + (1 : Int32)))), .second, .val (.double (FP.i2d ((p6 &&& (65535 : Int32)) + (1 : Int32)))), .second, .val (.double tot), .second, .val (.double (FP.i2d (p1 &&& (2147483647 : Int32)))), .second, .val (.double (FP.i2d (p2 &&& (2147483647 : Int32)))), .second, .val (.double (FP.i2d (p3 &&& (2147483647 : Int32)))), .second, .val (.double (FP.i2d (p4 &&& (2147483647 : Int32)))), .second, .val (.ref b)] [(.int (1 : Int32)), (.ref b)])) _
    refine X8.daload hx (j := (1 : Int32)) (v := (.double (FP.ddiv (FP.i2d (p2 &&& (2147483647 : Int32))) tot))) Ar8.1 (State.isArrayOf_alike hZ.alike Ar8.2.1) Ar8.2.2 (own_in (n := 1) S8 (by decide) (by decide)) (own_at (n := 1) H8 (by decide) rfl) (g := (mkF m 114 #[.val (.int p1), .val (.int p2), .val (.int p3), .val (.int p4), .val (.int p5), .val (.int p6), .val (.double (FP.i2d ((p5 &&& (65535 : Int32)) + (1 : Int32)))), .second, .val (.double (FP.i2d ((p6 &&& (65535 : Int32)) + (1 : Int32)))), .second, .val (.double tot), .second, .val (.double (FP.i2d (p1 &&& (2147483647 : Int32)))), .second, .val (.double (FP.i2d (p2 &&& (2147483647 : Int32)))), .second, .val (.double (FP.i2d (p3 &&& (2147483647 : Int32)))), .second, .val (.double (FP.i2d (p4 &&& (2147483647 : Int32)))), .second, .val (.ref b)] [(.int (1 : Int32)), (.ref b)])) rfl rfl (hb hby at_114) _ ?_
    show Steps p.tables e below (T8.setTop (mkF m 115 #[.val (.int p1), .val (.int p2), .val (.int p3), .val (.int p4), .val (.int p5), .val (.int p6), .val (.double (FP.i2d ((p5 &&& (65535 : Int32)) + (1 : Int32)))), .second, .val (.double (FP.i2d ((p6 &&& (65535 : Int32)) + (1 : Int32)))), .second, .val (.double tot), .second, .val (.double (FP.i2d (p1 &&& (2147483647 : Int32)))), .second, .val (.double (FP.i2d (p2 &&& (2147483647 : Int32)))), .second, .val (.double (FP.i2d (p3 &&& (2147483647 : Int32)))), .second, .val (.double (FP.i2d (p4 &&& (2147483647 : Int32)))), .second, .val (.ref b)] [(.double (FP.ddiv (FP.i2d (p2 &&& (2147483647 : Int32))) tot))])) _
    refine XS.dload X8.here hx rfl (hb hby at_115) rfl ?_
    show Steps p.tables e below (T8.setTop (mkF m 117 #[.val (.int p1), .val (.int p2), .val (.int p3), .val (.int p4), .val (.int p5), .val (.int p6), .val (.double (FP.i2d ((p5 &&& (65535 : Int32)) + (1 : Int32)))), .second, .val (.double (FP.i2d ((p6 &&& (65535 : Int32)) + (1 : Int32)))), .second, .val (.double tot), .second, .val (.double (FP.i2d (p1 &&& (2147483647 : Int32)))), .second, .val (.double (FP.i2d (p2 &&& (2147483647 : Int32)))), .second, .val (.double (FP.i2d (p3 &&& (2147483647 : Int32)))), .second, .val (.double (FP.i2d (p4 &&& (2147483647 : Int32)))), .second, .val (.ref b)] [(.double (FP.i2d (p2 &&& (2147483647 : Int32)))), (.double (FP.ddiv (FP.i2d (p2 &&& (2147483647 : Int32))) tot))])) _
    refine XS.dload X8.here hx rfl (hb hby at_117) rfl ?_
    show Steps p.tables e below (T8.setTop (mkF m 119 #[.val (.int p1), .val (.int p2), .val (.int p3), .val (.int p4), .val (.int p5), .val (.int p6), .val (.double (FP.i2d ((p5 &&& (65535 : Int32)) + (1 : Int32)))), .second, .val (.double (FP.i2d ((p6 &&& (65535 : Int32)) + (1 : Int32)))), .second, .val (.double tot), .second, .val (.double (FP.i2d (p1 &&& (2147483647 : Int32)))), .second, .val (.double (FP.i2d (p2 &&& (2147483647 : Int32)))), .second, .val (.double (FP.i2d (p3 &&& (2147483647 : Int32)))), .second, .val (.double (FP.i2d (p4 &&& (2147483647 : Int32)))), .second, .val (.ref b)] [(.double tot), (.double (FP.i2d (p2 &&& (2147483647 : Int32)))), (.double (FP.ddiv (FP.i2d (p2 &&& (2147483647 : Int32))) tot))])) _
    refine XS.ddivS X8.here hx rfl (hb hby at_119) rfl (hov _) rfl ?_
    show Steps p.tables e below (T8.setTop (mkF m 120 #[.val (.int p1), .val (.int p2), .val (.int p3), .val (.int p4), .val (.int p5), .val (.int p6), .val (.double (FP.i2d ((p5 &&& (65535 : Int32)) + (1 : Int32)))), .second, .val (.double (FP.i2d ((p6 &&& (65535 : Int32)) + (1 : Int32)))), .second, .val (.double tot), .second, .val (.double (FP.i2d (p1 &&& (2147483647 : Int32)))), .second, .val (.double (FP.i2d (p2 &&& (2147483647 : Int32)))), .second, .val (.double (FP.i2d (p3 &&& (2147483647 : Int32)))), .second, .val (.double (FP.i2d (p4 &&& (2147483647 : Int32)))), .second, .val (.ref b)] [(.double (FP.ddiv (FP.i2d (p2 &&& (2147483647 : Int32))) tot)), (.double (FP.ddiv (FP.i2d (p2 &&& (2147483647 : Int32))) tot))])) _
    refine XS.dcmpS X8.here hx rfl (hb hby at_120) rfl (dcmpV_self (hov _) _) ?_
    show Steps p.tables e below (T8.setTop (mkF m 121 #[.val (.int p1), .val (.int p2), .val (.int p3), .val (.int p4), .val (.int p5), .val (.int p6), .val (.double (FP.i2d ((p5 &&& (65535 : Int32)) + (1 : Int32)))), .second, .val (.double (FP.i2d ((p6 &&& (65535 : Int32)) + (1 : Int32)))), .second, .val (.double tot), .second, .val (.double (FP.i2d (p1 &&& (2147483647 : Int32)))), .second, .val (.double (FP.i2d (p2 &&& (2147483647 : Int32)))), .second, .val (.double (FP.i2d (p3 &&& (2147483647 : Int32)))), .second, .val (.double (FP.i2d (p4 &&& (2147483647 : Int32)))), .second, .val (.ref b)] [(.int (0 : Int32))])) _
    refine XS.ifNo X8.here hx rfl (hb hby at_121) rfl ((if0 _ _).trans (teq rfl).2) ?_
    show Steps p.tables e below (T8.setTop (mkF m 124 #[.val (.int p1), .val (.int p2), .val (.int p3), .val (.int p4), .val (.int p5), .val (.int p6), .val (.double (FP.i2d ((p5 &&& (65535 : Int32)) + (1 : Int32)))), .second, .val (.double (FP.i2d ((p6 &&& (65535 : Int32)) + (1 : Int32)))), .second, .val (.double tot), .second, .val (.double (FP.i2d (p1 &&& (2147483647 : Int32)))), .second, .val (.double (FP.i2d (p2 &&& (2147483647 : Int32)))), .second, .val (.double (FP.i2d (p3 &&& (2147483647 : Int32)))), .second, .val (.double (FP.i2d (p4 &&& (2147483647 : Int32)))), .second, .val (.ref b)] [])) _
    refine XS.aload X8.here hx rfl (hb hby at_124) rfl rfl ?_
    show Steps p.tables e below (T8.setTop (mkF m 126 #[.val (.int p1), .val (.int p2), .val (.int p3), .val (.int p4), .val (.int p5), .val (.int p6), .val (.double (FP.i2d ((p5 &&& (65535 : Int32)) + (1 : Int32)))), .second, .val (.double (FP.i2d ((p6 &&& (65535 : Int32)) + (1 : Int32)))), .second, .val (.double tot), .second, .val (.double (FP.i2d (p1 &&& (2147483647 : Int32)))), .second, .val (.double (FP.i2d (p2 &&& (2147483647 : Int32)))), .second, .val (.double (FP.i2d (p3 &&& (2147483647 : Int32)))), .second, .val (.double (FP.i2d (p4 &&& (2147483647 : Int32)))), .second, .val (.ref b)] [(.ref b)])) _
    refine XS.iconst X8.here hx rfl (hb hby at_126) ?_
    show Steps p.tables e below (T8.setTop (mkF m 127 #[.val (.int p1), .val (.int p2), .val (.int p3), .val (.int p4), .val (.int p5), .val (.int p6), .val (.double (FP.i2d ((p5 &&& (65535 : Int32)) + (1 : Int32)))), .second, .val (.double (FP.i2d ((p6 &&& (65535 : Int32)) + (1 : Int32)))), .second, .val (.double tot), .second, .val (.double (FP.i2d (p1 &&& (2147483647 : Int32)))), .second, .val (.double (FP.i2d (p2 &&& (2147483647 : Int32)))), .second, .val (.double (FP.i2d (p3 &&& (2147483647 : Int32)))), .second, .val (.double (FP.i2d (p4 &&& (2147483647 : Int32)))), .second, .val (.ref b)] [(.int (2 : Int32)), (.ref b)])) _
    refine X8.daload hx (j := (2 : Int32)) (v := (.double (FP.ddiv (FP.i2d (p3 &&& (2147483647 : Int32))) tot))) Ar8.1 (State.isArrayOf_alike hZ.alike Ar8.2.1) Ar8.2.2 (own_in (n := 2) S8 (by decide) (by decide)) (own_at (n := 2) H8 (by decide) rfl) (g := (mkF m 127 #[.val (.int p1), .val (.int p2), .val (.int p3), .val (.int p4), .val (.int p5), .val (.int p6), .val (.double (FP.i2d ((p5 &&& (65535 : Int32)) + (1 : Int32)))), .second, .val (.double (FP.i2d ((p6 &&& (65535 : Int32)) + (1 : Int32)))), .second, .val (.double tot), .second, .val (.double (FP.i2d (p1 &&& (2147483647 : Int32)))), .second, .val (.double (FP.i2d (p2 &&& (2147483647 : Int32)))), .second, .val (.double (FP.i2d (p3 &&& (2147483647 : Int32)))), .second, .val (.double (FP.i2d (p4 &&& (2147483647 : Int32)))), .second, .val (.ref b)] [(.int (2 : Int32)), (.ref b)])) rfl rfl (hb hby at_127) _ ?_
    show Steps p.tables e below (T8.setTop (mkF m 128 #[.val (.int p1), .val (.int p2), .val (.int p3), .val (.int p4), .val (.int p5), .val (.int p6), .val (.double (FP.i2d ((p5 &&& (65535 : Int32)) + (1 : Int32)))), .second, .val (.double (FP.i2d ((p6 &&& (65535 : Int32)) + (1 : Int32)))), .second, .val (.double tot), .second, .val (.double (FP.i2d (p1 &&& (2147483647 : Int32)))), .second, .val (.double (FP.i2d (p2 &&& (2147483647 : Int32)))), .second, .val (.double (FP.i2d (p3 &&& (2147483647 : Int32)))), .second, .val (.double (FP.i2d (p4 &&& (2147483647 : Int32)))), .second, .val (.ref b)] [(.double (FP.ddiv (FP.i2d (p3 &&& (2147483647 : Int32))) tot))])) _
    refine XS.dload X8.here hx rfl (hb hby at_128) rfl ?_
    show Steps p.tables e below (T8.setTop (mkF m 130 #[.val (.int p1), .val (.int p2), .val (.int p3), .val (.int p4), .val (.int p5), .val (.int p6), .val (.double (FP.i2d ((p5 &&& (65535 : Int32)) + (1 : Int32)))), .second, .val (.double (FP.i2d ((p6 &&& (65535 : Int32)) + (1 : Int32)))), .second, .val (.double tot), .second, .val (.double (FP.i2d (p1 &&& (2147483647 : Int32)))), .second, .val (.double (FP.i2d (p2 &&& (2147483647 : Int32)))), .second, .val (.double (FP.i2d (p3 &&& (2147483647 : Int32)))), .second, .val (.double (FP.i2d (p4 &&& (2147483647 : Int32)))), .second, .val (.ref b)] [(.double (FP.i2d (p3 &&& (2147483647 : Int32)))), (.double (FP.ddiv (FP.i2d (p3 &&& (2147483647 : Int32))) tot))])) _
    refine XS.dload X8.here hx rfl (hb hby at_130) rfl ?_
    show Steps p.tables e below (T8.setTop (mkF m 132 #[.val (.int p1), .val (.int p2), .val (.int p3), .val (.int p4), .val (.int p5), .val (.int p6), .val (.double (FP.i2d ((p5 &&& (65535 : Int32)) + (1 : Int32)))), .second, .val (.double (FP.i2d ((p6 &&& (65535 : Int32)) + (1 : Int32)))), .second, .val (.double tot), .second, .val (.double (FP.i2d (p1 &&& (2147483647 : Int32)))), .second, .val (.double (FP.i2d (p2 &&& (2147483647 : Int32)))), .second, .val (.double (FP.i2d (p3 &&& (2147483647 : Int32)))), .second, .val (.double (FP.i2d (p4 &&& (2147483647 : Int32)))), .second, .val (.ref b)] [(.double tot), (.double (FP.i2d (p3 &&& (2147483647 : Int32)))), (.double (FP.ddiv (FP.i2d (p3 &&& (2147483647 : Int32))) tot))])) _
    refine XS.ddivS X8.here hx rfl (hb hby at_132) rfl (hov _) rfl ?_
    show Steps p.tables e below (T8.setTop (mkF m 133 #[.val (.int p1), .val (.int p2), .val (.int p3), .val (.int p4), .val (.int p5), .val (.int p6), .val (.double (FP.i2d ((p5 &&& (65535 : Int32)) + (1 : Int32)))), .second, .val (.double (FP.i2d ((p6 &&& (65535 : Int32)) + (1 : Int32)))), .second, .val (.double tot), .second, .val (.double (FP.i2d (p1 &&& (2147483647 : Int32)))), .second, .val (.double (FP.i2d (p2 &&& (2147483647 : Int32)))), .second, .val (.double (FP.i2d (p3 &&& (2147483647 : Int32)))), .second, .val (.double (FP.i2d (p4 &&& (2147483647 : Int32)))), .second, .val (.ref b)] [(.double (FP.ddiv (FP.i2d (p3 &&& (2147483647 : Int32))) tot)), (.double (FP.ddiv (FP.i2d (p3 &&& (2147483647 : Int32))) tot))])) _
    refine XS.dcmpS X8.here hx rfl (hb hby at_133) rfl (dcmpV_self (hov _) _) ?_
    show Steps p.tables e below (T8.setTop (mkF m 134 #[.val (.int p1), .val (.int p2), .val (.int p3), .val (.int p4), .val (.int p5), .val (.int p6), .val (.double (FP.i2d ((p5 &&& (65535 : Int32)) + (1 : Int32)))), .second, .val (.double (FP.i2d ((p6 &&& (65535 : Int32)) + (1 : Int32)))), .second, .val (.double tot), .second, .val (.double (FP.i2d (p1 &&& (2147483647 : Int32)))), .second, .val (.double (FP.i2d (p2 &&& (2147483647 : Int32)))), .second, .val (.double (FP.i2d (p3 &&& (2147483647 : Int32)))), .second, .val (.double (FP.i2d (p4 &&& (2147483647 : Int32)))), .second, .val (.ref b)] [(.int (0 : Int32))])) _
    refine XS.ifNo X8.here hx rfl (hb hby at_134) rfl ((if0 _ _).trans (teq rfl).2) ?_
    show Steps p.tables e below (T8.setTop (mkF m 137 #[.val (.int p1), .val (.int p2), .val (.int p3), .val (.int p4), .val (.int p5), .val (.int p6), .val (.double (FP.i2d ((p5 &&& (65535 : Int32)) + (1 : Int32)))), .second, .val (.double (FP.i2d ((p6 &&& (65535 : Int32)) + (1 : Int32)))), .second, .val (.double tot), .second, .val (.double (FP.i2d (p1 &&& (2147483647 : Int32)))), .second, .val (.double (FP.i2d (p2 &&& (2147483647 : Int32)))), .second, .val (.double (FP.i2d (p3 &&& (2147483647 : Int32)))), .second, .val (.double (FP.i2d (p4 &&& (2147483647 : Int32)))), .second, .val (.ref b)] [])) _
    refine XS.aload X8.here hx rfl (hb hby at_137) rfl rfl ?_
    show Steps p.tables e below (T8.setTop (mkF m 139 #[.val (.int p1), .val (.int p2), .val (.int p3), .val (.int p4), .val (.int p5), .val (.int p6), .val (.double (FP.i2d ((p5 &&& (65535 : Int32)) + (1 : Int32)))), .second, .val (.double (FP.i2d ((p6 &&& (65535 : Int32)) + (1 : Int32)))), .second, .val (.double tot), .second, .val (.double (FP.i2d (p1 &&& (2147483647 : Int32)))), .second, .val (.double (FP.i2d (p2 &&& (2147483647 : Int32)))), .second, .val (.double (FP.i2d (p3 &&& (2147483647 : Int32)))), .second, .val (.double (FP.i2d (p4 &&& (2147483647 : Int32)))), .second, .val (.ref b)] [(.ref b)])) _
    refine XS.iconst X8.here hx rfl (hb hby at_139) ?_
    show Steps p.tables e below (T8.setTop (mkF m 140 #[.val (.int p1), .val (.int p2), .val (.int p3), .val (.int p4), .val (.int p5), .val (.int p6), .val (.double (FP.i2d ((p5 &&& (65535 : Int32)) + (1 : Int32)))), .second, .val (.double (FP.i2d ((p6 &&& (65535 : Int32)) + (1 : Int32)))), .second, .val (.double tot), .second, .val (.double (FP.i2d (p1 &&& (2147483647 : Int32)))), .second, .val (.double (FP.i2d (p2 &&& (2147483647 : Int32)))), .second, .val (.double (FP.i2d (p3 &&& (2147483647 : Int32)))), .second, .val (.double (FP.i2d (p4 &&& (2147483647 : Int32)))), .second, .val (.ref b)] [(.int (3 : Int32)), (.ref b)])) _
    refine X8.daload hx (j := (3 : Int32)) (v := (.double (FP.ddiv (FP.i2d (p4 &&& (2147483647 : Int32))) tot))) Ar8.1 (State.isArrayOf_alike hZ.alike Ar8.2.1) Ar8.2.2 (own_in (n := 3) S8 (by decide) (by decide)) (own_at (n := 3) H8 (by decide) rfl) (g := (mkF m 140 #[.val (.int p1), .val (.int p2), .val (.int p3), .val (.int p4), .val (.int p5), .val (.int p6), .val (.double (FP.i2d ((p5 &&& (65535 : Int32)) + (1 : Int32)))), .second, .val (.double (FP.i2d ((p6 &&& (65535 : Int32)) + (1 : Int32)))), .second, .val (.double tot), .second, .val (.double (FP.i2d (p1 &&& (2147483647 : Int32)))), .second, .val (.double (FP.i2d (p2 &&& (2147483647 : Int32)))), .second, .val (.double (FP.i2d (p3 &&& (2147483647 : Int32)))), .second, .val (.double (FP.i2d (p4 &&& (2147483647 : Int32)))), .second, .val (.ref b)] [(.int (3 : Int32)), (.ref b)])) rfl rfl (hb hby at_140) _ ?_
    show Steps p.tables e below (T8.setTop (mkF m 141 #[.val (.int p1), .val (.int p2), .val (.int p3), .val (.int p4), .val (.int p5), .val (.int p6), .val (.double (FP.i2d ((p5 &&& (65535 : Int32)) + (1 : Int32)))), .second, .val (.double (FP.i2d ((p6 &&& (65535 : Int32)) + (1 : Int32)))), .second, .val (.double tot), .second, .val (.double (FP.i2d (p1 &&& (2147483647 : Int32)))), .second, .val (.double (FP.i2d (p2 &&& (2147483647 : Int32)))), .second, .val (.double (FP.i2d (p3 &&& (2147483647 : Int32)))), .second, .val (.double (FP.i2d (p4 &&& (2147483647 : Int32)))), .second, .val (.ref b)] [(.double (FP.ddiv (FP.i2d (p4 &&& (2147483647 : Int32))) tot))])) _
    refine XS.dload X8.here hx rfl (hb hby at_141) rfl ?_
    show Steps p.tables e below (T8.setTop (mkF m 143 #[.val (.int p1), .val (.int p2), .val (.int p3), .val (.int p4), .val (.int p5), .val (.int p6), .val (.double (FP.i2d ((p5 &&& (65535 : Int32)) + (1 : Int32)))), .second, .val (.double (FP.i2d ((p6 &&& (65535 : Int32)) + (1 : Int32)))), .second, .val (.double tot), .second, .val (.double (FP.i2d (p1 &&& (2147483647 : Int32)))), .second, .val (.double (FP.i2d (p2 &&& (2147483647 : Int32)))), .second, .val (.double (FP.i2d (p3 &&& (2147483647 : Int32)))), .second, .val (.double (FP.i2d (p4 &&& (2147483647 : Int32)))), .second, .val (.ref b)] [(.double (FP.i2d (p4 &&& (2147483647 : Int32)))), (.double (FP.ddiv (FP.i2d (p4 &&& (2147483647 : Int32))) tot))])) _
    refine XS.dload X8.here hx rfl (hb hby at_143) rfl ?_
    show Steps p.tables e below (T8.setTop (mkF m 145 #[.val (.int p1), .val (.int p2), .val (.int p3), .val (.int p4), .val (.int p5), .val (.int p6), .val (.double (FP.i2d ((p5 &&& (65535 : Int32)) + (1 : Int32)))), .second, .val (.double (FP.i2d ((p6 &&& (65535 : Int32)) + (1 : Int32)))), .second, .val (.double tot), .second, .val (.double (FP.i2d (p1 &&& (2147483647 : Int32)))), .second, .val (.double (FP.i2d (p2 &&& (2147483647 : Int32)))), .second, .val (.double (FP.i2d (p3 &&& (2147483647 : Int32)))), .second, .val (.double (FP.i2d (p4 &&& (2147483647 : Int32)))), .second, .val (.ref b)] [(.double tot), (.double (FP.i2d (p4 &&& (2147483647 : Int32)))), (.double (FP.ddiv (FP.i2d (p4 &&& (2147483647 : Int32))) tot))])) _
    refine XS.ddivS X8.here hx rfl (hb hby at_145) rfl (hov _) rfl ?_
    show Steps p.tables e below (T8.setTop (mkF m 146 #[.val (.int p1), .val (.int p2), .val (.int p3), .val (.int p4), .val (.int p5), .val (.int p6), .val (.double (FP.i2d ((p5 &&& (65535 : Int32)) + (1 : Int32)))), .second, .val (.double (FP.i2d ((p6 &&& (65535 : Int32)) + (1 : Int32)))), .second, .val (.double tot), .second, .val (.double (FP.i2d (p1 &&& (2147483647 : Int32)))), .second, .val (.double (FP.i2d (p2 &&& (2147483647 : Int32)))), .second, .val (.double (FP.i2d (p3 &&& (2147483647 : Int32)))), .second, .val (.double (FP.i2d (p4 &&& (2147483647 : Int32)))), .second, .val (.ref b)] [(.double (FP.ddiv (FP.i2d (p4 &&& (2147483647 : Int32))) tot)), (.double (FP.ddiv (FP.i2d (p4 &&& (2147483647 : Int32))) tot))])) _
    refine XS.dcmpS X8.here hx rfl (hb hby at_146) rfl (dcmpV_self (hov _) _) ?_
    show Steps p.tables e below (T8.setTop (mkF m 147 #[.val (.int p1), .val (.int p2), .val (.int p3), .val (.int p4), .val (.int p5), .val (.int p6), .val (.double (FP.i2d ((p5 &&& (65535 : Int32)) + (1 : Int32)))), .second, .val (.double (FP.i2d ((p6 &&& (65535 : Int32)) + (1 : Int32)))), .second, .val (.double tot), .second, .val (.double (FP.i2d (p1 &&& (2147483647 : Int32)))), .second, .val (.double (FP.i2d (p2 &&& (2147483647 : Int32)))), .second, .val (.double (FP.i2d (p3 &&& (2147483647 : Int32)))), .second, .val (.double (FP.i2d (p4 &&& (2147483647 : Int32)))), .second, .val (.ref b)] [(.int (0 : Int32))])) _
    refine XS.ifNo X8.here hx rfl (hb hby at_147) rfl ((if0 _ _).trans (teq rfl).2) ?_
    show Steps p.tables e below (T8.setTop (mkF m 150 #[.val (.int p1), .val (.int p2), .val (.int p3), .val (.int p4), .val (.int p5), .val (.int p6), .val (.double (FP.i2d ((p5 &&& (65535 : Int32)) + (1 : Int32)))), .second, .val (.double (FP.i2d ((p6 &&& (65535 : Int32)) + (1 : Int32)))), .second, .val (.double tot), .second, .val (.double (FP.i2d (p1 &&& (2147483647 : Int32)))), .second, .val (.double (FP.i2d (p2 &&& (2147483647 : Int32)))), .second, .val (.double (FP.i2d (p3 &&& (2147483647 : Int32)))), .second, .val (.double (FP.i2d (p4 &&& (2147483647 : Int32)))), .second, .val (.ref b)] [])) _
    refine XS.iconst X8.here hx rfl (hb hby at_150) ?_
    show Steps p.tables e below (T8.setTop (mkF m 151 #[.val (.int p1), .val (.int p2), .val (.int p3), .val (.int p4), .val (.int p5), .val (.int p6), .val (.double (FP.i2d ((p5 &&& (65535 : Int32)) + (1 : Int32)))), .second, .val (.double (FP.i2d ((p6 &&& (65535 : Int32)) + (1 : Int32)))), .second, .val (.double tot), .second, .val (.double (FP.i2d (p1 &&& (2147483647 : Int32)))), .second, .val (.double (FP.i2d (p2 &&& (2147483647 : Int32)))), .second, .val (.double (FP.i2d (p3 &&& (2147483647 : Int32)))), .second, .val (.double (FP.i2d (p4 &&& (2147483647 : Int32)))), .second, .val (.ref b)] [(.int (1 : Int32))])) _
    refine XS.goto X8.here hx rfl (pc0 := 151) (pc' := 155) rfl (hb hby at_151) (by decide) (by decide) ?_
    show Steps p.tables e below (T8.setTop (mkF m 155 #[.val (.int p1), .val (.int p2), .val (.int p3), .val (.int p4), .val (.int p5), .val (.int p6), .val (.double (FP.i2d ((p5 &&& (65535 : Int32)) + (1 : Int32)))), .second, .val (.double (FP.i2d ((p6 &&& (65535 : Int32)) + (1 : Int32)))), .second, .val (.double tot), .second, .val (.double (FP.i2d (p1 &&& (2147483647 : Int32)))), .second, .val (.double (FP.i2d (p2 &&& (2147483647 : Int32)))), .second, .val (.double (FP.i2d (p3 &&& (2147483647 : Int32)))), .second, .val (.double (FP.i2d (p4 &&& (2147483647 : Int32)))), .second, .val (.ref b)] [(.int (1 : Int32))])) _
    exact retN X8 hx (t := .boolean) Bd.returns (by simp) (hb hby at_155) hr
  · show Q0 Z p1 p2 p3 p4 p5 p6 h0 n0 _ T8.heap _
    exact ⟨rfl, N8⟩
set_option maxRecDepth 65536 in
set_option maxHeartbeats 40000000 in
theorem comes_1 {Post : Tables → Env → Array Value → State → Outcome → State → Prop} (hpost : ∀ tb e args s v u, (limb_1_1.after args s (.returned v) u = true ∧ limb_1_2.after args s (.returned v) u = true ∧ True) → FrameEnd s (.returned v) u (Jvm.fieldLocs frame_1_writes args s ++ Jvm.arrayLocs frame_1_arrays args s ++ Jvm.staticLocs frame_1_statics s) 16 128 → Post tb e args s (.returned v) u) :
    ArmFor flags0 classFile x code maxLocals ret World_1 tables_1 room_1 Calls_1 rest_1 Pre_1 Post := by
  intro l hfl _ _ p e ha hc hk s m args below hf hA hF happ hP
  obtain ⟨hcalls, hrest, hpre⟩ := hP
  obtain ⟨-, -, -, hnamed, -, -, -, hat⟩ := (Spec.applies_iff hf).mp happ
  obtain ⟨hg, hn⟩ := and_e (Cond.before_iff.mp (show (Jvm.Cond.and given_1 narrow_1).before args s = true from hpre))
  obtain ⟨g1, k1⟩ := and_e hg
  obtain ⟨g2, k2⟩ := and_e k1
  obtain ⟨g3, k3⟩ := and_e k2
  obtain ⟨g4, k4⟩ := and_e k3
  obtain ⟨g5, k5⟩ := and_e k4
  obtain ⟨g6, g7⟩ := and_e k5
  obtain ⟨w0, w1, w2, w3, w4, w5, rfl⟩ : ∃ w0 w1 w2 w3 w4 w5 : Value, args = #[w0, w1, w2, w3, w4, w5] := by
    have hs : args.size = 6 := by simpa [Cond.value, given_1] using g1
    obtain ⟨L⟩ := args
    match L, hs with
    | [w0, w1, w2, w3, w4, w5], _ => exact ⟨w0, w1, w2, w3, w4, w5, rfl⟩
  have hw := fun d (hd : d ∈ tables_1) => atoms_spec (ws := Jvm.Cond.code x code maxLocals ret :: tables_1) hat d (List.mem_cons_of_mem _ hd)
  have hfit : Fit s := fun {y c} hc i hi => by
    obtain ⟨ha, rfl⟩ := Array.getElem?_eq_some_iff.mp hc
    have q := List.all_eq_true.mp ((Array.all_eq_true_iff_forall_mem.mp hF) _ (Array.getElem_mem ha)) i (List.mem_range.mpr hi)
    simpa [Array.getElem?_eq_getElem hi] using q
  obtain ⟨i0, ei0⟩ := is_v g2
  obtain rfl : w0 = (.int i0) := Option.some.inj ei0
  obtain ⟨i1, ei1⟩ := is_v g3
  obtain rfl : w1 = (.int i1) := Option.some.inj ei1
  obtain ⟨i2, ei2⟩ := is_v g4
  obtain rfl : w2 = (.int i2) := Option.some.inj ei2
  obtain ⟨i3, ei3⟩ := is_v g5
  obtain rfl : w3 = (.int i3) := Option.some.inj ei3
  obtain ⟨i4, ei4⟩ := is_v g6
  obtain rfl : w4 = (.int i4) := Option.some.inj ei4
  obtain ⟨i5, ei5⟩ := is_v g7
  obtain rfl : w5 = (.int i5) := Option.some.inj ei5
  obtain ⟨n, o, h1, h2, h3, _, L, rfl, ⟨rfl, N⟩, hq⟩ := rm0 l s _ hw tables_1 i0 i1 i2 i3 i4 i5 s.heap s.heap.size (Nat.le_refl _) p e ha hc hk s m _ below hf ((Spec.applies_iff_loose hf).mp happ).1 ⟨rfl, State.Warmed39.refl s, rfl⟩ trivial
  refine ⟨n, _, h1, h2, h3, hpost _ _ _ _ _ _ ⟨Cond.after_iff.mpr rfl, Cond.after_iff.mpr (eq_i res_at (Term.int_eval (1)) rfl), trivial⟩ ⟨hq.1, hq.2.1, (hq.2.2.sift fun y hy => Or.inr (N y hy)).mono (by decide) (by decide)⟩⟩
theorem main_1_1 : Claimed_1_1 := comes_1 fun _ _ _ _ _ _ h hF => ⟨h.1, hF⟩
theorem main_1_2 : Claimed_1_2 := comes_1 fun _ _ _ _ _ _ h hF => ⟨h.2.1, hF⟩
end Jvm.Pilot.@@N@@
namespace Jvm.Pilot.@@N@@
open Jvm Jvm.ClassFile Sem Op Lib Jvm.Free Jvm.Stand Jvm.Pilot.@@N@@.Jvm.D
/-! MADE BY PROGRAM (witnessworld.py) out of the Statement's table words and the real class files: 9 classes; the members and pool entries that the words name. The judged class is class 1, her method 1. -/
namespace start1
open Jvm.ClassFile
def u (s : String) : CpInfo := .utf8 (stringToUtf16 s)
/-- a pool by its gaps: so many unusable entries, then the entry; so many at the end -/
def gap : Nat → List CpInfo → List CpInfo
  | 0, r => r
  | n + 1, r => .unusable :: gap n r
def poolList (es : List (Nat × CpInfo)) (last : Nat) : List CpInfo := es.foldr (fun e r => gap e.1 (e.2 :: r)) (gap last [])
def pool (es : List (Nat × CpInfo)) (last : Nat) : Array CpInfo := ⟨poolList es last⟩
def fileOf (pool : Array CpInfo) (this : Nat) (attrs : Array Attribute := #[]) (ms : Array MethodInfo := #[]) (fl : Nat := 33) (sup : Nat := 0) (ifs : Array Nat := #[]) (fds : Array FieldInfo := #[]) : ClassFile where
  minorVersion := 0
  majorVersion := 65
  constantPool := pool
  accessFlags := fl
  thisClass := this
  superClass := sup
  interfaces := ifs
  fields := fds
  methods := ms
  attributes := attrs
def plain (name : String) (sup : Option ClassId) : Class where
  name := name
  kind := .ordinary
  loader := none
  accessFlags := 33
  super := sup
  interfaces := #[]
  cf := none
  fields := #[]
  methods := #[]
  instanceTypes := #[]
  staticTypes := #[]
  resolved := #[]
  callSites := []
  init := .initialized
  statics := none
  mirror := none

def pool0 : Array CpInfo := pool [(5, u "<init>"), (0, u "()V"), (1, .class_ 10), (1, u "java/lang/Object")] 113

def k0m0 : Method := { name := "<init>", desc := "()V", sig := { parameters := [], returnType := none }, accessFlags := 1, code := none }
/-- java/lang/Object -/
def k0 : Class := { plain "java/lang/Object" none with
  accessFlags := 33
  interfaces := #[]
  cf := some (fileOf pool0 8 #[] #[{ accessFlags := 1, nameIndex := 5, descriptorIndex := 6, attributes := #[] }] 33 0 #[] #[])
  fields := #[]
  methods := #[k0m0]
  instanceTypes := #[]
  staticTypes := #[]
  resolved := Array.replicate 124 none
  statics := none }

def pool1 : Array CpInfo := pool [(2, .class_ 4), (1, u "java/lang/Object"), (0, u "<init>"), (0, u "()V"), (0, .integer 65535), (0, .integer 2147483647), (0, .methodref 10 11), (0, .class_ 12), (0, .nameAndType 13 14), (0, u "com/example/caudal/caudal/Sweep"), (0, u "normalise"), (0, u "([DD)V"), (0, .class_ 16), (0, u "com/example/caudal/caudal/SweepNormalisePinLaw"), (2, u "law"), (0, u "(IIIIII)Z")] 5

def k1m0 : Method := { name := "<init>", desc := "()V", sig := { parameters := [], returnType := none }, accessFlags := 1, code := none }
def k1c1 : Code := { maxStack := 6, maxLocals := 21, code := code, exceptionTable := #[], attributes := #[] }
def k1m1 : Method := { name := "law", desc := "(IIIIII)Z", sig := { parameters := [.int, .int, .int, .int, .int, .int], returnType := some .boolean }, accessFlags := 9, code := some k1c1 }
/-- com/example/caudal/caudal/SweepNormalisePinLaw -/
def k1 : Class := { plain "com/example/caudal/caudal/SweepNormalisePinLaw" (some 0) with
  accessFlags := 49
  interfaces := #[]
  cf := some (fileOf pool1 15 #[] #[{ accessFlags := 1, nameIndex := 5, descriptorIndex := 6, attributes := #[] }, { accessFlags := 9, nameIndex := 19, descriptorIndex := 20, attributes := #[] }] 49 2 #[] #[])
  fields := #[]
  methods := #[k1m0, k1m1]
  instanceTypes := #[]
  staticTypes := #[]
  resolved := Array.replicate 26 none
  statics := none }

def pool2 : Array CpInfo := pool [(4, .class_ 6), (1, u "java/lang/Object"), (3, .class_ 12), (1, u "com/example/caudal/caudal/Sweep"), (0, u "graph"), (0, u "Lcom/example/caudal/caudal/Graph;"), (2, u "damping"), (0, u "D"), (2, u "preference"), (0, u "Lcom/example/caudal/caudal/Preference;"), (20, u "spread"), (2, u "inDegrees"), (3, u "[I"), (15, u "([DD)V"), (23, .class_ 91), (0, u "com/example/caudal/caudal/Sweep$Residual"), (15, u "ROUNDINGS"), (0, u "I"), (2, u "PER_ROUNDING"), (0, u "DIVISION"), (16, u "normalise")] 6

def k2c0 : Code := { maxStack := 6, maxLocals := 4, code := prog_22_method_8_code, exceptionTable := #[], attributes := #[] }
def k2m0 : Method := { name := "normalise", desc := "([DD)V", sig := { parameters := [(.array .double), .double], returnType := none }, accessFlags := 8, code := some k2c0 }
/-- com/example/caudal/caudal/Sweep -/
def k2 : Class := { plain "com/example/caudal/caudal/Sweep" (some 0) with
  accessFlags := 32
  interfaces := #[]
  cf := some (fileOf pool2 10 #[.nestMembers #[90]] #[{ accessFlags := 8, nameIndex := 129, descriptorIndex := 66, attributes := #[] }] 32 4 #[] #[{ accessFlags := 26, nameIndex := 107, descriptorIndex := 108, attributes := #[] }, { accessFlags := 26, nameIndex := 111, descriptorIndex := 18, attributes := #[] }, { accessFlags := 26, nameIndex := 112, descriptorIndex := 18, attributes := #[] }, { accessFlags := 18, nameIndex := 13, descriptorIndex := 14, attributes := #[] }, { accessFlags := 18, nameIndex := 17, descriptorIndex := 18, attributes := #[] }, { accessFlags := 18, nameIndex := 21, descriptorIndex := 22, attributes := #[] }, { accessFlags := 18, nameIndex := 43, descriptorIndex := 22, attributes := #[] }, { accessFlags := 18, nameIndex := 46, descriptorIndex := 50, attributes := #[] }])
  fields := #[{ name := "ROUNDINGS", type := .int, accessFlags := 26, slot := 0, constantValue := 0 }, { name := "PER_ROUNDING", type := .double, accessFlags := 26, slot := 1, constantValue := 0 }, { name := "DIVISION", type := .double, accessFlags := 26, slot := 2, constantValue := 0 }, { name := "graph", type := (.object "com/example/caudal/caudal/Graph"), accessFlags := 18, slot := 0, constantValue := 0 }, { name := "damping", type := .double, accessFlags := 18, slot := 1, constantValue := 0 }, { name := "preference", type := (.object "com/example/caudal/caudal/Preference"), accessFlags := 18, slot := 2, constantValue := 0 }, { name := "spread", type := (.object "com/example/caudal/caudal/Preference"), accessFlags := 18, slot := 3, constantValue := 0 }, { name := "inDegrees", type := (.array .int), accessFlags := 18, slot := 4, constantValue := 0 }]
  methods := #[k2m0]
  instanceTypes := #[(.object "com/example/caudal/caudal/Graph"), .double, (.object "com/example/caudal/caudal/Preference"), (.object "com/example/caudal/caudal/Preference"), (.array .int)]
  staticTypes := #[.int, .double, .double]
  resolved := Array.replicate 136 none
  statics := none }

def pool3 : Array CpInfo := pool [(1, u "java/lang/Cloneable"), (0, .class_ 1), (0, u "java/lang/Object"), (0, .class_ 3)] 3

/-- java/lang/Cloneable -/
def k3 : Class := { plain "java/lang/Cloneable" (some 0) with
  accessFlags := 1537
  interfaces := #[]
  cf := some (fileOf pool3 2 #[] #[] 1537 4 #[] #[])
  fields := #[]
  methods := #[]
  instanceTypes := #[]
  staticTypes := #[]
  resolved := Array.replicate 8 none
  statics := none }

def pool4 : Array CpInfo := pool [(1, u "java/io/Serializable"), (0, .class_ 1), (0, u "java/lang/Object"), (0, .class_ 3)] 3

/-- java/io/Serializable -/
def k4 : Class := { plain "java/io/Serializable" (some 0) with
  accessFlags := 1537
  interfaces := #[]
  cf := some (fileOf pool4 2 #[] #[] 1537 4 #[] #[])
  fields := #[]
  methods := #[]
  instanceTypes := #[]
  staticTypes := #[]
  resolved := Array.replicate 8 none
  statics := none }

/-- the primitive byte -/
def k5 : Class := { plain "byte" none with kind := .primitive 'B', accessFlags := 0x411 }
/-- [B -/
def k6 : Class := { plain "[B" (some 0) with kind := .array 5 .byte, interfaces := #[3, 4], accessFlags := 1041 }

/-- the primitive int -/
def k7 : Class := { plain "int" none with kind := .primitive 'I', accessFlags := 0x411 }
/-- [I -/
def k8 : Class := { plain "[I" (some 0) with kind := .array 7 .int, interfaces := #[3, 4], accessFlags := 1041 }

/-- the primitive double -/
def k9 : Class := { plain "double" none with kind := .primitive 'D', accessFlags := 0x411 }
/-- [D -/
def k10 : Class := { plain "[D" (some 0) with kind := .array 9 .double, interfaces := #[3, 4], accessFlags := 1041 }

def heap : Heap := #[]
def classes : Array Class := #[k0, k1, k2, k3, k4, k5, k6, k7, k8, k9, k10]
def interned : List (Array UInt16 × Addr) := []
def slotsUsed : Nat := 0
def theMethod : MethodId := ⟨1, 1⟩
def args0 : Array Value := #[.int 1, .int 2, .int 3, .int 4, .int 5, .int 6]
def aboutOver (below : List Frame) : State where
  vm := { classes := classes, interned := interned.toArray }
  heap := heap
  slotsUsed := slotsUsed
  threads := #[{ frames := .invoking theMethod args0 :: below }]
def below0 : List Frame := [.native { method := ⟨0, 0⟩, args := #[] }]
def about1 : State := aboutOver below0
def p0 : Program := .bare "" "" ""
def e0 : Env := launch0.env 0 0 0
theorem w_frames : about1.frames = Frame.invoking theMethod args0 :: below0 := rfl
set_option maxRecDepth 65536 in
theorem w_args : argsFit about1.vm theMethod args0 = true := by decide +kernel
set_option maxRecDepth 65536 in
theorem w_heap : heapFits about1 = true := by decide +kernel
set_option maxRecDepth 65536 in
theorem w_runnable : about1.curStatus? = some .runnable := by decide +kernel
set_option maxRecDepth 65536 in
theorem w_alone : about1.alone = true := by decide +kernel
set_option maxRecDepth 65536 in
theorem w_named : about1.methodNamed? x = some theMethod := by decide +kernel
set_option maxRecDepth 65536 in
theorem w_hears : about1.hears theMethod below0 = true := by decide +kernel
set_option maxRecDepth 65536 in
theorem w_ripe : about1.ripe theMethod args0 below0 = true := by decide +kernel
theorem w_running : about1.status = .running := rfl
set_option maxRecDepth 65536 in
theorem w_room : about1.hasRoom e0.platform room_1 = true :=
  launch0.hasRoom_least _ room_1 (by decide +kernel) (by decide +kernel) (by decide +kernel) (by decide +kernel) (by decide +kernel) (by decide +kernel)
theorem allAtoms_all (ts : List Jvm.Cond) (a : Array Jvm.Value) (st : Jvm.State) : (allAtoms ts).before a st = ts.all (fun c => c.before a st) := by
  induction ts with
  | nil => rfl
  | cons c t ih =>
    show (Jvm.Cond.and c (allAtoms t)).before a st = _
    rw [Jvm.Cond.before_and, ih, List.all_cons]
def words1 : List Jvm.Cond := Jvm.Cond.code x code maxLocals ret :: tables_1
/-- a 'code' word, met by the world's own term for the bytes: nothing is compared byte by byte -/
theorem code_word {y : MethodName} {bytes : ByteArray} {mx : Nat} {rt : Option FieldType} {a : Array Value} {s : State} {m : MethodId} {meth : Method} {c : Code} (h1 : s.methodNamed? y = some m) (h2 : s.vm.method? m = some meth) (h3 : meth.code = some c) (h4 : c.code = bytes)
    (h5 : (c.maxLocals == mx && c.exceptionTable.isEmpty && decide (c.maxStack ≤ mostOperands) && decide (meth.sig.returnType = rt) && !meth.locks && decide (parseMethodDescriptor y.desc = some meth.sig)) = true) : (Jvm.Cond.code y bytes mx rt).before a s = true := by
  simp only [Bool.and_eq_true, beq_iff_eq, Bool.not_eq_true', decide_eq_true_eq] at h5
  obtain ⟨⟨⟨⟨⟨g1, g2⟩, g3⟩, g4⟩, g5⟩, g6⟩ := h5
  simp [Cond.before, Cond.holds, Cond.value, h1, h2, h3, h4, g1, g2, g3, g4, g5, g6]
def isCode : Jvm.Cond → Bool
  | .code _ _ _ _ => true
  | _ => false
theorem all_split {L : List Jvm.Cond} {P : Jvm.Cond → Bool} (h1 : L.all (fun c => isCode c || P c) = true) (h2 : ∀ c ∈ L.filter isCode, P c = true) : L.all P = true := by
  refine List.all_eq_true.mpr fun c hc => ?_
  have h := List.all_eq_true.mp h1 c hc
  rcases Bool.eq_false_or_eq_true (isCode c) with hi | hi
  · exact h2 c (List.mem_filter.mpr ⟨hc, hi⟩)
  · simpa [hi] using h
set_option maxRecDepth 65536 in
theorem w_c0 : (Jvm.Cond.code x code maxLocals ret).before args0 about1 = true := code_word (m := ⟨1, 1⟩) (meth := k1m1) (c := k1c1) (by decide +kernel) rfl rfl rfl (by decide +kernel)
set_option maxRecDepth 65536 in
theorem w_c1 : (Jvm.Cond.code ({ cls := "com/example/caudal/caudal/Sweep", name := "normalise", desc := "([DD)V" } : Jvm.MethodName) prog_22_method_8_code (4 : Nat) (Option.none : Option Jvm.ClassFile.FieldType)).before args0 about1 = true := code_word (m := ⟨2, 0⟩) (meth := k2m0) (c := k2c0) (by decide +kernel) rfl rfl rfl (by decide +kernel)
def codes1 : List Jvm.Cond := [Jvm.Cond.code x code maxLocals ret, Jvm.Cond.code ({ cls := "com/example/caudal/caudal/Sweep", name := "normalise", desc := "([DD)V" } : Jvm.MethodName) prog_22_method_8_code (4 : Nat) (Option.none : Option Jvm.ClassFile.FieldType)]
set_option maxRecDepth 65536 in
theorem codes_eq : words1.filter isCode = codes1 := rfl
theorem w_codes : ∀ c ∈ words1.filter isCode, c.before args0 about1 = true := by
  rw [codes_eq]
  intro c hc
  simp only [codes1, List.mem_cons, List.not_mem_nil, or_false] at hc
  rcases hc with rfl | rfl
  · exact w_c0
  · exact w_c1
set_option maxRecDepth 65536 in
theorem w_t1 : words1.all (fun c => isCode c || c.before args0 about1) = true := by decide +kernel
theorem w_tables : (allAtoms (Jvm.Cond.code x code maxLocals ret :: tables_1)).before args0 about1 = true := by
  rw [allAtoms_all]
  show words1.all (fun c => c.before args0 about1) = true
  refine all_split ?_ w_codes
  rw [w_t1]
set_option maxRecDepth 65536 in
theorem w_case : (Jvm.Cond.and given_1 narrow_1).before args0 about1 = true := by decide +kernel
theorem w_applies : (headSpec (Jvm.Cond.code x code maxLocals ret :: tables_1) room_1).applies x e0.platform about1 = true :=
  (Spec.applies_iff w_frames).mpr ⟨w_running, w_runnable, w_alone, w_named, w_hears, w_ripe, w_room, w_tables⟩
theorem atStart : AtStart classFile x code maxLocals ret World_1 tables_1 room_1 Calls_1 rest_1 Pre_1 launch0 p0 e0 about1 theMethod args0 below0 :=
  ⟨lists_1, trivial, launch0.admits_env _ _ _, launch0.least_env, fairChoices_fair.cas, fairChoices_fair.clock, w_frames, w_args, w_heap, w_applies, trivial, trivial, w_case⟩
end start1
theorem witness_1 : WitnessClaimed_1 := ⟨start1.p0, start1.e0, start1.about1, start1.theMethod, start1.args0, start1.below0, start1.atStart⟩
end Jvm.Pilot.@@N@@
