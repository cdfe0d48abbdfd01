import JvmDerived
import JvmDerived.Pilot.@@N@@Statement
import JvmDerived.Pilot.@@N@@Code
set_option linter.unusedVariables false
set_option linter.unusedSimpArgs false
namespace Jvm.RoadKit
open Sem ClassFile Op Lib Jvm.Stand Jvm.Free Jvm.LawKit
section New
variable {p : Program} {l : Launch} {e : Env} {R : Room} {s : State} {m : MethodId} {args : Array Value} {below : List Frame} {meth : Method} {c : Code} {T : State} {locs : List Loc} {cells slots : Nat}
theorem retI (X : Stand p l e R s m args below meth c T locs cells slots) (hx : p.tables.exec = Jvm.exec) {pc : Nat} {Ls : Array Slot} {z : Int32} {rest : List Value} (hret : meth.sig.returnType = some .int) (hd : decode c.code pc = .ok (.ireturn, 1)) {fs : List Frame}
    (hl : ∀ (f : JFrame) (acts : List Action), f.method = m → f.locked = none → f.entered = [] → (doReturn e (T.setTop f) acts (some (.int z))).1 = T.setFrames fs) : Steps p.tables e below (T.setTop (mkF m pc Ls (.int z :: rest))) (T.setFrames fs) := by
  have hm' : T.vm.method? m = some meth := X.method'
  have hn : narrow .int (.int z) = .int z := rfl
  show Steps p.tables e below (T.setTop { method := m, pc := pc, locals := Ls, stack := _ :: rest, locked := none }) _
  jvm_step X.here [X.here.top, hx, hd, hm', hret, hn]
  first | (intro acts; rw [hl _ acts rfl rfl rfl]) | rw [hl _ _ rfl rfl rfl]
  exact Steps.refl _
end New
end Jvm.RoadKit
@@BLOCK:NumsL.lean.txt@@
namespace Jvm.Pilot.@@N@@
open Jvm Jvm.ClassFile Sem Op Lib Jvm.Free Jvm.Stand Jvm.LawKit Jvm.RoadKit Bundle Jvm.Pilot.@@N@@.Jvm.D
/-! own: an array by its places -/
def own_A (Z : State) (h : Heap) (a : Addr) (ty : FieldType) (N : Nat) (f : Nat → Value) : Prop := ∃ c : Cell, Arr Z h a c ty ∧ c.slots.size = N ∧ ∀ j, j < N → c.slots[j]? = some (f j)
def own_set (f : Nat → Value) (j : Nat) (v : Value) : Nat → Value := fun i => if i = j then v else f i
section OwnArr
variable {Z : State} {h h' : Heap} {a b : Addr} {ty : FieldType} {N : Nat} {f g : Nat → Value}
theorem own_A.ext (A : own_A Z h a ty N f) (E : Ext h h') : own_A Z h' a ty N f := by obtain ⟨c, x, r⟩ := A; exact ⟨c, x.ext E, r⟩
theorem own_A.other {sl : Nat} {v : Value} (A : own_A Z h b ty N f) (W : Wr h h' a sl v) (q : b ≠ a) : own_A Z h' b ty N f := by obtain ⟨c, x, r⟩ := A; exact ⟨c, x.other W q, r⟩
theorem own_A.keep {ws : List Addr} (A : own_A Z h a ty N f) (K : Keep h h' ws) (q : a ∉ ws) : own_A Z h' a ty N f := by obtain ⟨c, x, r⟩ := A; exact ⟨c, ⟨K.2.1 a c x.1 q, x.2⟩, r⟩
theorem own_A.lt (A : own_A Z h a ty N f) : a < h.size := by obtain ⟨c, x, -⟩ := A; exact x.lt
theorem own_A.congr (A : own_A Z h a ty N f) (q : ∀ j, j < N → f j = g j) : own_A Z h a ty N g := by obtain ⟨c, x, s, H⟩ := A; exact ⟨c, x, s, fun j hj => by rw [H j hj, q j hj]⟩
theorem own_A.new {k : ClassId} {z : Int32} (x : Arr Z h a (newA k ty z) ty) (hz : z.toNatClampNeg = N) : own_A Z h a ty N (fun _ => defaultValue ty) := ⟨_, x, by rw [sz_new]; exact hz, fun j hj => by rw [← hz] at hj; simp [newA, hj]⟩
theorem own_A.set {n : Nat} {v : Value} (A : own_A Z h a ty N f) (W : Wr h h' a n v) (hn : n < N) : own_A Z h' a ty N (own_set f n v) := by
  obtain ⟨c, x, s, H⟩ := A
  refine ⟨_, x.same W, by rw [sz_set]; exact s, fun j hj => ?_⟩
  show (c.slots.setIfInBounds n v)[j]? = _
  by_cases q : j = n
  · subst q; simp [own_set, s, hn]
  · rw [Array.getElem?_setIfInBounds_ne (fun z => q z.symm), H j hj, own_set, if_neg q]
theorem own_natC (n : Nat) (hn : n < 2 ^ 31) : (Int32.ofNat n).toNatClampNeg = n := by
  rw [Int32.toNatClampNeg, Int32.toInt_ofNat_of_lt hn]; rfl
theorem own_in {c : Cell} {n : Nat} (s : c.slots.size = N) (hn : n < N) (hN : N < 2 ^ 31) : ¬ (Int32.ofNat n < 0 ∨ c.slots.size ≤ (Int32.ofNat n).toNatClampNeg) := by
  rw [own_natC n (by omega), s, Int32.lt_iff_toInt_lt, Int32.toInt_ofNat_of_lt (by omega)]
  simp only [Int32.toInt_zero]
  omega
end OwnArr
/-! own: what the bodies compute -/
def own_ush (x : Int64) (y : Int32) : Int64 := (x.toUInt64 >>> (y &&& 0x3f).toInt64.toUInt64).toInt64
def own_byte (x : Int32) : Int32 := x.toInt8.toInt32
def own_seti (f : Nat → Int32) (j : Nat) (v : Int32) : Nat → Int32 := fun i => if i = j then v else f i
def own_last (r : Int64) : Int32 := own_byte r.toInt32
def own_more (r : Int64) : Int32 := own_byte ((r &&& 127) ||| 128).toInt32
def own_put : Nat → (Nat → Int32) → Nat → Int64 → (Nat → Int32) × Nat
  | 0, f, a, r => (own_seti f a (own_last r), a + 1)
  | k + 1, f, a, r => if r &&& (-128) = 0 then (own_seti f a (own_last r), a + 1) else own_put k (own_seti f a (own_more r)) (a + 1) (own_ush r 7)
def own_fit : Nat → Int64 → Prop
  | 0, r => r &&& (-128) = 0
  | k + 1, r => own_fit k (own_ush r 7)
def own_ne (q : Int64) (t : Nat) : Int32 := if lcmpW (own_ush q (Int32.ofNat (7 * t))) 0 = 0 then 0 else 1
def own_len (q : Int64) : Nat → Int32
  | 0 => 1
  | t + 1 => own_len q t + own_ne q (t + 1)
def own_low (q : Int64) (i : Int32) : Int32 := ((own_ush q ((7 : Int32) * i)) &&& 127).toInt32
def own_at (f : Nat → Int32) (j : Nat) (off n : Int32) (q : Int64) (fl : Int32) : Int32 :=
  if Int32.ofNat j - off < 0 then (if f j = fl then 1 else 0)
  else if ¬ Int32.ofNat j - off < n then (if f j = fl then 1 else 0)
  else if ¬ Int32.ofNat j - off < n - 1 then (if f j = own_byte (own_low q (Int32.ofNat j - off)) then 1 else 0)
  else (if f j = own_byte (own_low q (Int32.ofNat j - off) ||| 128) then 1 else 0)
/-! own: the shifts, in bits -/
theorem own_shift (n : Fin 64) : ((Int32.ofNat n.val &&& 0x3f).toInt64.toUInt64).toBitVec % 64 = BitVec.ofNat 64 n.val := by
  revert n; decide +kernel
theorem own_ushBv (x : Int64) (n : Nat) (hn : n < 64) : (own_ush x (Int32.ofNat n)).toBitVec = x.toBitVec >>> n := by
  show (x.toUInt64 >>> (Int32.ofNat n &&& 0x3f).toInt64.toUInt64).toBitVec = _
  rw [UInt64.toBitVec_shiftRight, own_shift ⟨n, hn⟩]
  show x.toBitVec >>> (BitVec.ofNat 64 n) = _
  rw [BitVec.ushiftRight_eq', BitVec.toNat_ofNat, Nat.mod_eq_of_lt (by omega)]
def own_r (q : Int64) (t : Nat) : Int64 := own_ush q (Int32.ofNat (7 * t))
theorem own_r0 (q : Int64) : own_r q 0 = q := by
  apply Int64.toBitVec_inj.mp
  rw [own_r, own_ushBv _ _ (by omega)]; simp
theorem own_rs (q : Int64) (t : Nat) (ht : t < 9) : own_ush (own_r q t) 7 = own_r q (t + 1) := by
  apply Int64.toBitVec_inj.mp
  have e : own_ush (own_r q t) 7 = own_ush (own_r q t) (Int32.ofNat 7) := rfl
  rw [e, own_ushBv _ 7 (by omega), own_r, own_r, own_ushBv _ _ (by omega), own_ushBv _ _ (by omega), ← BitVec.shiftRight_add]
  congr 1
theorem own_hi (r : Int64) : (r &&& (-128) = 0) ↔ own_ush r 7 = 0 := by
  have e : own_ush r 7 = own_ush r (Int32.ofNat 7) := rfl
  rw [← Int64.toBitVec_inj, ← Int64.toBitVec_inj, e, own_ushBv _ 7 (by omega), Int64.toBitVec_and]
  show r.toBitVec &&& (-128 : Int64).toBitVec = 0#64 ↔ r.toBitVec >>> 7 = 0#64
  generalize r.toBitVec = x
  have m : ∀ i : Fin 64, (-128 : Int64).toBitVec.getLsbD i.val = decide (7 ≤ i.val) := by decide +kernel
  constructor
  · intro h
    apply BitVec.eq_of_getLsbD_eq
    intro i hi
    rw [BitVec.getLsbD_ushiftRight]
    by_cases q : 7 + i < 64
    · have h1 := congrArg (fun z => BitVec.getLsbD z (7 + i)) h
      simp only [BitVec.getLsbD_and, m ⟨7 + i, q⟩] at h1
      simpa using h1
    · rw [BitVec.getLsbD_of_ge _ _ (by omega)]; simp
  · intro h
    apply BitVec.eq_of_getLsbD_eq
    intro i hi
    rw [BitVec.getLsbD_and, m ⟨i, hi⟩]
    by_cases q : 7 ≤ i
    · have h1 := congrArg (fun z => BitVec.getLsbD z (i - 7)) h
      rw [BitVec.getLsbD_ushiftRight, show 7 + (i - 7) = i by omega] at h1
      rw [h1]; simp
    · simp [q]
theorem own_nine (q : Int64) : own_r q 9 &&& (-128) = 0 := by
  rw [own_hi]
  apply Int64.toBitVec_inj.mp
  have e : own_ush (own_r q 9) 7 = own_ush (own_r q 9) (Int32.ofNat 7) := rfl
  rw [e, own_ushBv _ 7 (by omega), own_r, own_ushBv _ _ (by omega), ← BitVec.shiftRight_add]
  exact BitVec.ushiftRight_eq_zero (by omega)
theorem own_mono (q : Int64) (t : Nat) (ht : t < 9) (h : own_r q t = 0) : own_r q (t + 1) = 0 := by
  rw [← own_rs q t ht, h]; rfl
theorem own_fit9 (q : Int64) : ∀ k t, t + k = 9 → own_fit k (own_r q t) := by
  intro k
  induction k with
  | zero => intro t ht; have : t = 9 := by omega
            subst this; exact own_nine q
  | succ k ih => intro t ht; show own_fit k (own_ush (own_r q t) 7); rw [own_rs q t (by omega)]; exact ih (t + 1) (by omega)
/-! own: the number of digits -/
theorem own_digits (q : Int64) : ∀ m, m ≤ 9 → ∃ d, d ≤ m ∧ (∀ t, 1 ≤ t → t ≤ d → own_r q t ≠ 0) ∧ (∀ t, d < t → t ≤ m → own_r q t = 0) := by
  intro m
  induction m with
  | zero => intro _; exact ⟨0, by omega, fun t h1 h2 => by omega, fun t h1 h2 => by omega⟩
  | succ m ih =>
    intro hm
    obtain ⟨d, hd, h1, h2⟩ := ih (by omega)
    by_cases z : own_r q (m + 1) = 0
    · refine ⟨d, by omega, h1, fun t a b => ?_⟩
      by_cases e : t = m + 1
      · subst e; exact z
      · exact h2 t a (by omega)
    · by_cases e : d = m
      · subst e
        refine ⟨d + 1, by omega, fun t a b => ?_, fun t a b => by omega⟩
        by_cases e : t = d + 1
        · subst e; exact z
        · exact h1 t a (by omega)
      · exact absurd (own_mono q m (by omega) (h2 m (by omega) (by omega))) z
theorem own_ne_eq (q : Int64) (t : Nat) : own_ne q t = if own_r q t = 0 then 0 else 1 := by
  unfold own_ne own_r
  by_cases h : own_ush q (Int32.ofNat (7 * t)) = 0
  · rw [if_pos h, if_pos ((lw_eq _ _).2 h)]
  · rw [if_neg h, if_neg (fun z => h ((lw_eq _ _).1 z))]
theorem own_len_eq (q : Int64) (d : Nat) (hd : d ≤ 9) (h1 : ∀ t, 1 ≤ t → t ≤ d → own_r q t ≠ 0) (h2 : ∀ t, d < t → t ≤ 9 → own_r q t = 0) : ∀ t, t ≤ 9 → own_len q t = Int32.ofNat ((if t ≤ d then t else d) + 1) := by
  intro t
  induction t with
  | zero => intro _; rfl
  | succ t ih =>
    intro ht
    rw [own_len, ih (by omega), own_ne_eq]
    by_cases z : t + 1 ≤ d
    · rw [if_neg (h1 (t + 1) (by omega) z), if_pos z, if_pos (by omega)]
      exact Int32.ofNat_succ _
    · rw [if_pos (h2 (t + 1) (by omega) ht), if_neg z, Int32.add_zero]
      congr 2
      by_cases y : t ≤ d
      · rw [if_pos y]; omega
      · rw [if_neg y]
theorem own_put_eq (q : Int64) : ∀ d k t (f : Nat → Int32) (a : Nat), t + d ≤ 9 → d ≤ k → (∀ s, t ≤ s → s < t + d → own_r q s &&& (-128) ≠ 0) → own_r q (t + d) &&& (-128) = 0 →
    (own_put k f a (own_r q t)).2 = a + d + 1 ∧ ∀ j, (own_put k f a (own_r q t)).1 j = if a ≤ j ∧ j < a + d then own_more (own_r q (t + (j - a))) else if j = a + d then own_last (own_r q (t + d)) else f j := by
  intro d
  induction d with
  | zero =>
    intro k t f a ht hk h1 h2
    rw [Nat.add_zero] at h2
    have e : own_put k f a (own_r q t) = (own_seti f a (own_last (own_r q t)), a + 1) := by
      cases k with
      | zero => rfl
      | succ k => rw [own_put, if_pos h2]
    rw [e]
    refine ⟨rfl, fun j => ?_⟩
    show own_seti f a (own_last (own_r q t)) j = _
    rw [if_neg (by omega), own_seti]
    rfl
  | succ d ih =>
    intro k t f a ht hk h1 h2
    cases k with
    | zero => omega
    | succ k =>
      have e : own_put (k + 1) f a (own_r q t) = own_put k (own_seti f a (own_more (own_r q t))) (a + 1) (own_r q (t + 1)) := by
        rw [own_put, if_neg (h1 t (by omega) (by omega)), own_rs q t (by omega)]
      rw [e]
      obtain ⟨g1, g2⟩ := ih k (t + 1) (own_seti f a (own_more (own_r q t))) (a + 1) (by omega) (by omega) (fun s a b => h1 s (by omega) (by omega)) (by rw [show t + 1 + d = t + (d + 1) by omega]; exact h2)
      refine ⟨by rw [g1]; omega, fun j => ?_⟩
      rw [g2]
      by_cases c1 : a + 1 ≤ j ∧ j < a + 1 + d
      · rw [if_pos c1, if_pos (by omega), show t + 1 + (j - (a + 1)) = t + (j - a) by omega]
      · rw [if_neg c1]
        by_cases c2 : j = a + 1 + d
        · rw [if_pos c2, if_neg (by omega), if_pos (by omega), show t + 1 + d = t + (d + 1) by omega]
        · rw [if_neg c2, own_seti]
          by_cases c3 : j = a
          · rw [if_pos c3, if_pos (by omega), c3, Nat.sub_self, Nat.add_zero]
          · rw [if_neg c3, if_neg (by omega), if_neg (by omega)]
theorem own_7i (t : Fin 10) : (7 : Int32) * Int32.ofNat t.val = Int32.ofNat (7 * t.val) := by revert t; decide +kernel
theorem own_sub (j o : Fin 13) (h : o.val ≤ j.val) : Int32.ofNat j.val - Int32.ofNat o.val = Int32.ofNat (j.val - o.val) := by revert j o; decide +kernel
theorem own_sub0 (j o : Fin 13) : (Int32.ofNat j.val - Int32.ofNat o.val < 0) ↔ j.val < o.val := by revert j o; decide +kernel
theorem own_lt (j d : Fin 16) : (Int32.ofNat j.val < Int32.ofNat d.val) ↔ j.val < d.val := by revert j d; decide +kernel
theorem own_dec (d : Fin 10) : Int32.ofNat (d.val + 1) - 1 = Int32.ofNat d.val := by revert d; decide +kernel
theorem own_orl (x : Int64) : ((x &&& 127) ||| 128).toInt32 = (x &&& 127).toInt32 ||| 128 := by
  rw [Int64.toInt32_or]; rfl
theorem own_and127 (r : Int64) (h : r &&& (-128) = 0) : r &&& 127 = r := by
  have e : r = (r &&& (-128)) ||| (r &&& 127) := by
    apply Int64.toBitVec_inj.mp
    rw [Int64.toBitVec_or, Int64.toBitVec_and, Int64.toBitVec_and, ← BitVec.and_or_distrib_left, show (-128 : Int64).toBitVec ||| (127 : Int64).toBitVec = BitVec.allOnes 64 by decide, BitVec.and_allOnes]
  rw [h, Int64.zero_or] at e
  exact e.symm
theorem own_law (q : Int64) (o : Nat) (ho : o < 3) (fl : Int32) : Int32.ofNat (own_put 9 (fun _ => fl) o q).2 = Int32.ofNat o + own_len q 9 ∧ ∀ j, j < 13 → own_at (own_put 9 (fun _ => fl) o q).1 j (Int32.ofNat o) (own_len q 9) q fl = 1 := by
  obtain ⟨d, hd, h1, h2⟩ := own_digits q 9 (Nat.le_refl _)
  have hn : own_len q 9 = Int32.ofNat (d + 1) := by
    rw [own_len_eq q d hd h1 h2 9 (Nat.le_refl _)]
    congr 2
    by_cases y : 9 ≤ d
    · rw [if_pos y]; omega
    · rw [if_neg y]
  have hhi : own_r q d &&& (-128) = 0 := by
    by_cases y : d = 9
    · subst y; exact own_nine q
    · rw [own_hi, own_rs q d (by omega)]; exact h2 (d + 1) (by omega) (by omega)
  have hlo : ∀ s, 0 ≤ s → s < 0 + d → own_r q s &&& (-128) ≠ 0 := fun s _ b => by
    rw [Ne, own_hi, own_rs q s (by omega)]; exact h1 (s + 1) (by omega) (by omega)
  obtain ⟨g1, g2⟩ := own_put_eq q d 9 0 (fun _ => fl) o (by omega) hd hlo (by rw [Nat.zero_add]; exact hhi)
  rw [own_r0] at g1 g2
  refine ⟨by rw [g1, hn, Nat.add_assoc]; exact (Int32.ofNat_add _ _), fun j hj => ?_⟩
  have gj := g2 j
  generalize (own_put 9 (fun _ => fl) o q).1 = F at *
  rw [hn, own_at]
  by_cases c0 : j < o
  · rw [if_neg (by omega), if_neg (by omega)] at gj
    rw [if_pos ((own_sub0 ⟨j, hj⟩ ⟨o, by omega⟩).2 c0), gj, if_pos rfl]
  · rw [if_neg (fun z => c0 ((own_sub0 ⟨j, hj⟩ ⟨o, by omega⟩).1 z)), own_sub ⟨j, hj⟩ ⟨o, by omega⟩ (by simp only []; omega)]
    simp only []
    by_cases c1 : j - o < d + 1
    · rw [if_neg (fun z => z ((own_lt ⟨j - o, by omega⟩ ⟨d + 1, by omega⟩).2 c1)), own_dec ⟨d, by omega⟩]
      have hlow : own_low q (Int32.ofNat (j - o)) = (own_r q (j - o) &&& 127).toInt32 := by
        rw [own_low, own_7i ⟨j - o, by omega⟩]; rfl
      rw [hlow]
      by_cases c2 : j - o < d
      · rw [if_pos (by omega), Nat.zero_add, own_more, own_orl] at gj
        rw [if_neg (fun z => z ((own_lt ⟨j - o, by omega⟩ ⟨d, by omega⟩).2 c2)), gj, if_pos rfl]
      · rw [if_neg (by omega), if_pos (by omega), Nat.zero_add, own_last] at gj
        rw [if_pos (fun z => c2 ((own_lt ⟨j - o, by omega⟩ ⟨d, by omega⟩).1 z)), gj, show j - o = d by omega, own_and127 _ hhi, if_pos rfl]
    · rw [if_neg (by omega), if_neg (by omega)] at gj
      rw [if_pos (fun z => c1 ((own_lt ⟨j - o, by omega⟩ ⟨d + 1, by omega⟩).1 z)), gj, if_pos rfl]
def own_B (Z : State) (h : Heap) (a : Addr) (f : Nat → Int32) : Prop := own_A Z h a .byte 13 (fun j => .int (f j))
theorem own_nb (x : Int32) : nar .byte (own_byte x) = own_byte x := by show (x.toInt8.toInt32).toInt8.toInt32 = x.toInt8.toInt32; simp
theorem own_B.store {Z : State} {h h' : Heap} {a : Addr} {f : Nat → Int32} {n : Nat} {x v : Int32} (A : own_B Z h a f) (W : Wr h h' a (Int32.ofNat n).toNatClampNeg (.int (nar .byte x))) (hn : n < 13) (hv : nar .byte x = v) : own_B Z h' a (own_seti f n v) := by
  rw [own_natC n (by omega), hv] at W
  refine (own_A.set A W hn).congr fun j hj => ?_
  show (if j = n then _ else _) = Value.int (if j = n then _ else _)
  by_cases q : j = n
  · rw [if_pos q, if_pos q]
  · rw [if_neg q, if_neg q]
theorem own_up (n : Nat) : Int32.ofNat n + 1 = Int32.ofNat (n + 1) := Int32.ofNat_succ n
theorem d1_0 : decode prog_86_method_8_code 0 = .ok (.iload_n 1, 1) := by decide +kernel
theorem d1_1 : decode prog_86_method_8_code 1 = .ok (.istore 4, 2) := by decide +kernel
theorem d1_3 : decode prog_86_method_8_code 3 = .ok (.lload_n 2, 1) := by decide +kernel
theorem d1_4 : decode prog_86_method_8_code 4 = .ok (.lstore 5, 2) := by decide +kernel
theorem d1_6 : decode prog_86_method_8_code 6 = .ok (.lload 5, 2) := by decide +kernel
theorem d1_8 : decode prog_86_method_8_code 8 = .ok (.ldc2_w 110, 3) := by decide +kernel
theorem d1_11 : decode prog_86_method_8_code 11 = .ok (.land, 1) := by decide +kernel
theorem d1_12 : decode prog_86_method_8_code 12 = .ok (.lconst 0, 1) := by decide +kernel
theorem d1_13 : decode prog_86_method_8_code 13 = .ok (.lcmp, 1) := by decide +kernel
theorem d1_14 : decode prog_86_method_8_code 14 = .ok (.ifCond .eq 32, 3) := by decide +kernel
theorem d1_17 : decode prog_86_method_8_code 17 = .ok (.aload_n 0, 1) := by decide +kernel
theorem d1_18 : decode prog_86_method_8_code 18 = .ok (.iload 4, 2) := by decide +kernel
theorem d1_20 : decode prog_86_method_8_code 20 = .ok (.iinc 4 1, 3) := by decide +kernel
theorem d1_23 : decode prog_86_method_8_code 23 = .ok (.lload 5, 2) := by decide +kernel
theorem d1_25 : decode prog_86_method_8_code 25 = .ok (.ldc2_w 112, 3) := by decide +kernel
theorem d1_28 : decode prog_86_method_8_code 28 = .ok (.land, 1) := by decide +kernel
theorem d1_29 : decode prog_86_method_8_code 29 = .ok (.ldc2_w 114, 3) := by decide +kernel
theorem d1_32 : decode prog_86_method_8_code 32 = .ok (.lor, 1) := by decide +kernel
theorem d1_33 : decode prog_86_method_8_code 33 = .ok (.l2i, 1) := by decide +kernel
theorem d1_34 : decode prog_86_method_8_code 34 = .ok (.i2b, 1) := by decide +kernel
theorem d1_35 : decode prog_86_method_8_code 35 = .ok (.bastore, 1) := by decide +kernel
theorem d1_36 : decode prog_86_method_8_code 36 = .ok (.lload 5, 2) := by decide +kernel
theorem d1_38 : decode prog_86_method_8_code 38 = .ok (.bipush 7, 2) := by decide +kernel
theorem d1_40 : decode prog_86_method_8_code 40 = .ok (.lushr, 1) := by decide +kernel
theorem d1_41 : decode prog_86_method_8_code 41 = .ok (.lstore 5, 2) := by decide +kernel
theorem d1_43 : decode prog_86_method_8_code 43 = .ok (.goto (-37), 3) := by decide +kernel
theorem d1_46 : decode prog_86_method_8_code 46 = .ok (.aload_n 0, 1) := by decide +kernel
theorem d1_47 : decode prog_86_method_8_code 47 = .ok (.iload 4, 2) := by decide +kernel
theorem d1_49 : decode prog_86_method_8_code 49 = .ok (.iinc 4 1, 3) := by decide +kernel
theorem d1_52 : decode prog_86_method_8_code 52 = .ok (.lload 5, 2) := by decide +kernel
theorem d1_54 : decode prog_86_method_8_code 54 = .ok (.l2i, 1) := by decide +kernel
theorem d1_55 : decode prog_86_method_8_code 55 = .ok (.i2b, 1) := by decide +kernel
theorem d1_56 : decode prog_86_method_8_code 56 = .ok (.bastore, 1) := by decide +kernel
theorem d1_57 : decode prog_86_method_8_code 57 = .ok (.iload 4, 2) := by decide +kernel
theorem d1_59 : decode prog_86_method_8_code 59 = .ok (.ireturn, 1) := by decide +kernel
theorem pn_1 : plainName "com/example/termweave/termweave/index/IndexFormat" = true := by first | (simp [plainName, overriddenIn]; done) | decide +kernel
theorem ef_1 (m : MethodId) (x0 : Addr) (x1 : Int32) (x2 : Int64) : entryFrame m #[(.ref x0), (.int x1), (.long x2)] 7 = mkF m 0 #[.val (.ref x0), .val (.int x1), .val (.long x2), .second, .unset, .unset, .unset] [] := by first | (simp [entryFrame, mkF, argsToLocals, Value.category]; done) | rfl
set_option maxRecDepth 65536 in
set_option maxHeartbeats 40000000 in
theorem own_turn {p : Program} {l : Launch} {e : Env} {R : Room} {s : State} {m : MethodId} {args : Array Value} {below : List Frame} {meth : Method} {c : Code} {T0 : State} {locs : List Loc} {cells slots : Nat} {Z : State} {a0 : Array Value} {n0 : Nat} {a1 : Addr} {off : Int32} {v : Int64} {f : Nat → Int32} {at_ : Nat} {r : Int64}
    (X0 : Stand p l e R s m args below meth c T0 locs cells slots) (hx : p.tables.exec = Jvm.exec) (hZ : Z.Warmed39 s.vm) (hw : ∀ d ∈ tables_1, d.before a0 Z = true) (hby : c.code = prog_86_method_8_code) (hown : s.vm.findClass "com/example/termweave/termweave/index/IndexFormat" = some m.cls) (N0 : Fr n0 locs) (Z0 : n0 ≤ T0.heap.size) (g_a1 : n0 ≤ a1) (A : own_B Z T0.heap a1 f) (hat : at_ < 13) (h : ¬ (r &&& (-128) = 0)) :
    ∃ (T' : State) (locs' : List Loc), Stand p l e R s m args below meth c T' locs' cells slots ∧ Fr n0 locs' ∧ n0 ≤ T'.heap.size ∧ own_B Z T'.heap a1 (own_seti f at_ (own_more r)) ∧
      ∀ target, Steps p.tables e below (T'.setTop (mkF m 6 #[.val (.ref a1), .val (.int off), .val (.long v), .second, .val (.int (Int32.ofNat (at_ + 1))), .val (.long (own_ush r 7)), .second] [])) target → Steps p.tables e below (T0.setTop (mkF m 6 #[.val (.ref a1), .val (.int off), .val (.long v), .second, .val (.int (Int32.ofNat at_)), .val (.long r), .second] [])) target := by
  obtain ⟨c1, Ar1, S1, H1⟩ := id A
  obtain ⟨T1, h1, X1, e1, W1, st1⟩ := stB X0 hx hZ rfl Ar1 (j := (Int32.ofNat at_)) (own_in S1 hat (by omega)) (g := (mkF m 35 #[.val (.ref a1), .val (.int off), .val (.long v), .second, .val (.int ((Int32.ofNat at_) + (1 : Int32))), .val (.long r), .second] [(.int ((((r &&& (127 : Int64)) ||| (128 : Int64)).toInt32).toInt8.toInt32)), (.int (Int32.ofNat at_)), (.ref a1)])) rfl rfl (hb hby d1_35)
  have B1 : own_B Z T1.heap a1 (own_seti f at_ (own_more r)) := by rw [e1]; exact own_B.store A W1 hat (own_nb _)
  refine ⟨T1, _, X1, Fr.snoc X1 N0 g_a1, by rw [e1]; exact Nat.le_trans Z0 (Keep.of_wr W1).1, B1, fun target kt => ?_⟩
  rw [← own_up] at kt
  show Steps p.tables e below (T0.setTop (mkF m 6 #[.val (.ref a1), .val (.int off), .val (.long v), .second, .val (.int (Int32.ofNat at_)), .val (.long r), .second] [])) _
  refine XS.lload X0.here hx rfl (hb hby d1_6) rfl ?_
  show Steps p.tables e below (T0.setTop (mkF m 8 #[.val (.ref a1), .val (.int off), .val (.long v), .second, .val (.int (Int32.ofNat at_)), .val (.long r), .second] [(.long r)])) _
  refine X0.ldc2Long hx hown (mvT hZ (hw _ (List.mem_of_getElem? (i := 6) rfl))) (g := (mkF m 8 #[.val (.ref a1), .val (.int off), .val (.long v), .second, .val (.int (Int32.ofNat at_)), .val (.long r), .second] [(.long r)])) rfl (hb hby d1_8) _ ?_
  show Steps p.tables e below (T0.setTop (mkF m 11 #[.val (.ref a1), .val (.int off), .val (.long v), .second, .val (.int (Int32.ofNat at_)), .val (.long r), .second] [(.long (-128 : Int64)), (.long r)])) _
  refine XS.land X0.here hx rfl (hb hby d1_11) rfl ?_
  show Steps p.tables e below (T0.setTop (mkF m 12 #[.val (.ref a1), .val (.int off), .val (.long v), .second, .val (.int (Int32.ofNat at_)), .val (.long r), .second] [(.long (r &&& (-128 : Int64)))])) _
  refine XS.lconst X0.here hx rfl (hb hby d1_12) ?_
  show Steps p.tables e below (T0.setTop (mkF m 13 #[.val (.ref a1), .val (.int off), .val (.long v), .second, .val (.int (Int32.ofNat at_)), .val (.long r), .second] [(.long (0 : Int64)), (.long (r &&& (-128 : Int64)))])) _
  refine XS.lcmp X0.here hx rfl (hb hby d1_13) rfl ?_
  show Steps p.tables e below (T0.setTop (mkF m 14 #[.val (.ref a1), .val (.int off), .val (.long v), .second, .val (.int (Int32.ofNat at_)), .val (.long r), .second] [(.int (lcmpW (r &&& (-128 : Int64)) (0 : Int64)))])) _
  refine XS.ifNo X0.here hx rfl (hb hby d1_14) rfl ((if0 _ _).trans (feq (fun z => h ((lw_eq _ _).1 z))).1) ?_
  show Steps p.tables e below (T0.setTop (mkF m 17 #[.val (.ref a1), .val (.int off), .val (.long v), .second, .val (.int (Int32.ofNat at_)), .val (.long r), .second] [])) _
  refine XS.aloadN X0.here hx rfl (hb hby d1_17) rfl rfl ?_
  show Steps p.tables e below (T0.setTop (mkF m 18 #[.val (.ref a1), .val (.int off), .val (.long v), .second, .val (.int (Int32.ofNat at_)), .val (.long r), .second] [(.ref a1)])) _
  refine XS.iload X0.here hx rfl (hb hby d1_18) rfl ?_
  show Steps p.tables e below (T0.setTop (mkF m 20 #[.val (.ref a1), .val (.int off), .val (.long v), .second, .val (.int (Int32.ofNat at_)), .val (.long r), .second] [(.int (Int32.ofNat at_)), (.ref a1)])) _
  refine XS.iinc X0.here hx rfl (hb hby d1_20) rfl (l' := #[.val (.ref a1), .val (.int off), .val (.long v), .second, .val (.int ((Int32.ofNat at_) + (1 : Int32))), .val (.long r), .second]) rfl ?_
  show Steps p.tables e below (T0.setTop (mkF m 23 #[.val (.ref a1), .val (.int off), .val (.long v), .second, .val (.int ((Int32.ofNat at_) + (1 : Int32))), .val (.long r), .second] [(.int (Int32.ofNat at_)), (.ref a1)])) _
  refine XS.lload X0.here hx rfl (hb hby d1_23) rfl ?_
  show Steps p.tables e below (T0.setTop (mkF m 25 #[.val (.ref a1), .val (.int off), .val (.long v), .second, .val (.int ((Int32.ofNat at_) + (1 : Int32))), .val (.long r), .second] [(.long r), (.int (Int32.ofNat at_)), (.ref a1)])) _
  refine X0.ldc2Long hx hown (mvT hZ (hw _ (List.mem_of_getElem? (i := 15) rfl))) (g := (mkF m 25 #[.val (.ref a1), .val (.int off), .val (.long v), .second, .val (.int ((Int32.ofNat at_) + (1 : Int32))), .val (.long r), .second] [(.long r), (.int (Int32.ofNat at_)), (.ref a1)])) rfl (hb hby d1_25) _ ?_
  show Steps p.tables e below (T0.setTop (mkF m 28 #[.val (.ref a1), .val (.int off), .val (.long v), .second, .val (.int ((Int32.ofNat at_) + (1 : Int32))), .val (.long r), .second] [(.long (127 : Int64)), (.long r), (.int (Int32.ofNat at_)), (.ref a1)])) _
  refine XS.land X0.here hx rfl (hb hby d1_28) rfl ?_
  show Steps p.tables e below (T0.setTop (mkF m 29 #[.val (.ref a1), .val (.int off), .val (.long v), .second, .val (.int ((Int32.ofNat at_) + (1 : Int32))), .val (.long r), .second] [(.long (r &&& (127 : Int64))), (.int (Int32.ofNat at_)), (.ref a1)])) _
  refine X0.ldc2Long hx hown (mvT hZ (hw _ (List.mem_of_getElem? (i := 16) rfl))) (g := (mkF m 29 #[.val (.ref a1), .val (.int off), .val (.long v), .second, .val (.int ((Int32.ofNat at_) + (1 : Int32))), .val (.long r), .second] [(.long (r &&& (127 : Int64))), (.int (Int32.ofNat at_)), (.ref a1)])) rfl (hb hby d1_29) _ ?_
  show Steps p.tables e below (T0.setTop (mkF m 32 #[.val (.ref a1), .val (.int off), .val (.long v), .second, .val (.int ((Int32.ofNat at_) + (1 : Int32))), .val (.long r), .second] [(.long (128 : Int64)), (.long (r &&& (127 : Int64))), (.int (Int32.ofNat at_)), (.ref a1)])) _
  refine XS.lor X0.here hx rfl (hb hby d1_32) rfl ?_
  show Steps p.tables e below (T0.setTop (mkF m 33 #[.val (.ref a1), .val (.int off), .val (.long v), .second, .val (.int ((Int32.ofNat at_) + (1 : Int32))), .val (.long r), .second] [(.long ((r &&& (127 : Int64)) ||| (128 : Int64))), (.int (Int32.ofNat at_)), (.ref a1)])) _
  refine XS.l2i X0.here hx rfl (hb hby d1_33) rfl ?_
  show Steps p.tables e below (T0.setTop (mkF m 34 #[.val (.ref a1), .val (.int off), .val (.long v), .second, .val (.int ((Int32.ofNat at_) + (1 : Int32))), .val (.long r), .second] [(.int (((r &&& (127 : Int64)) ||| (128 : Int64)).toInt32)), (.int (Int32.ofNat at_)), (.ref a1)])) _
  refine XS.i2b X0.here hx rfl (hb hby d1_34) rfl ?_
  show Steps p.tables e below (T0.setTop (mkF m 35 #[.val (.ref a1), .val (.int off), .val (.long v), .second, .val (.int ((Int32.ofNat at_) + (1 : Int32))), .val (.long r), .second] [(.int ((((r &&& (127 : Int64)) ||| (128 : Int64)).toInt32).toInt8.toInt32)), (.int (Int32.ofNat at_)), (.ref a1)])) _
  refine st1 _ ?_
  show Steps p.tables e below (T1.setTop (mkF m 36 #[.val (.ref a1), .val (.int off), .val (.long v), .second, .val (.int ((Int32.ofNat at_) + (1 : Int32))), .val (.long r), .second] [])) _
  refine XS.lload X1.here hx rfl (hb hby d1_36) rfl ?_
  show Steps p.tables e below (T1.setTop (mkF m 38 #[.val (.ref a1), .val (.int off), .val (.long v), .second, .val (.int ((Int32.ofNat at_) + (1 : Int32))), .val (.long r), .second] [(.long r)])) _
  refine XS.bipush X1.here hx rfl (hb hby d1_38) ?_
  show Steps p.tables e below (T1.setTop (mkF m 40 #[.val (.ref a1), .val (.int off), .val (.long v), .second, .val (.int ((Int32.ofNat at_) + (1 : Int32))), .val (.long r), .second] [(.int (7 : Int32)), (.long r)])) _
  refine XS.lushr X1.here hx rfl (hb hby d1_40) rfl ?_
  show Steps p.tables e below (T1.setTop (mkF m 41 #[.val (.ref a1), .val (.int off), .val (.long v), .second, .val (.int ((Int32.ofNat at_) + (1 : Int32))), .val (.long r), .second] [(.long ((r.toUInt64 >>> ((7 : Int32) &&& 0x3f).toInt64.toUInt64).toInt64))])) _
  refine XS.lstore X1.here hx rfl (hb hby d1_41) rfl (l' := #[.val (.ref a1), .val (.int off), .val (.long v), .second, .val (.int ((Int32.ofNat at_) + (1 : Int32))), .val (.long ((r.toUInt64 >>> ((7 : Int32) &&& 0x3f).toInt64.toUInt64).toInt64)), .second]) rfl ?_
  show Steps p.tables e below (T1.setTop (mkF m 43 #[.val (.ref a1), .val (.int off), .val (.long v), .second, .val (.int ((Int32.ofNat at_) + (1 : Int32))), .val (.long ((r.toUInt64 >>> ((7 : Int32) &&& 0x3f).toInt64.toUInt64).toInt64)), .second] [])) _
  refine XS.goto X1.here hx rfl (pc0 := 43) (pc' := 6) rfl (hb hby d1_43) (by decide) (by decide) ?_
  exact kt
set_option maxRecDepth 65536 in
set_option maxHeartbeats 40000000 in
theorem own_leave {p : Program} {l : Launch} {e : Env} {R : Room} {s : State} {m : MethodId} {args : Array Value} {below : List Frame} {meth : Method} {c : Code} {T0 : State} {locs : List Loc} {cells slots : Nat} {Z : State} {a0 : Array Value} {n0 : Nat} {a1 : Addr} {off : Int32} {v : Int64} {f : Nat → Int32} {at_ : Nat} {r : Int64}
    (X0 : Stand p l e R s m args below meth c T0 locs cells slots) (hx : p.tables.exec = Jvm.exec) (hZ : Z.Warmed39 s.vm) (hw : ∀ d ∈ tables_1, d.before a0 Z = true) (hby : c.code = prog_86_method_8_code) (hown : s.vm.findClass "com/example/termweave/termweave/index/IndexFormat" = some m.cls) (N0 : Fr n0 locs) (Z0 : n0 ≤ T0.heap.size) (g_a1 : n0 ≤ a1) (A : own_B Z T0.heap a1 f) (hat : at_ < 13) (h : r &&& (-128) = 0) :
    ∃ (T' : State) (locs' : List Loc), Stand p l e R s m args below meth c T' locs' cells slots ∧ Fr n0 locs' ∧ n0 ≤ T'.heap.size ∧ own_B Z T'.heap a1 (own_seti f at_ (own_last r)) ∧
      ∀ target, Steps p.tables e below (T'.setTop (mkF m 57 #[.val (.ref a1), .val (.int off), .val (.long v), .second, .val (.int (Int32.ofNat (at_ + 1))), .val (.long r), .second] [])) target → Steps p.tables e below (T0.setTop (mkF m 6 #[.val (.ref a1), .val (.int off), .val (.long v), .second, .val (.int (Int32.ofNat at_)), .val (.long r), .second] [])) target := by
  obtain ⟨c1, Ar1, S1, H1⟩ := id A
  obtain ⟨T1, h1, X1, e1, W1, st1⟩ := stB X0 hx hZ rfl Ar1 (j := (Int32.ofNat at_)) (own_in S1 hat (by omega)) (g := (mkF m 56 #[.val (.ref a1), .val (.int off), .val (.long v), .second, .val (.int ((Int32.ofNat at_) + (1 : Int32))), .val (.long r), .second] [(.int ((r.toInt32).toInt8.toInt32)), (.int (Int32.ofNat at_)), (.ref a1)])) rfl rfl (hb hby d1_56)
  have B1 : own_B Z T1.heap a1 (own_seti f at_ (own_last r)) := by rw [e1]; exact own_B.store A W1 hat (own_nb _)
  refine ⟨T1, _, X1, Fr.snoc X1 N0 g_a1, by rw [e1]; exact Nat.le_trans Z0 (Keep.of_wr W1).1, B1, fun target kt => ?_⟩
  rw [← own_up] at kt
  show Steps p.tables e below (T0.setTop (mkF m 6 #[.val (.ref a1), .val (.int off), .val (.long v), .second, .val (.int (Int32.ofNat at_)), .val (.long r), .second] [])) _
  refine XS.lload X0.here hx rfl (hb hby d1_6) rfl ?_
  show Steps p.tables e below (T0.setTop (mkF m 8 #[.val (.ref a1), .val (.int off), .val (.long v), .second, .val (.int (Int32.ofNat at_)), .val (.long r), .second] [(.long r)])) _
  refine X0.ldc2Long hx hown (mvT hZ (hw _ (List.mem_of_getElem? (i := 6) rfl))) (g := (mkF m 8 #[.val (.ref a1), .val (.int off), .val (.long v), .second, .val (.int (Int32.ofNat at_)), .val (.long r), .second] [(.long r)])) rfl (hb hby d1_8) _ ?_
  show Steps p.tables e below (T0.setTop (mkF m 11 #[.val (.ref a1), .val (.int off), .val (.long v), .second, .val (.int (Int32.ofNat at_)), .val (.long r), .second] [(.long (-128 : Int64)), (.long r)])) _
  refine XS.land X0.here hx rfl (hb hby d1_11) rfl ?_
  show Steps p.tables e below (T0.setTop (mkF m 12 #[.val (.ref a1), .val (.int off), .val (.long v), .second, .val (.int (Int32.ofNat at_)), .val (.long r), .second] [(.long (r &&& (-128 : Int64)))])) _
  refine XS.lconst X0.here hx rfl (hb hby d1_12) ?_
  show Steps p.tables e below (T0.setTop (mkF m 13 #[.val (.ref a1), .val (.int off), .val (.long v), .second, .val (.int (Int32.ofNat at_)), .val (.long r), .second] [(.long (0 : Int64)), (.long (r &&& (-128 : Int64)))])) _
  refine XS.lcmp X0.here hx rfl (hb hby d1_13) rfl ?_
  show Steps p.tables e below (T0.setTop (mkF m 14 #[.val (.ref a1), .val (.int off), .val (.long v), .second, .val (.int (Int32.ofNat at_)), .val (.long r), .second] [(.int (lcmpW (r &&& (-128 : Int64)) (0 : Int64)))])) _
  refine XS.ifYes X0.here hx rfl (pc0 := 14) (pc' := 46) rfl (hb hby d1_14) rfl ((if0 _ _).trans (teq ((lw_eq _ _).2 h)).1) (by decide) (by decide) ?_
  show Steps p.tables e below (T0.setTop (mkF m 46 #[.val (.ref a1), .val (.int off), .val (.long v), .second, .val (.int (Int32.ofNat at_)), .val (.long r), .second] [])) _
  refine XS.aloadN X0.here hx rfl (hb hby d1_46) rfl rfl ?_
  show Steps p.tables e below (T0.setTop (mkF m 47 #[.val (.ref a1), .val (.int off), .val (.long v), .second, .val (.int (Int32.ofNat at_)), .val (.long r), .second] [(.ref a1)])) _
  refine XS.iload X0.here hx rfl (hb hby d1_47) rfl ?_
  show Steps p.tables e below (T0.setTop (mkF m 49 #[.val (.ref a1), .val (.int off), .val (.long v), .second, .val (.int (Int32.ofNat at_)), .val (.long r), .second] [(.int (Int32.ofNat at_)), (.ref a1)])) _
  refine XS.iinc X0.here hx rfl (hb hby d1_49) rfl (l' := #[.val (.ref a1), .val (.int off), .val (.long v), .second, .val (.int ((Int32.ofNat at_) + (1 : Int32))), .val (.long r), .second]) rfl ?_
  show Steps p.tables e below (T0.setTop (mkF m 52 #[.val (.ref a1), .val (.int off), .val (.long v), .second, .val (.int ((Int32.ofNat at_) + (1 : Int32))), .val (.long r), .second] [(.int (Int32.ofNat at_)), (.ref a1)])) _
  refine XS.lload X0.here hx rfl (hb hby d1_52) rfl ?_
  show Steps p.tables e below (T0.setTop (mkF m 54 #[.val (.ref a1), .val (.int off), .val (.long v), .second, .val (.int ((Int32.ofNat at_) + (1 : Int32))), .val (.long r), .second] [(.long r), (.int (Int32.ofNat at_)), (.ref a1)])) _
  refine XS.l2i X0.here hx rfl (hb hby d1_54) rfl ?_
  show Steps p.tables e below (T0.setTop (mkF m 55 #[.val (.ref a1), .val (.int off), .val (.long v), .second, .val (.int ((Int32.ofNat at_) + (1 : Int32))), .val (.long r), .second] [(.int (r.toInt32)), (.int (Int32.ofNat at_)), (.ref a1)])) _
  refine XS.i2b X0.here hx rfl (hb hby d1_55) rfl ?_
  show Steps p.tables e below (T0.setTop (mkF m 56 #[.val (.ref a1), .val (.int off), .val (.long v), .second, .val (.int ((Int32.ofNat at_) + (1 : Int32))), .val (.long r), .second] [(.int ((r.toInt32).toInt8.toInt32)), (.int (Int32.ofNat at_)), (.ref a1)])) _
  refine st1 _ ?_
  exact kt
set_option maxRecDepth 65536 in
set_option maxHeartbeats 40000000 in
theorem own_loop {p : Program} {l : Launch} {e : Env} {R : Room} {s : State} {m : MethodId} {args : Array Value} {below : List Frame} {meth : Method} {c : Code} {cells slots : Nat} {Z : State} {a0 : Array Value} {n0 : Nat} {a1 : Addr} {off : Int32} {v : Int64}
    (hx : p.tables.exec = Jvm.exec) (hZ : Z.Warmed39 s.vm) (hw : ∀ d ∈ tables_1, d.before a0 Z = true) (hby : c.code = prog_86_method_8_code) (hown : s.vm.findClass "com/example/termweave/termweave/index/IndexFormat" = some m.cls) (g_a1 : n0 ≤ a1) :
    ∀ (k : Nat) (T0 : State) (locs : List Loc) (f : Nat → Int32) (at_ : Nat) (r : Int64), Stand p l e R s m args below meth c T0 locs cells slots → Fr n0 locs → n0 ≤ T0.heap.size → own_B Z T0.heap a1 f → own_fit k r → at_ + k < 13 →
    ∃ (T' : State) (locs' : List Loc) (r' : Int64), Stand p l e R s m args below meth c T' locs' cells slots ∧ Fr n0 locs' ∧ n0 ≤ T'.heap.size ∧ own_B Z T'.heap a1 (own_put k f at_ r).1 ∧
      ∀ target, Steps p.tables e below (T'.setTop (mkF m 57 #[.val (.ref a1), .val (.int off), .val (.long v), .second, .val (.int (Int32.ofNat (own_put k f at_ r).2)), .val (.long r'), .second] [])) target → Steps p.tables e below (T0.setTop (mkF m 6 #[.val (.ref a1), .val (.int off), .val (.long v), .second, .val (.int (Int32.ofNat at_)), .val (.long r), .second] [])) target := by
  intro k
  induction k with
  | zero =>
    intro T0 locs f at_ r X0 N0 Z0 A hf ha
    obtain ⟨T', L', X', N', Z', B', st⟩ := own_leave (off := off) (v := v) (at_ := at_) X0 hx hZ hw hby hown N0 Z0 g_a1 A (by omega) hf
    exact ⟨T', L', r, X', N', Z', B', st⟩
  | succ k ih =>
    intro T0 locs f at_ r X0 N0 Z0 A hf ha
    by_cases h : r &&& (-128) = 0
    · obtain ⟨T', L', X', N', Z', B', st⟩ := own_leave (off := off) (v := v) (at_ := at_) X0 hx hZ hw hby hown N0 Z0 g_a1 A (by omega) h
      rw [own_put, if_pos h]
      exact ⟨T', L', r, X', N', Z', B', st⟩
    · obtain ⟨T1, L1, X1, N1, Z1, B1, st1⟩ := own_turn (off := off) (v := v) (at_ := at_) X0 hx hZ hw hby hown N0 Z0 g_a1 A (by omega) h
      obtain ⟨T', L', r', X', N', Z', B', st'⟩ := ih T1 L1 _ (at_ + 1) (own_ush r 7) X1 N1 Z1 B1 hf (by omega)
      rw [own_put, if_neg h]
      exact ⟨T', L', r', X', N', Z', B', fun target kt => st1 _ (st' _ kt)⟩
def Q1 (Z : State) (a1 : Addr) (oo : Nat) (q : Int64) (f : Nat → Int32) (h0 : Heap) (n0 : Nat) (v : Option Value) (h : Heap) (L : List Loc) : Prop := v = some (.int (Int32.ofNat (own_put 9 f oo q).2)) ∧ Fr n0 L ∧ n0 ≤ h.size ∧ own_B Z h a1 (own_put 9 f oo q).1
set_option maxRecDepth 65536 in
set_option maxHeartbeats 40000000 in
theorem rm1 (l : Launch) (Z : State) (a0 : Array Value) (hw : ∀ d ∈ tables_1, d.before a0 Z = true) (ws : List Jvm.Cond) (a1 : Addr) (oo : Nat) (vv : Int64) (f : Nat → Int32) (h0 : Heap) (n0 : Nat) (Z0 : n0 ≤ h0.size) (A : own_B Z h0 a1 f) (g_a1 : n0 ≤ a1) (ho : oo < 3) :
    MetFree l (⟨"com/example/termweave/termweave/index/IndexFormat", "putVarLong", "([BIJ)I"⟩ : MethodName) (head1 (Jvm.Cond.code (⟨"com/example/termweave/termweave/index/IndexFormat", "putVarLong", "([BIJ)I"⟩ : MethodName) prog_86_method_8_code 7 (some .int) :: ws) ({ frames := 0, cells := 0, slots := 0, locals := 0 } : Room)) (fun a U => a = #[(.ref a1), (.int (Int32.ofNat oo)), (.long vv)] ∧ Z.Warmed39 U.vm ∧ U.heap = h0) (fun _ _ _ _ _ => True) (fun _ U o U' => ∃ v L, o = .returned v ∧ Q1 Z a1 oo vv f h0 n0 v U'.heap L ∧ FrameEnd U o U' L ({ frames := 0, cells := 0, slots := 0, locals := 0 } : Room).cells ({ frames := 0, cells := 0, slots := 0, locals := 0 } : Room).slots) := by
  refine MetFree.of_bodySF (plainFor_of_name pn_1) hisR ?_
  intro p e s m args below meth c s₁ Bd hml0 hP hK
  obtain ⟨rfl, hZ, hh⟩ := hP
  have hx := Bd.exec
  have hby := Bd.bytes
  have hml : c.maxLocals = 7 := hml0
  have hown : s.vm.findClass "com/example/termweave/termweave/index/IndexFormat" = some m.cls := findClass_of_methodNamed Bd.named
  have hnm := (name_of_methodNamed Bd.named Bd.method).1
  have X0 : Stand p l e ({ frames := 0, cells := 0, slots := 0, locals := 0 } : Room) s m #[(.ref a1), (.int (Int32.ofNat oo)), (.long vv)] below meth c s₁ [] 0 0 := Stand.of_body Bd
  have e0 : s₁.heap = h0 := by rw [← hh, Bd.state]; rfl
  have N0 := Fr.nil n0
  have pre0 : ∀ t, Steps p.tables e below (s₁.setTop (mkF m 0 #[.val (.ref a1), .val (.int (Int32.ofNat oo)), .val (.long vv), .second, .unset, .unset, .unset] [])) t → Steps p.tables e below (s₁.setTop (entryFrame m #[(.ref a1), (.int (Int32.ofNat oo)), (.long vv)] 7)) t := fun t k => castTop (ef_1 m a1 ((Int32.ofNat oo)) vv) k
  obtain ⟨T5, L5, r5, X5, N5, Z5, B5, st5⟩ := own_loop (off := Int32.ofNat oo) (v := vv) hx hZ hw hby hown g_a1 9 s₁ [] f oo vv X0 N0 (by rw [e0]; exact Z0) (by rw [e0]; exact A) (by have q := own_fit9 vv 9 0 rfl; rw [own_r0] at q; exact q) (by omega)
  obtain ⟨fs, hr, hrun, hended, hW, hsame⟩ := X5.leave (v := some (.int (Int32.ofNat (own_put 9 f oo vv).2))) (fun h => by rw [Bd.returns] at h; cases h)
  refine ⟨_, _, pre0 _ ?_, hrun, hended, _, _, rfl, ?_, ⟨_, rfl⟩, hW, hsame.mono (by decide) (by decide)⟩
  · show Steps p.tables e below (s₁.setTop (mkF m 0 #[.val (.ref a1), .val (.int (Int32.ofNat oo)), .val (.long vv), .second, .unset, .unset, .unset] [])) _
    refine XS.iloadN X0.here hx rfl (hb hby d1_0) rfl ?_
    show Steps p.tables e below (s₁.setTop (mkF m 1 #[.val (.ref a1), .val (.int (Int32.ofNat oo)), .val (.long vv), .second, .unset, .unset, .unset] [(.int (Int32.ofNat oo))])) _
    refine XS.istore X0.here hx rfl (hb hby d1_1) rfl (l' := #[.val (.ref a1), .val (.int (Int32.ofNat oo)), .val (.long vv), .second, .val (.int (Int32.ofNat oo)), .unset, .unset]) rfl ?_
    show Steps p.tables e below (s₁.setTop (mkF m 3 #[.val (.ref a1), .val (.int (Int32.ofNat oo)), .val (.long vv), .second, .val (.int (Int32.ofNat oo)), .unset, .unset] [])) _
    refine XS.lloadN X0.here hx rfl (hb hby d1_3) rfl ?_
    show Steps p.tables e below (s₁.setTop (mkF m 4 #[.val (.ref a1), .val (.int (Int32.ofNat oo)), .val (.long vv), .second, .val (.int (Int32.ofNat oo)), .unset, .unset] [(.long vv)])) _
    refine XS.lstore X0.here hx rfl (hb hby d1_4) rfl (l' := #[.val (.ref a1), .val (.int (Int32.ofNat oo)), .val (.long vv), .second, .val (.int (Int32.ofNat oo)), .val (.long vv), .second]) rfl ?_
    show Steps p.tables e below (s₁.setTop (mkF m 6 #[.val (.ref a1), .val (.int (Int32.ofNat oo)), .val (.long vv), .second, .val (.int (Int32.ofNat oo)), .val (.long vv), .second] [])) _
    refine st5 _ ?_
    show Steps p.tables e below (T5.setTop (mkF m 57 #[.val (.ref a1), .val (.int (Int32.ofNat oo)), .val (.long vv), .second, .val (.int (Int32.ofNat (own_put 9 f oo vv).2)), .val (.long r5), .second] [])) _
    refine XS.iload X5.here hx rfl (hb hby d1_57) rfl ?_
    show Steps p.tables e below (T5.setTop (mkF m 59 #[.val (.ref a1), .val (.int (Int32.ofNat oo)), .val (.long vv), .second, .val (.int (Int32.ofNat (own_put 9 f oo vv).2)), .val (.long r5), .second] [(.int (Int32.ofNat (own_put 9 f oo vv).2))])) _
    exact retI X5 hx Bd.returns (hb hby d1_59) hr
  · show Q1 Z a1 oo vv f h0 n0 _ T5.heap _
    exact ⟨rfl, N5, Z5, B5⟩
theorem d2_0 : decode method_3_code 0 = .ok (.iconst 1, 1) := by decide +kernel
theorem d2_1 : decode method_3_code 1 = .ok (.istore_n 2, 1) := by decide +kernel
theorem d2_2 : decode method_3_code 2 = .ok (.iload_n 2, 1) := by decide +kernel
theorem d2_3 : decode method_3_code 3 = .ok (.lload_n 0, 1) := by decide +kernel
theorem d2_4 : decode method_3_code 4 = .ok (.bipush 7, 2) := by decide +kernel
theorem d2_6 : decode method_3_code 6 = .ok (.lushr, 1) := by decide +kernel
theorem d2_7 : decode method_3_code 7 = .ok (.lconst 0, 1) := by decide +kernel
theorem d2_8 : decode method_3_code 8 = .ok (.lcmp, 1) := by decide +kernel
theorem d2_9 : decode method_3_code 9 = .ok (.ifCond .eq 7, 3) := by decide +kernel
theorem d2_12 : decode method_3_code 12 = .ok (.iconst 1, 1) := by decide +kernel
theorem d2_13 : decode method_3_code 13 = .ok (.goto 4, 3) := by decide +kernel
theorem d2_16 : decode method_3_code 16 = .ok (.iconst 0, 1) := by decide +kernel
theorem d2_17 : decode method_3_code 17 = .ok (.iadd, 1) := by decide +kernel
theorem d2_18 : decode method_3_code 18 = .ok (.istore_n 2, 1) := by decide +kernel
theorem d2_19 : decode method_3_code 19 = .ok (.iload_n 2, 1) := by decide +kernel
theorem d2_20 : decode method_3_code 20 = .ok (.lload_n 0, 1) := by decide +kernel
theorem d2_21 : decode method_3_code 21 = .ok (.bipush 14, 2) := by decide +kernel
theorem d2_23 : decode method_3_code 23 = .ok (.lushr, 1) := by decide +kernel
theorem d2_24 : decode method_3_code 24 = .ok (.lconst 0, 1) := by decide +kernel
theorem d2_25 : decode method_3_code 25 = .ok (.lcmp, 1) := by decide +kernel
theorem d2_26 : decode method_3_code 26 = .ok (.ifCond .eq 7, 3) := by decide +kernel
theorem d2_29 : decode method_3_code 29 = .ok (.iconst 1, 1) := by decide +kernel
theorem d2_30 : decode method_3_code 30 = .ok (.goto 4, 3) := by decide +kernel
theorem d2_33 : decode method_3_code 33 = .ok (.iconst 0, 1) := by decide +kernel
theorem d2_34 : decode method_3_code 34 = .ok (.iadd, 1) := by decide +kernel
theorem d2_35 : decode method_3_code 35 = .ok (.istore_n 2, 1) := by decide +kernel
theorem d2_36 : decode method_3_code 36 = .ok (.iload_n 2, 1) := by decide +kernel
theorem d2_37 : decode method_3_code 37 = .ok (.lload_n 0, 1) := by decide +kernel
theorem d2_38 : decode method_3_code 38 = .ok (.bipush 21, 2) := by decide +kernel
theorem d2_40 : decode method_3_code 40 = .ok (.lushr, 1) := by decide +kernel
theorem d2_41 : decode method_3_code 41 = .ok (.lconst 0, 1) := by decide +kernel
theorem d2_42 : decode method_3_code 42 = .ok (.lcmp, 1) := by decide +kernel
theorem d2_43 : decode method_3_code 43 = .ok (.ifCond .eq 7, 3) := by decide +kernel
theorem d2_46 : decode method_3_code 46 = .ok (.iconst 1, 1) := by decide +kernel
theorem d2_47 : decode method_3_code 47 = .ok (.goto 4, 3) := by decide +kernel
theorem d2_50 : decode method_3_code 50 = .ok (.iconst 0, 1) := by decide +kernel
theorem d2_51 : decode method_3_code 51 = .ok (.iadd, 1) := by decide +kernel
theorem d2_52 : decode method_3_code 52 = .ok (.istore_n 2, 1) := by decide +kernel
theorem d2_53 : decode method_3_code 53 = .ok (.iload_n 2, 1) := by decide +kernel
theorem d2_54 : decode method_3_code 54 = .ok (.lload_n 0, 1) := by decide +kernel
theorem d2_55 : decode method_3_code 55 = .ok (.bipush 28, 2) := by decide +kernel
theorem d2_57 : decode method_3_code 57 = .ok (.lushr, 1) := by decide +kernel
theorem d2_58 : decode method_3_code 58 = .ok (.lconst 0, 1) := by decide +kernel
theorem d2_59 : decode method_3_code 59 = .ok (.lcmp, 1) := by decide +kernel
theorem d2_60 : decode method_3_code 60 = .ok (.ifCond .eq 7, 3) := by decide +kernel
theorem d2_63 : decode method_3_code 63 = .ok (.iconst 1, 1) := by decide +kernel
theorem d2_64 : decode method_3_code 64 = .ok (.goto 4, 3) := by decide +kernel
theorem d2_67 : decode method_3_code 67 = .ok (.iconst 0, 1) := by decide +kernel
theorem d2_68 : decode method_3_code 68 = .ok (.iadd, 1) := by decide +kernel
theorem d2_69 : decode method_3_code 69 = .ok (.istore_n 2, 1) := by decide +kernel
theorem d2_70 : decode method_3_code 70 = .ok (.iload_n 2, 1) := by decide +kernel
theorem d2_71 : decode method_3_code 71 = .ok (.lload_n 0, 1) := by decide +kernel
theorem d2_72 : decode method_3_code 72 = .ok (.bipush 35, 2) := by decide +kernel
theorem d2_74 : decode method_3_code 74 = .ok (.lushr, 1) := by decide +kernel
theorem d2_75 : decode method_3_code 75 = .ok (.lconst 0, 1) := by decide +kernel
theorem d2_76 : decode method_3_code 76 = .ok (.lcmp, 1) := by decide +kernel
theorem d2_77 : decode method_3_code 77 = .ok (.ifCond .eq 7, 3) := by decide +kernel
theorem d2_80 : decode method_3_code 80 = .ok (.iconst 1, 1) := by decide +kernel
theorem d2_81 : decode method_3_code 81 = .ok (.goto 4, 3) := by decide +kernel
theorem d2_84 : decode method_3_code 84 = .ok (.iconst 0, 1) := by decide +kernel
theorem d2_85 : decode method_3_code 85 = .ok (.iadd, 1) := by decide +kernel
theorem d2_86 : decode method_3_code 86 = .ok (.istore_n 2, 1) := by decide +kernel
theorem d2_87 : decode method_3_code 87 = .ok (.iload_n 2, 1) := by decide +kernel
theorem d2_88 : decode method_3_code 88 = .ok (.lload_n 0, 1) := by decide +kernel
theorem d2_89 : decode method_3_code 89 = .ok (.bipush 42, 2) := by decide +kernel
theorem d2_91 : decode method_3_code 91 = .ok (.lushr, 1) := by decide +kernel
theorem d2_92 : decode method_3_code 92 = .ok (.lconst 0, 1) := by decide +kernel
theorem d2_93 : decode method_3_code 93 = .ok (.lcmp, 1) := by decide +kernel
theorem d2_94 : decode method_3_code 94 = .ok (.ifCond .eq 7, 3) := by decide +kernel
theorem d2_97 : decode method_3_code 97 = .ok (.iconst 1, 1) := by decide +kernel
theorem d2_98 : decode method_3_code 98 = .ok (.goto 4, 3) := by decide +kernel
theorem d2_101 : decode method_3_code 101 = .ok (.iconst 0, 1) := by decide +kernel
theorem d2_102 : decode method_3_code 102 = .ok (.iadd, 1) := by decide +kernel
theorem d2_103 : decode method_3_code 103 = .ok (.istore_n 2, 1) := by decide +kernel
theorem d2_104 : decode method_3_code 104 = .ok (.iload_n 2, 1) := by decide +kernel
theorem d2_105 : decode method_3_code 105 = .ok (.lload_n 0, 1) := by decide +kernel
theorem d2_106 : decode method_3_code 106 = .ok (.bipush 49, 2) := by decide +kernel
theorem d2_108 : decode method_3_code 108 = .ok (.lushr, 1) := by decide +kernel
theorem d2_109 : decode method_3_code 109 = .ok (.lconst 0, 1) := by decide +kernel
theorem d2_110 : decode method_3_code 110 = .ok (.lcmp, 1) := by decide +kernel
theorem d2_111 : decode method_3_code 111 = .ok (.ifCond .eq 7, 3) := by decide +kernel
theorem d2_114 : decode method_3_code 114 = .ok (.iconst 1, 1) := by decide +kernel
theorem d2_115 : decode method_3_code 115 = .ok (.goto 4, 3) := by decide +kernel
theorem d2_118 : decode method_3_code 118 = .ok (.iconst 0, 1) := by decide +kernel
theorem d2_119 : decode method_3_code 119 = .ok (.iadd, 1) := by decide +kernel
theorem d2_120 : decode method_3_code 120 = .ok (.istore_n 2, 1) := by decide +kernel
theorem d2_121 : decode method_3_code 121 = .ok (.iload_n 2, 1) := by decide +kernel
theorem d2_122 : decode method_3_code 122 = .ok (.lload_n 0, 1) := by decide +kernel
theorem d2_123 : decode method_3_code 123 = .ok (.bipush 56, 2) := by decide +kernel
theorem d2_125 : decode method_3_code 125 = .ok (.lushr, 1) := by decide +kernel
theorem d2_126 : decode method_3_code 126 = .ok (.lconst 0, 1) := by decide +kernel
theorem d2_127 : decode method_3_code 127 = .ok (.lcmp, 1) := by decide +kernel
theorem d2_128 : decode method_3_code 128 = .ok (.ifCond .eq 7, 3) := by decide +kernel
theorem d2_131 : decode method_3_code 131 = .ok (.iconst 1, 1) := by decide +kernel
theorem d2_132 : decode method_3_code 132 = .ok (.goto 4, 3) := by decide +kernel
theorem d2_135 : decode method_3_code 135 = .ok (.iconst 0, 1) := by decide +kernel
theorem d2_136 : decode method_3_code 136 = .ok (.iadd, 1) := by decide +kernel
theorem d2_137 : decode method_3_code 137 = .ok (.istore_n 2, 1) := by decide +kernel
theorem d2_138 : decode method_3_code 138 = .ok (.iload_n 2, 1) := by decide +kernel
theorem d2_139 : decode method_3_code 139 = .ok (.lload_n 0, 1) := by decide +kernel
theorem d2_140 : decode method_3_code 140 = .ok (.bipush 63, 2) := by decide +kernel
theorem d2_142 : decode method_3_code 142 = .ok (.lushr, 1) := by decide +kernel
theorem d2_143 : decode method_3_code 143 = .ok (.lconst 0, 1) := by decide +kernel
theorem d2_144 : decode method_3_code 144 = .ok (.lcmp, 1) := by decide +kernel
theorem d2_145 : decode method_3_code 145 = .ok (.ifCond .eq 7, 3) := by decide +kernel
theorem d2_148 : decode method_3_code 148 = .ok (.iconst 1, 1) := by decide +kernel
theorem d2_149 : decode method_3_code 149 = .ok (.goto 4, 3) := by decide +kernel
theorem d2_152 : decode method_3_code 152 = .ok (.iconst 0, 1) := by decide +kernel
theorem d2_153 : decode method_3_code 153 = .ok (.iadd, 1) := by decide +kernel
theorem d2_154 : decode method_3_code 154 = .ok (.istore_n 2, 1) := by decide +kernel
theorem d2_155 : decode method_3_code 155 = .ok (.iload_n 2, 1) := by decide +kernel
theorem d2_156 : decode method_3_code 156 = .ok (.ireturn, 1) := by decide +kernel
theorem pn_2 : plainName "com/example/termweave/termweave/index/IndexFormatPutVarLongPinLaw" = true := by first | (simp [plainName, overriddenIn]; done) | decide +kernel
theorem ef_2 (m : MethodId) (x0 : Int64) : entryFrame m #[(.long x0)] 3 = mkF m 0 #[.val (.long x0), .second, .unset] [] := by first | (simp [entryFrame, mkF, argsToLocals, Value.category]; done) | rfl
def Q2 (Z : State) (q : Int64) (h0 : Heap) (n0 : Nat) (v : Option Value) (h : Heap) (L : List Loc) : Prop := v = some (.int (own_len q 9)) ∧ Fr n0 L ∧ h = h0
set_option maxRecDepth 65536 in
set_option maxHeartbeats 40000000 in
theorem own_seg1 {p : Program} {l : Launch} {e : Env} {R : Room} {s : State} {m : MethodId} {args : Array Value} {below : List Frame} {meth : Method} {c : Code} {T0 : State} {locs : List Loc} {cells slots : Nat} {Z : State} {a0 : Array Value} {q : Int64}
    (X0 : Stand p l e R s m args below meth c T0 locs cells slots) (hx : p.tables.exec = Jvm.exec) (hZ : Z.Warmed39 s.vm) (hw : ∀ d ∈ tables_1, d.before a0 Z = true) (hby : c.code = method_3_code) (hown : s.vm.findClass "com/example/termweave/termweave/index/IndexFormatPutVarLongPinLaw" = some m.cls) :
    ∀ target, Steps p.tables e below (T0.setTop (mkF m 19 #[.val (.long q), .second, .val (.int (own_len q 1))] [])) target → Steps p.tables e below (T0.setTop (mkF m 2 #[.val (.long q), .second, .val (.int (own_len q 0))] [])) target := by
  intro target kt
  by_cases h : lcmpW (own_ush q (Int32.ofNat (7 * 1))) 0 = 0
  · rw [show own_len q 1 = own_len q 0 + 0 from by show own_len q 0 + own_ne q 1 = _; rw [own_ne, if_pos h]] at kt
    show Steps p.tables e below (T0.setTop (mkF m 2 #[.val (.long q), .second, .val (.int (own_len q 0))] [])) _
    refine XS.iloadN X0.here hx rfl (hb hby d2_2) rfl ?_
    show Steps p.tables e below (T0.setTop (mkF m 3 #[.val (.long q), .second, .val (.int (own_len q 0))] [(.int (own_len q 0))])) _
    refine XS.lloadN X0.here hx rfl (hb hby d2_3) rfl ?_
    show Steps p.tables e below (T0.setTop (mkF m 4 #[.val (.long q), .second, .val (.int (own_len q 0))] [(.long q), (.int (own_len q 0))])) _
    refine XS.bipush X0.here hx rfl (hb hby d2_4) ?_
    show Steps p.tables e below (T0.setTop (mkF m 6 #[.val (.long q), .second, .val (.int (own_len q 0))] [(.int (7 : Int32)), (.long q), (.int (own_len q 0))])) _
    refine XS.lushr X0.here hx rfl (hb hby d2_6) rfl ?_
    show Steps p.tables e below (T0.setTop (mkF m 7 #[.val (.long q), .second, .val (.int (own_len q 0))] [(.long ((q.toUInt64 >>> ((7 : Int32) &&& 0x3f).toInt64.toUInt64).toInt64)), (.int (own_len q 0))])) _
    refine XS.lconst X0.here hx rfl (hb hby d2_7) ?_
    show Steps p.tables e below (T0.setTop (mkF m 8 #[.val (.long q), .second, .val (.int (own_len q 0))] [(.long (0 : Int64)), (.long ((q.toUInt64 >>> ((7 : Int32) &&& 0x3f).toInt64.toUInt64).toInt64)), (.int (own_len q 0))])) _
    refine XS.lcmp X0.here hx rfl (hb hby d2_8) rfl ?_
    show Steps p.tables e below (T0.setTop (mkF m 9 #[.val (.long q), .second, .val (.int (own_len q 0))] [(.int (lcmpW ((q.toUInt64 >>> ((7 : Int32) &&& 0x3f).toInt64.toUInt64).toInt64) (0 : Int64))), (.int (own_len q 0))])) _
    refine XS.ifYes X0.here hx rfl (pc0 := 9) (pc' := 16) rfl (hb hby d2_9) rfl ((if0 _ _).trans (teq h).1) (by decide) (by decide) ?_
    show Steps p.tables e below (T0.setTop (mkF m 16 #[.val (.long q), .second, .val (.int (own_len q 0))] [(.int (own_len q 0))])) _
    refine XS.iconst X0.here hx rfl (hb hby d2_16) ?_
    show Steps p.tables e below (T0.setTop (mkF m 17 #[.val (.long q), .second, .val (.int (own_len q 0))] [(.int (0 : Int32)), (.int (own_len q 0))])) _
    refine XS.iadd X0.here hx rfl (hb hby d2_17) rfl ?_
    show Steps p.tables e below (T0.setTop (mkF m 18 #[.val (.long q), .second, .val (.int (own_len q 0))] [(.int ((own_len q 0) + (0 : Int32)))])) _
    refine XS.istoreN X0.here hx rfl (hb hby d2_18) rfl (l' := #[.val (.long q), .second, .val (.int ((own_len q 0) + (0 : Int32)))]) rfl ?_
    exact kt
  · rw [show own_len q 1 = own_len q 0 + 1 from by show own_len q 0 + own_ne q 1 = _; rw [own_ne, if_neg h]] at kt
    show Steps p.tables e below (T0.setTop (mkF m 2 #[.val (.long q), .second, .val (.int (own_len q 0))] [])) _
    refine XS.iloadN X0.here hx rfl (hb hby d2_2) rfl ?_
    show Steps p.tables e below (T0.setTop (mkF m 3 #[.val (.long q), .second, .val (.int (own_len q 0))] [(.int (own_len q 0))])) _
    refine XS.lloadN X0.here hx rfl (hb hby d2_3) rfl ?_
    show Steps p.tables e below (T0.setTop (mkF m 4 #[.val (.long q), .second, .val (.int (own_len q 0))] [(.long q), (.int (own_len q 0))])) _
    refine XS.bipush X0.here hx rfl (hb hby d2_4) ?_
    show Steps p.tables e below (T0.setTop (mkF m 6 #[.val (.long q), .second, .val (.int (own_len q 0))] [(.int (7 : Int32)), (.long q), (.int (own_len q 0))])) _
    refine XS.lushr X0.here hx rfl (hb hby d2_6) rfl ?_
    show Steps p.tables e below (T0.setTop (mkF m 7 #[.val (.long q), .second, .val (.int (own_len q 0))] [(.long ((q.toUInt64 >>> ((7 : Int32) &&& 0x3f).toInt64.toUInt64).toInt64)), (.int (own_len q 0))])) _
    refine XS.lconst X0.here hx rfl (hb hby d2_7) ?_
    show Steps p.tables e below (T0.setTop (mkF m 8 #[.val (.long q), .second, .val (.int (own_len q 0))] [(.long (0 : Int64)), (.long ((q.toUInt64 >>> ((7 : Int32) &&& 0x3f).toInt64.toUInt64).toInt64)), (.int (own_len q 0))])) _
    refine XS.lcmp X0.here hx rfl (hb hby d2_8) rfl ?_
    show Steps p.tables e below (T0.setTop (mkF m 9 #[.val (.long q), .second, .val (.int (own_len q 0))] [(.int (lcmpW ((q.toUInt64 >>> ((7 : Int32) &&& 0x3f).toInt64.toUInt64).toInt64) (0 : Int64))), (.int (own_len q 0))])) _
    refine XS.ifNo X0.here hx rfl (hb hby d2_9) rfl ((if0 _ _).trans (feq h).1) ?_
    show Steps p.tables e below (T0.setTop (mkF m 12 #[.val (.long q), .second, .val (.int (own_len q 0))] [(.int (own_len q 0))])) _
    refine XS.iconst X0.here hx rfl (hb hby d2_12) ?_
    show Steps p.tables e below (T0.setTop (mkF m 13 #[.val (.long q), .second, .val (.int (own_len q 0))] [(.int (1 : Int32)), (.int (own_len q 0))])) _
    refine XS.goto X0.here hx rfl (pc0 := 13) (pc' := 17) rfl (hb hby d2_13) (by decide) (by decide) ?_
    show Steps p.tables e below (T0.setTop (mkF m 17 #[.val (.long q), .second, .val (.int (own_len q 0))] [(.int (1 : Int32)), (.int (own_len q 0))])) _
    refine XS.iadd X0.here hx rfl (hb hby d2_17) rfl ?_
    show Steps p.tables e below (T0.setTop (mkF m 18 #[.val (.long q), .second, .val (.int (own_len q 0))] [(.int ((own_len q 0) + (1 : Int32)))])) _
    refine XS.istoreN X0.here hx rfl (hb hby d2_18) rfl (l' := #[.val (.long q), .second, .val (.int ((own_len q 0) + (1 : Int32)))]) rfl ?_
    exact kt
set_option maxRecDepth 65536 in
set_option maxHeartbeats 40000000 in
theorem own_seg2 {p : Program} {l : Launch} {e : Env} {R : Room} {s : State} {m : MethodId} {args : Array Value} {below : List Frame} {meth : Method} {c : Code} {T0 : State} {locs : List Loc} {cells slots : Nat} {Z : State} {a0 : Array Value} {q : Int64}
    (X0 : Stand p l e R s m args below meth c T0 locs cells slots) (hx : p.tables.exec = Jvm.exec) (hZ : Z.Warmed39 s.vm) (hw : ∀ d ∈ tables_1, d.before a0 Z = true) (hby : c.code = method_3_code) (hown : s.vm.findClass "com/example/termweave/termweave/index/IndexFormatPutVarLongPinLaw" = some m.cls) :
    ∀ target, Steps p.tables e below (T0.setTop (mkF m 36 #[.val (.long q), .second, .val (.int (own_len q 2))] [])) target → Steps p.tables e below (T0.setTop (mkF m 19 #[.val (.long q), .second, .val (.int (own_len q 1))] [])) target := by
  intro target kt
  by_cases h : lcmpW (own_ush q (Int32.ofNat (7 * 2))) 0 = 0
  · rw [show own_len q 2 = own_len q 1 + 0 from by show own_len q 1 + own_ne q 2 = _; rw [own_ne, if_pos h]] at kt
    show Steps p.tables e below (T0.setTop (mkF m 19 #[.val (.long q), .second, .val (.int (own_len q 1))] [])) _
    refine XS.iloadN X0.here hx rfl (hb hby d2_19) rfl ?_
    show Steps p.tables e below (T0.setTop (mkF m 20 #[.val (.long q), .second, .val (.int (own_len q 1))] [(.int (own_len q 1))])) _
    refine XS.lloadN X0.here hx rfl (hb hby d2_20) rfl ?_
    show Steps p.tables e below (T0.setTop (mkF m 21 #[.val (.long q), .second, .val (.int (own_len q 1))] [(.long q), (.int (own_len q 1))])) _
    refine XS.bipush X0.here hx rfl (hb hby d2_21) ?_
    show Steps p.tables e below (T0.setTop (mkF m 23 #[.val (.long q), .second, .val (.int (own_len q 1))] [(.int (14 : Int32)), (.long q), (.int (own_len q 1))])) _
    refine XS.lushr X0.here hx rfl (hb hby d2_23) rfl ?_
    show Steps p.tables e below (T0.setTop (mkF m 24 #[.val (.long q), .second, .val (.int (own_len q 1))] [(.long ((q.toUInt64 >>> ((14 : Int32) &&& 0x3f).toInt64.toUInt64).toInt64)), (.int (own_len q 1))])) _
    refine XS.lconst X0.here hx rfl (hb hby d2_24) ?_
    show Steps p.tables e below (T0.setTop (mkF m 25 #[.val (.long q), .second, .val (.int (own_len q 1))] [(.long (0 : Int64)), (.long ((q.toUInt64 >>> ((14 : Int32) &&& 0x3f).toInt64.toUInt64).toInt64)), (.int (own_len q 1))])) _
    refine XS.lcmp X0.here hx rfl (hb hby d2_25) rfl ?_
    show Steps p.tables e below (T0.setTop (mkF m 26 #[.val (.long q), .second, .val (.int (own_len q 1))] [(.int (lcmpW ((q.toUInt64 >>> ((14 : Int32) &&& 0x3f).toInt64.toUInt64).toInt64) (0 : Int64))), (.int (own_len q 1))])) _
    refine XS.ifYes X0.here hx rfl (pc0 := 26) (pc' := 33) rfl (hb hby d2_26) rfl ((if0 _ _).trans (teq h).1) (by decide) (by decide) ?_
    show Steps p.tables e below (T0.setTop (mkF m 33 #[.val (.long q), .second, .val (.int (own_len q 1))] [(.int (own_len q 1))])) _
    refine XS.iconst X0.here hx rfl (hb hby d2_33) ?_
    show Steps p.tables e below (T0.setTop (mkF m 34 #[.val (.long q), .second, .val (.int (own_len q 1))] [(.int (0 : Int32)), (.int (own_len q 1))])) _
    refine XS.iadd X0.here hx rfl (hb hby d2_34) rfl ?_
    show Steps p.tables e below (T0.setTop (mkF m 35 #[.val (.long q), .second, .val (.int (own_len q 1))] [(.int ((own_len q 1) + (0 : Int32)))])) _
    refine XS.istoreN X0.here hx rfl (hb hby d2_35) rfl (l' := #[.val (.long q), .second, .val (.int ((own_len q 1) + (0 : Int32)))]) rfl ?_
    exact kt
  · rw [show own_len q 2 = own_len q 1 + 1 from by show own_len q 1 + own_ne q 2 = _; rw [own_ne, if_neg h]] at kt
    show Steps p.tables e below (T0.setTop (mkF m 19 #[.val (.long q), .second, .val (.int (own_len q 1))] [])) _
    refine XS.iloadN X0.here hx rfl (hb hby d2_19) rfl ?_
    show Steps p.tables e below (T0.setTop (mkF m 20 #[.val (.long q), .second, .val (.int (own_len q 1))] [(.int (own_len q 1))])) _
    refine XS.lloadN X0.here hx rfl (hb hby d2_20) rfl ?_
    show Steps p.tables e below (T0.setTop (mkF m 21 #[.val (.long q), .second, .val (.int (own_len q 1))] [(.long q), (.int (own_len q 1))])) _
    refine XS.bipush X0.here hx rfl (hb hby d2_21) ?_
    show Steps p.tables e below (T0.setTop (mkF m 23 #[.val (.long q), .second, .val (.int (own_len q 1))] [(.int (14 : Int32)), (.long q), (.int (own_len q 1))])) _
    refine XS.lushr X0.here hx rfl (hb hby d2_23) rfl ?_
    show Steps p.tables e below (T0.setTop (mkF m 24 #[.val (.long q), .second, .val (.int (own_len q 1))] [(.long ((q.toUInt64 >>> ((14 : Int32) &&& 0x3f).toInt64.toUInt64).toInt64)), (.int (own_len q 1))])) _
    refine XS.lconst X0.here hx rfl (hb hby d2_24) ?_
    show Steps p.tables e below (T0.setTop (mkF m 25 #[.val (.long q), .second, .val (.int (own_len q 1))] [(.long (0 : Int64)), (.long ((q.toUInt64 >>> ((14 : Int32) &&& 0x3f).toInt64.toUInt64).toInt64)), (.int (own_len q 1))])) _
    refine XS.lcmp X0.here hx rfl (hb hby d2_25) rfl ?_
    show Steps p.tables e below (T0.setTop (mkF m 26 #[.val (.long q), .second, .val (.int (own_len q 1))] [(.int (lcmpW ((q.toUInt64 >>> ((14 : Int32) &&& 0x3f).toInt64.toUInt64).toInt64) (0 : Int64))), (.int (own_len q 1))])) _
    refine XS.ifNo X0.here hx rfl (hb hby d2_26) rfl ((if0 _ _).trans (feq h).1) ?_
    show Steps p.tables e below (T0.setTop (mkF m 29 #[.val (.long q), .second, .val (.int (own_len q 1))] [(.int (own_len q 1))])) _
    refine XS.iconst X0.here hx rfl (hb hby d2_29) ?_
    show Steps p.tables e below (T0.setTop (mkF m 30 #[.val (.long q), .second, .val (.int (own_len q 1))] [(.int (1 : Int32)), (.int (own_len q 1))])) _
    refine XS.goto X0.here hx rfl (pc0 := 30) (pc' := 34) rfl (hb hby d2_30) (by decide) (by decide) ?_
    show Steps p.tables e below (T0.setTop (mkF m 34 #[.val (.long q), .second, .val (.int (own_len q 1))] [(.int (1 : Int32)), (.int (own_len q 1))])) _
    refine XS.iadd X0.here hx rfl (hb hby d2_34) rfl ?_
    show Steps p.tables e below (T0.setTop (mkF m 35 #[.val (.long q), .second, .val (.int (own_len q 1))] [(.int ((own_len q 1) + (1 : Int32)))])) _
    refine XS.istoreN X0.here hx rfl (hb hby d2_35) rfl (l' := #[.val (.long q), .second, .val (.int ((own_len q 1) + (1 : Int32)))]) rfl ?_
    exact kt
set_option maxRecDepth 65536 in
set_option maxHeartbeats 40000000 in
theorem own_seg3 {p : Program} {l : Launch} {e : Env} {R : Room} {s : State} {m : MethodId} {args : Array Value} {below : List Frame} {meth : Method} {c : Code} {T0 : State} {locs : List Loc} {cells slots : Nat} {Z : State} {a0 : Array Value} {q : Int64}
    (X0 : Stand p l e R s m args below meth c T0 locs cells slots) (hx : p.tables.exec = Jvm.exec) (hZ : Z.Warmed39 s.vm) (hw : ∀ d ∈ tables_1, d.before a0 Z = true) (hby : c.code = method_3_code) (hown : s.vm.findClass "com/example/termweave/termweave/index/IndexFormatPutVarLongPinLaw" = some m.cls) :
    ∀ target, Steps p.tables e below (T0.setTop (mkF m 53 #[.val (.long q), .second, .val (.int (own_len q 3))] [])) target → Steps p.tables e below (T0.setTop (mkF m 36 #[.val (.long q), .second, .val (.int (own_len q 2))] [])) target := by
  intro target kt
  by_cases h : lcmpW (own_ush q (Int32.ofNat (7 * 3))) 0 = 0
  · rw [show own_len q 3 = own_len q 2 + 0 from by show own_len q 2 + own_ne q 3 = _; rw [own_ne, if_pos h]] at kt
    show Steps p.tables e below (T0.setTop (mkF m 36 #[.val (.long q), .second, .val (.int (own_len q 2))] [])) _
    refine XS.iloadN X0.here hx rfl (hb hby d2_36) rfl ?_
    show Steps p.tables e below (T0.setTop (mkF m 37 #[.val (.long q), .second, .val (.int (own_len q 2))] [(.int (own_len q 2))])) _
    refine XS.lloadN X0.here hx rfl (hb hby d2_37) rfl ?_
    show Steps p.tables e below (T0.setTop (mkF m 38 #[.val (.long q), .second, .val (.int (own_len q 2))] [(.long q), (.int (own_len q 2))])) _
    refine XS.bipush X0.here hx rfl (hb hby d2_38) ?_
    show Steps p.tables e below (T0.setTop (mkF m 40 #[.val (.long q), .second, .val (.int (own_len q 2))] [(.int (21 : Int32)), (.long q), (.int (own_len q 2))])) _
    refine XS.lushr X0.here hx rfl (hb hby d2_40) rfl ?_
    show Steps p.tables e below (T0.setTop (mkF m 41 #[.val (.long q), .second, .val (.int (own_len q 2))] [(.long ((q.toUInt64 >>> ((21 : Int32) &&& 0x3f).toInt64.toUInt64).toInt64)), (.int (own_len q 2))])) _
    refine XS.lconst X0.here hx rfl (hb hby d2_41) ?_
    show Steps p.tables e below (T0.setTop (mkF m 42 #[.val (.long q), .second, .val (.int (own_len q 2))] [(.long (0 : Int64)), (.long ((q.toUInt64 >>> ((21 : Int32) &&& 0x3f).toInt64.toUInt64).toInt64)), (.int (own_len q 2))])) _
    refine XS.lcmp X0.here hx rfl (hb hby d2_42) rfl ?_
    show Steps p.tables e below (T0.setTop (mkF m 43 #[.val (.long q), .second, .val (.int (own_len q 2))] [(.int (lcmpW ((q.toUInt64 >>> ((21 : Int32) &&& 0x3f).toInt64.toUInt64).toInt64) (0 : Int64))), (.int (own_len q 2))])) _
    refine XS.ifYes X0.here hx rfl (pc0 := 43) (pc' := 50) rfl (hb hby d2_43) rfl ((if0 _ _).trans (teq h).1) (by decide) (by decide) ?_
    show Steps p.tables e below (T0.setTop (mkF m 50 #[.val (.long q), .second, .val (.int (own_len q 2))] [(.int (own_len q 2))])) _
    refine XS.iconst X0.here hx rfl (hb hby d2_50) ?_
    show Steps p.tables e below (T0.setTop (mkF m 51 #[.val (.long q), .second, .val (.int (own_len q 2))] [(.int (0 : Int32)), (.int (own_len q 2))])) _
    refine XS.iadd X0.here hx rfl (hb hby d2_51) rfl ?_
    show Steps p.tables e below (T0.setTop (mkF m 52 #[.val (.long q), .second, .val (.int (own_len q 2))] [(.int ((own_len q 2) + (0 : Int32)))])) _
    refine XS.istoreN X0.here hx rfl (hb hby d2_52) rfl (l' := #[.val (.long q), .second, .val (.int ((own_len q 2) + (0 : Int32)))]) rfl ?_
    exact kt
  · rw [show own_len q 3 = own_len q 2 + 1 from by show own_len q 2 + own_ne q 3 = _; rw [own_ne, if_neg h]] at kt
    show Steps p.tables e below (T0.setTop (mkF m 36 #[.val (.long q), .second, .val (.int (own_len q 2))] [])) _
    refine XS.iloadN X0.here hx rfl (hb hby d2_36) rfl ?_
    show Steps p.tables e below (T0.setTop (mkF m 37 #[.val (.long q), .second, .val (.int (own_len q 2))] [(.int (own_len q 2))])) _
    refine XS.lloadN X0.here hx rfl (hb hby d2_37) rfl ?_
    show Steps p.tables e below (T0.setTop (mkF m 38 #[.val (.long q), .second, .val (.int (own_len q 2))] [(.long q), (.int (own_len q 2))])) _
    refine XS.bipush X0.here hx rfl (hb hby d2_38) ?_
    show Steps p.tables e below (T0.setTop (mkF m 40 #[.val (.long q), .second, .val (.int (own_len q 2))] [(.int (21 : Int32)), (.long q), (.int (own_len q 2))])) _
    refine XS.lushr X0.here hx rfl (hb hby d2_40) rfl ?_
    show Steps p.tables e below (T0.setTop (mkF m 41 #[.val (.long q), .second, .val (.int (own_len q 2))] [(.long ((q.toUInt64 >>> ((21 : Int32) &&& 0x3f).toInt64.toUInt64).toInt64)), (.int (own_len q 2))])) _
    refine XS.lconst X0.here hx rfl (hb hby d2_41) ?_
    show Steps p.tables e below (T0.setTop (mkF m 42 #[.val (.long q), .second, .val (.int (own_len q 2))] [(.long (0 : Int64)), (.long ((q.toUInt64 >>> ((21 : Int32) &&& 0x3f).toInt64.toUInt64).toInt64)), (.int (own_len q 2))])) _
    refine XS.lcmp X0.here hx rfl (hb hby d2_42) rfl ?_
    show Steps p.tables e below (T0.setTop (mkF m 43 #[.val (.long q), .second, .val (.int (own_len q 2))] [(.int (lcmpW ((q.toUInt64 >>> ((21 : Int32) &&& 0x3f).toInt64.toUInt64).toInt64) (0 : Int64))), (.int (own_len q 2))])) _
    refine XS.ifNo X0.here hx rfl (hb hby d2_43) rfl ((if0 _ _).trans (feq h).1) ?_
    show Steps p.tables e below (T0.setTop (mkF m 46 #[.val (.long q), .second, .val (.int (own_len q 2))] [(.int (own_len q 2))])) _
    refine XS.iconst X0.here hx rfl (hb hby d2_46) ?_
    show Steps p.tables e below (T0.setTop (mkF m 47 #[.val (.long q), .second, .val (.int (own_len q 2))] [(.int (1 : Int32)), (.int (own_len q 2))])) _
    refine XS.goto X0.here hx rfl (pc0 := 47) (pc' := 51) rfl (hb hby d2_47) (by decide) (by decide) ?_
    show Steps p.tables e below (T0.setTop (mkF m 51 #[.val (.long q), .second, .val (.int (own_len q 2))] [(.int (1 : Int32)), (.int (own_len q 2))])) _
    refine XS.iadd X0.here hx rfl (hb hby d2_51) rfl ?_
    show Steps p.tables e below (T0.setTop (mkF m 52 #[.val (.long q), .second, .val (.int (own_len q 2))] [(.int ((own_len q 2) + (1 : Int32)))])) _
    refine XS.istoreN X0.here hx rfl (hb hby d2_52) rfl (l' := #[.val (.long q), .second, .val (.int ((own_len q 2) + (1 : Int32)))]) rfl ?_
    exact kt
set_option maxRecDepth 65536 in
set_option maxHeartbeats 40000000 in
theorem own_seg4 {p : Program} {l : Launch} {e : Env} {R : Room} {s : State} {m : MethodId} {args : Array Value} {below : List Frame} {meth : Method} {c : Code} {T0 : State} {locs : List Loc} {cells slots : Nat} {Z : State} {a0 : Array Value} {q : Int64}
    (X0 : Stand p l e R s m args below meth c T0 locs cells slots) (hx : p.tables.exec = Jvm.exec) (hZ : Z.Warmed39 s.vm) (hw : ∀ d ∈ tables_1, d.before a0 Z = true) (hby : c.code = method_3_code) (hown : s.vm.findClass "com/example/termweave/termweave/index/IndexFormatPutVarLongPinLaw" = some m.cls) :
    ∀ target, Steps p.tables e below (T0.setTop (mkF m 70 #[.val (.long q), .second, .val (.int (own_len q 4))] [])) target → Steps p.tables e below (T0.setTop (mkF m 53 #[.val (.long q), .second, .val (.int (own_len q 3))] [])) target := by
  intro target kt
  by_cases h : lcmpW (own_ush q (Int32.ofNat (7 * 4))) 0 = 0
  · rw [show own_len q 4 = own_len q 3 + 0 from by show own_len q 3 + own_ne q 4 = _; rw [own_ne, if_pos h]] at kt
    show Steps p.tables e below (T0.setTop (mkF m 53 #[.val (.long q), .second, .val (.int (own_len q 3))] [])) _
    refine XS.iloadN X0.here hx rfl (hb hby d2_53) rfl ?_
    show Steps p.tables e below (T0.setTop (mkF m 54 #[.val (.long q), .second, .val (.int (own_len q 3))] [(.int (own_len q 3))])) _
    refine XS.lloadN X0.here hx rfl (hb hby d2_54) rfl ?_
    show Steps p.tables e below (T0.setTop (mkF m 55 #[.val (.long q), .second, .val (.int (own_len q 3))] [(.long q), (.int (own_len q 3))])) _
    refine XS.bipush X0.here hx rfl (hb hby d2_55) ?_
    show Steps p.tables e below (T0.setTop (mkF m 57 #[.val (.long q), .second, .val (.int (own_len q 3))] [(.int (28 : Int32)), (.long q), (.int (own_len q 3))])) _
    refine XS.lushr X0.here hx rfl (hb hby d2_57) rfl ?_
    show Steps p.tables e below (T0.setTop (mkF m 58 #[.val (.long q), .second, .val (.int (own_len q 3))] [(.long ((q.toUInt64 >>> ((28 : Int32) &&& 0x3f).toInt64.toUInt64).toInt64)), (.int (own_len q 3))])) _
    refine XS.lconst X0.here hx rfl (hb hby d2_58) ?_
    show Steps p.tables e below (T0.setTop (mkF m 59 #[.val (.long q), .second, .val (.int (own_len q 3))] [(.long (0 : Int64)), (.long ((q.toUInt64 >>> ((28 : Int32) &&& 0x3f).toInt64.toUInt64).toInt64)), (.int (own_len q 3))])) _
    refine XS.lcmp X0.here hx rfl (hb hby d2_59) rfl ?_
    show Steps p.tables e below (T0.setTop (mkF m 60 #[.val (.long q), .second, .val (.int (own_len q 3))] [(.int (lcmpW ((q.toUInt64 >>> ((28 : Int32) &&& 0x3f).toInt64.toUInt64).toInt64) (0 : Int64))), (.int (own_len q 3))])) _
    refine XS.ifYes X0.here hx rfl (pc0 := 60) (pc' := 67) rfl (hb hby d2_60) rfl ((if0 _ _).trans (teq h).1) (by decide) (by decide) ?_
    show Steps p.tables e below (T0.setTop (mkF m 67 #[.val (.long q), .second, .val (.int (own_len q 3))] [(.int (own_len q 3))])) _
    refine XS.iconst X0.here hx rfl (hb hby d2_67) ?_
    show Steps p.tables e below (T0.setTop (mkF m 68 #[.val (.long q), .second, .val (.int (own_len q 3))] [(.int (0 : Int32)), (.int (own_len q 3))])) _
    refine XS.iadd X0.here hx rfl (hb hby d2_68) rfl ?_
    show Steps p.tables e below (T0.setTop (mkF m 69 #[.val (.long q), .second, .val (.int (own_len q 3))] [(.int ((own_len q 3) + (0 : Int32)))])) _
    refine XS.istoreN X0.here hx rfl (hb hby d2_69) rfl (l' := #[.val (.long q), .second, .val (.int ((own_len q 3) + (0 : Int32)))]) rfl ?_
    exact kt
  · rw [show own_len q 4 = own_len q 3 + 1 from by show own_len q 3 + own_ne q 4 = _; rw [own_ne, if_neg h]] at kt
    show Steps p.tables e below (T0.setTop (mkF m 53 #[.val (.long q), .second, .val (.int (own_len q 3))] [])) _
    refine XS.iloadN X0.here hx rfl (hb hby d2_53) rfl ?_
    show Steps p.tables e below (T0.setTop (mkF m 54 #[.val (.long q), .second, .val (.int (own_len q 3))] [(.int (own_len q 3))])) _
    refine XS.lloadN X0.here hx rfl (hb hby d2_54) rfl ?_
    show Steps p.tables e below (T0.setTop (mkF m 55 #[.val (.long q), .second, .val (.int (own_len q 3))] [(.long q), (.int (own_len q 3))])) _
    refine XS.bipush X0.here hx rfl (hb hby d2_55) ?_
    show Steps p.tables e below (T0.setTop (mkF m 57 #[.val (.long q), .second, .val (.int (own_len q 3))] [(.int (28 : Int32)), (.long q), (.int (own_len q 3))])) _
    refine XS.lushr X0.here hx rfl (hb hby d2_57) rfl ?_
    show Steps p.tables e below (T0.setTop (mkF m 58 #[.val (.long q), .second, .val (.int (own_len q 3))] [(.long ((q.toUInt64 >>> ((28 : Int32) &&& 0x3f).toInt64.toUInt64).toInt64)), (.int (own_len q 3))])) _
    refine XS.lconst X0.here hx rfl (hb hby d2_58) ?_
    show Steps p.tables e below (T0.setTop (mkF m 59 #[.val (.long q), .second, .val (.int (own_len q 3))] [(.long (0 : Int64)), (.long ((q.toUInt64 >>> ((28 : Int32) &&& 0x3f).toInt64.toUInt64).toInt64)), (.int (own_len q 3))])) _
    refine XS.lcmp X0.here hx rfl (hb hby d2_59) rfl ?_
    show Steps p.tables e below (T0.setTop (mkF m 60 #[.val (.long q), .second, .val (.int (own_len q 3))] [(.int (lcmpW ((q.toUInt64 >>> ((28 : Int32) &&& 0x3f).toInt64.toUInt64).toInt64) (0 : Int64))), (.int (own_len q 3))])) _
    refine XS.ifNo X0.here hx rfl (hb hby d2_60) rfl ((if0 _ _).trans (feq h).1) ?_
    show Steps p.tables e below (T0.setTop (mkF m 63 #[.val (.long q), .second, .val (.int (own_len q 3))] [(.int (own_len q 3))])) _
    refine XS.iconst X0.here hx rfl (hb hby d2_63) ?_
    show Steps p.tables e below (T0.setTop (mkF m 64 #[.val (.long q), .second, .val (.int (own_len q 3))] [(.int (1 : Int32)), (.int (own_len q 3))])) _
    refine XS.goto X0.here hx rfl (pc0 := 64) (pc' := 68) rfl (hb hby d2_64) (by decide) (by decide) ?_
    show Steps p.tables e below (T0.setTop (mkF m 68 #[.val (.long q), .second, .val (.int (own_len q 3))] [(.int (1 : Int32)), (.int (own_len q 3))])) _
    refine XS.iadd X0.here hx rfl (hb hby d2_68) rfl ?_
    show Steps p.tables e below (T0.setTop (mkF m 69 #[.val (.long q), .second, .val (.int (own_len q 3))] [(.int ((own_len q 3) + (1 : Int32)))])) _
    refine XS.istoreN X0.here hx rfl (hb hby d2_69) rfl (l' := #[.val (.long q), .second, .val (.int ((own_len q 3) + (1 : Int32)))]) rfl ?_
    exact kt
set_option maxRecDepth 65536 in
set_option maxHeartbeats 40000000 in
theorem own_seg5 {p : Program} {l : Launch} {e : Env} {R : Room} {s : State} {m : MethodId} {args : Array Value} {below : List Frame} {meth : Method} {c : Code} {T0 : State} {locs : List Loc} {cells slots : Nat} {Z : State} {a0 : Array Value} {q : Int64}
    (X0 : Stand p l e R s m args below meth c T0 locs cells slots) (hx : p.tables.exec = Jvm.exec) (hZ : Z.Warmed39 s.vm) (hw : ∀ d ∈ tables_1, d.before a0 Z = true) (hby : c.code = method_3_code) (hown : s.vm.findClass "com/example/termweave/termweave/index/IndexFormatPutVarLongPinLaw" = some m.cls) :
    ∀ target, Steps p.tables e below (T0.setTop (mkF m 87 #[.val (.long q), .second, .val (.int (own_len q 5))] [])) target → Steps p.tables e below (T0.setTop (mkF m 70 #[.val (.long q), .second, .val (.int (own_len q 4))] [])) target := by
  intro target kt
  by_cases h : lcmpW (own_ush q (Int32.ofNat (7 * 5))) 0 = 0
  · rw [show own_len q 5 = own_len q 4 + 0 from by show own_len q 4 + own_ne q 5 = _; rw [own_ne, if_pos h]] at kt
    show Steps p.tables e below (T0.setTop (mkF m 70 #[.val (.long q), .second, .val (.int (own_len q 4))] [])) _
    refine XS.iloadN X0.here hx rfl (hb hby d2_70) rfl ?_
    show Steps p.tables e below (T0.setTop (mkF m 71 #[.val (.long q), .second, .val (.int (own_len q 4))] [(.int (own_len q 4))])) _
    refine XS.lloadN X0.here hx rfl (hb hby d2_71) rfl ?_
    show Steps p.tables e below (T0.setTop (mkF m 72 #[.val (.long q), .second, .val (.int (own_len q 4))] [(.long q), (.int (own_len q 4))])) _
    refine XS.bipush X0.here hx rfl (hb hby d2_72) ?_
    show Steps p.tables e below (T0.setTop (mkF m 74 #[.val (.long q), .second, .val (.int (own_len q 4))] [(.int (35 : Int32)), (.long q), (.int (own_len q 4))])) _
    refine XS.lushr X0.here hx rfl (hb hby d2_74) rfl ?_
    show Steps p.tables e below (T0.setTop (mkF m 75 #[.val (.long q), .second, .val (.int (own_len q 4))] [(.long ((q.toUInt64 >>> ((35 : Int32) &&& 0x3f).toInt64.toUInt64).toInt64)), (.int (own_len q 4))])) _
    refine XS.lconst X0.here hx rfl (hb hby d2_75) ?_
    show Steps p.tables e below (T0.setTop (mkF m 76 #[.val (.long q), .second, .val (.int (own_len q 4))] [(.long (0 : Int64)), (.long ((q.toUInt64 >>> ((35 : Int32) &&& 0x3f).toInt64.toUInt64).toInt64)), (.int (own_len q 4))])) _
    refine XS.lcmp X0.here hx rfl (hb hby d2_76) rfl ?_
    show Steps p.tables e below (T0.setTop (mkF m 77 #[.val (.long q), .second, .val (.int (own_len q 4))] [(.int (lcmpW ((q.toUInt64 >>> ((35 : Int32) &&& 0x3f).toInt64.toUInt64).toInt64) (0 : Int64))), (.int (own_len q 4))])) _
    refine XS.ifYes X0.here hx rfl (pc0 := 77) (pc' := 84) rfl (hb hby d2_77) rfl ((if0 _ _).trans (teq h).1) (by decide) (by decide) ?_
    show Steps p.tables e below (T0.setTop (mkF m 84 #[.val (.long q), .second, .val (.int (own_len q 4))] [(.int (own_len q 4))])) _
    refine XS.iconst X0.here hx rfl (hb hby d2_84) ?_
    show Steps p.tables e below (T0.setTop (mkF m 85 #[.val (.long q), .second, .val (.int (own_len q 4))] [(.int (0 : Int32)), (.int (own_len q 4))])) _
    refine XS.iadd X0.here hx rfl (hb hby d2_85) rfl ?_
    show Steps p.tables e below (T0.setTop (mkF m 86 #[.val (.long q), .second, .val (.int (own_len q 4))] [(.int ((own_len q 4) + (0 : Int32)))])) _
    refine XS.istoreN X0.here hx rfl (hb hby d2_86) rfl (l' := #[.val (.long q), .second, .val (.int ((own_len q 4) + (0 : Int32)))]) rfl ?_
    exact kt
  · rw [show own_len q 5 = own_len q 4 + 1 from by show own_len q 4 + own_ne q 5 = _; rw [own_ne, if_neg h]] at kt
    show Steps p.tables e below (T0.setTop (mkF m 70 #[.val (.long q), .second, .val (.int (own_len q 4))] [])) _
    refine XS.iloadN X0.here hx rfl (hb hby d2_70) rfl ?_
    show Steps p.tables e below (T0.setTop (mkF m 71 #[.val (.long q), .second, .val (.int (own_len q 4))] [(.int (own_len q 4))])) _
    refine XS.lloadN X0.here hx rfl (hb hby d2_71) rfl ?_
    show Steps p.tables e below (T0.setTop (mkF m 72 #[.val (.long q), .second, .val (.int (own_len q 4))] [(.long q), (.int (own_len q 4))])) _
    refine XS.bipush X0.here hx rfl (hb hby d2_72) ?_
    show Steps p.tables e below (T0.setTop (mkF m 74 #[.val (.long q), .second, .val (.int (own_len q 4))] [(.int (35 : Int32)), (.long q), (.int (own_len q 4))])) _
    refine XS.lushr X0.here hx rfl (hb hby d2_74) rfl ?_
    show Steps p.tables e below (T0.setTop (mkF m 75 #[.val (.long q), .second, .val (.int (own_len q 4))] [(.long ((q.toUInt64 >>> ((35 : Int32) &&& 0x3f).toInt64.toUInt64).toInt64)), (.int (own_len q 4))])) _
    refine XS.lconst X0.here hx rfl (hb hby d2_75) ?_
    show Steps p.tables e below (T0.setTop (mkF m 76 #[.val (.long q), .second, .val (.int (own_len q 4))] [(.long (0 : Int64)), (.long ((q.toUInt64 >>> ((35 : Int32) &&& 0x3f).toInt64.toUInt64).toInt64)), (.int (own_len q 4))])) _
    refine XS.lcmp X0.here hx rfl (hb hby d2_76) rfl ?_
    show Steps p.tables e below (T0.setTop (mkF m 77 #[.val (.long q), .second, .val (.int (own_len q 4))] [(.int (lcmpW ((q.toUInt64 >>> ((35 : Int32) &&& 0x3f).toInt64.toUInt64).toInt64) (0 : Int64))), (.int (own_len q 4))])) _
    refine XS.ifNo X0.here hx rfl (hb hby d2_77) rfl ((if0 _ _).trans (feq h).1) ?_
    show Steps p.tables e below (T0.setTop (mkF m 80 #[.val (.long q), .second, .val (.int (own_len q 4))] [(.int (own_len q 4))])) _
    refine XS.iconst X0.here hx rfl (hb hby d2_80) ?_
    show Steps p.tables e below (T0.setTop (mkF m 81 #[.val (.long q), .second, .val (.int (own_len q 4))] [(.int (1 : Int32)), (.int (own_len q 4))])) _
    refine XS.goto X0.here hx rfl (pc0 := 81) (pc' := 85) rfl (hb hby d2_81) (by decide) (by decide) ?_
    show Steps p.tables e below (T0.setTop (mkF m 85 #[.val (.long q), .second, .val (.int (own_len q 4))] [(.int (1 : Int32)), (.int (own_len q 4))])) _
    refine XS.iadd X0.here hx rfl (hb hby d2_85) rfl ?_
    show Steps p.tables e below (T0.setTop (mkF m 86 #[.val (.long q), .second, .val (.int (own_len q 4))] [(.int ((own_len q 4) + (1 : Int32)))])) _
    refine XS.istoreN X0.here hx rfl (hb hby d2_86) rfl (l' := #[.val (.long q), .second, .val (.int ((own_len q 4) + (1 : Int32)))]) rfl ?_
    exact kt
set_option maxRecDepth 65536 in
set_option maxHeartbeats 40000000 in
theorem own_seg6 {p : Program} {l : Launch} {e : Env} {R : Room} {s : State} {m : MethodId} {args : Array Value} {below : List Frame} {meth : Method} {c : Code} {T0 : State} {locs : List Loc} {cells slots : Nat} {Z : State} {a0 : Array Value} {q : Int64}
    (X0 : Stand p l e R s m args below meth c T0 locs cells slots) (hx : p.tables.exec = Jvm.exec) (hZ : Z.Warmed39 s.vm) (hw : ∀ d ∈ tables_1, d.before a0 Z = true) (hby : c.code = method_3_code) (hown : s.vm.findClass "com/example/termweave/termweave/index/IndexFormatPutVarLongPinLaw" = some m.cls) :
    ∀ target, Steps p.tables e below (T0.setTop (mkF m 104 #[.val (.long q), .second, .val (.int (own_len q 6))] [])) target → Steps p.tables e below (T0.setTop (mkF m 87 #[.val (.long q), .second, .val (.int (own_len q 5))] [])) target := by
  intro target kt
  by_cases h : lcmpW (own_ush q (Int32.ofNat (7 * 6))) 0 = 0
  · rw [show own_len q 6 = own_len q 5 + 0 from by show own_len q 5 + own_ne q 6 = _; rw [own_ne, if_pos h]] at kt
    show Steps p.tables e below (T0.setTop (mkF m 87 #[.val (.long q), .second, .val (.int (own_len q 5))] [])) _
    refine XS.iloadN X0.here hx rfl (hb hby d2_87) rfl ?_
    show Steps p.tables e below (T0.setTop (mkF m 88 #[.val (.long q), .second, .val (.int (own_len q 5))] [(.int (own_len q 5))])) _
    refine XS.lloadN X0.here hx rfl (hb hby d2_88) rfl ?_
    show Steps p.tables e below (T0.setTop (mkF m 89 #[.val (.long q), .second, .val (.int (own_len q 5))] [(.long q), (.int (own_len q 5))])) _
    refine XS.bipush X0.here hx rfl (hb hby d2_89) ?_
    show Steps p.tables e below (T0.setTop (mkF m 91 #[.val (.long q), .second, .val (.int (own_len q 5))] [(.int (42 : Int32)), (.long q), (.int (own_len q 5))])) _
    refine XS.lushr X0.here hx rfl (hb hby d2_91) rfl ?_
    show Steps p.tables e below (T0.setTop (mkF m 92 #[.val (.long q), .second, .val (.int (own_len q 5))] [(.long ((q.toUInt64 >>> ((42 : Int32) &&& 0x3f).toInt64.toUInt64).toInt64)), (.int (own_len q 5))])) _
    refine XS.lconst X0.here hx rfl (hb hby d2_92) ?_
    show Steps p.tables e below (T0.setTop (mkF m 93 #[.val (.long q), .second, .val (.int (own_len q 5))] [(.long (0 : Int64)), (.long ((q.toUInt64 >>> ((42 : Int32) &&& 0x3f).toInt64.toUInt64).toInt64)), (.int (own_len q 5))])) _
    refine XS.lcmp X0.here hx rfl (hb hby d2_93) rfl ?_
    show Steps p.tables e below (T0.setTop (mkF m 94 #[.val (.long q), .second, .val (.int (own_len q 5))] [(.int (lcmpW ((q.toUInt64 >>> ((42 : Int32) &&& 0x3f).toInt64.toUInt64).toInt64) (0 : Int64))), (.int (own_len q 5))])) _
    refine XS.ifYes X0.here hx rfl (pc0 := 94) (pc' := 101) rfl (hb hby d2_94) rfl ((if0 _ _).trans (teq h).1) (by decide) (by decide) ?_
    show Steps p.tables e below (T0.setTop (mkF m 101 #[.val (.long q), .second, .val (.int (own_len q 5))] [(.int (own_len q 5))])) _
    refine XS.iconst X0.here hx rfl (hb hby d2_101) ?_
    show Steps p.tables e below (T0.setTop (mkF m 102 #[.val (.long q), .second, .val (.int (own_len q 5))] [(.int (0 : Int32)), (.int (own_len q 5))])) _
    refine XS.iadd X0.here hx rfl (hb hby d2_102) rfl ?_
    show Steps p.tables e below (T0.setTop (mkF m 103 #[.val (.long q), .second, .val (.int (own_len q 5))] [(.int ((own_len q 5) + (0 : Int32)))])) _
    refine XS.istoreN X0.here hx rfl (hb hby d2_103) rfl (l' := #[.val (.long q), .second, .val (.int ((own_len q 5) + (0 : Int32)))]) rfl ?_
    exact kt
  · rw [show own_len q 6 = own_len q 5 + 1 from by show own_len q 5 + own_ne q 6 = _; rw [own_ne, if_neg h]] at kt
    show Steps p.tables e below (T0.setTop (mkF m 87 #[.val (.long q), .second, .val (.int (own_len q 5))] [])) _
    refine XS.iloadN X0.here hx rfl (hb hby d2_87) rfl ?_
    show Steps p.tables e below (T0.setTop (mkF m 88 #[.val (.long q), .second, .val (.int (own_len q 5))] [(.int (own_len q 5))])) _
    refine XS.lloadN X0.here hx rfl (hb hby d2_88) rfl ?_
    show Steps p.tables e below (T0.setTop (mkF m 89 #[.val (.long q), .second, .val (.int (own_len q 5))] [(.long q), (.int (own_len q 5))])) _
    refine XS.bipush X0.here hx rfl (hb hby d2_89) ?_
    show Steps p.tables e below (T0.setTop (mkF m 91 #[.val (.long q), .second, .val (.int (own_len q 5))] [(.int (42 : Int32)), (.long q), (.int (own_len q 5))])) _
    refine XS.lushr X0.here hx rfl (hb hby d2_91) rfl ?_
    show Steps p.tables e below (T0.setTop (mkF m 92 #[.val (.long q), .second, .val (.int (own_len q 5))] [(.long ((q.toUInt64 >>> ((42 : Int32) &&& 0x3f).toInt64.toUInt64).toInt64)), (.int (own_len q 5))])) _
    refine XS.lconst X0.here hx rfl (hb hby d2_92) ?_
    show Steps p.tables e below (T0.setTop (mkF m 93 #[.val (.long q), .second, .val (.int (own_len q 5))] [(.long (0 : Int64)), (.long ((q.toUInt64 >>> ((42 : Int32) &&& 0x3f).toInt64.toUInt64).toInt64)), (.int (own_len q 5))])) _
    refine XS.lcmp X0.here hx rfl (hb hby d2_93) rfl ?_
    show Steps p.tables e below (T0.setTop (mkF m 94 #[.val (.long q), .second, .val (.int (own_len q 5))] [(.int (lcmpW ((q.toUInt64 >>> ((42 : Int32) &&& 0x3f).toInt64.toUInt64).toInt64) (0 : Int64))), (.int (own_len q 5))])) _
    refine XS.ifNo X0.here hx rfl (hb hby d2_94) rfl ((if0 _ _).trans (feq h).1) ?_
    show Steps p.tables e below (T0.setTop (mkF m 97 #[.val (.long q), .second, .val (.int (own_len q 5))] [(.int (own_len q 5))])) _
    refine XS.iconst X0.here hx rfl (hb hby d2_97) ?_
    show Steps p.tables e below (T0.setTop (mkF m 98 #[.val (.long q), .second, .val (.int (own_len q 5))] [(.int (1 : Int32)), (.int (own_len q 5))])) _
    refine XS.goto X0.here hx rfl (pc0 := 98) (pc' := 102) rfl (hb hby d2_98) (by decide) (by decide) ?_
    show Steps p.tables e below (T0.setTop (mkF m 102 #[.val (.long q), .second, .val (.int (own_len q 5))] [(.int (1 : Int32)), (.int (own_len q 5))])) _
    refine XS.iadd X0.here hx rfl (hb hby d2_102) rfl ?_
    show Steps p.tables e below (T0.setTop (mkF m 103 #[.val (.long q), .second, .val (.int (own_len q 5))] [(.int ((own_len q 5) + (1 : Int32)))])) _
    refine XS.istoreN X0.here hx rfl (hb hby d2_103) rfl (l' := #[.val (.long q), .second, .val (.int ((own_len q 5) + (1 : Int32)))]) rfl ?_
    exact kt
set_option maxRecDepth 65536 in
set_option maxHeartbeats 40000000 in
theorem own_seg7 {p : Program} {l : Launch} {e : Env} {R : Room} {s : State} {m : MethodId} {args : Array Value} {below : List Frame} {meth : Method} {c : Code} {T0 : State} {locs : List Loc} {cells slots : Nat} {Z : State} {a0 : Array Value} {q : Int64}
    (X0 : Stand p l e R s m args below meth c T0 locs cells slots) (hx : p.tables.exec = Jvm.exec) (hZ : Z.Warmed39 s.vm) (hw : ∀ d ∈ tables_1, d.before a0 Z = true) (hby : c.code = method_3_code) (hown : s.vm.findClass "com/example/termweave/termweave/index/IndexFormatPutVarLongPinLaw" = some m.cls) :
    ∀ target, Steps p.tables e below (T0.setTop (mkF m 121 #[.val (.long q), .second, .val (.int (own_len q 7))] [])) target → Steps p.tables e below (T0.setTop (mkF m 104 #[.val (.long q), .second, .val (.int (own_len q 6))] [])) target := by
  intro target kt
  by_cases h : lcmpW (own_ush q (Int32.ofNat (7 * 7))) 0 = 0
  · rw [show own_len q 7 = own_len q 6 + 0 from by show own_len q 6 + own_ne q 7 = _; rw [own_ne, if_pos h]] at kt
    show Steps p.tables e below (T0.setTop (mkF m 104 #[.val (.long q), .second, .val (.int (own_len q 6))] [])) _
    refine XS.iloadN X0.here hx rfl (hb hby d2_104) rfl ?_
    show Steps p.tables e below (T0.setTop (mkF m 105 #[.val (.long q), .second, .val (.int (own_len q 6))] [(.int (own_len q 6))])) _
    refine XS.lloadN X0.here hx rfl (hb hby d2_105) rfl ?_
    show Steps p.tables e below (T0.setTop (mkF m 106 #[.val (.long q), .second, .val (.int (own_len q 6))] [(.long q), (.int (own_len q 6))])) _
    refine XS.bipush X0.here hx rfl (hb hby d2_106) ?_
    show Steps p.tables e below (T0.setTop (mkF m 108 #[.val (.long q), .second, .val (.int (own_len q 6))] [(.int (49 : Int32)), (.long q), (.int (own_len q 6))])) _
    refine XS.lushr X0.here hx rfl (hb hby d2_108) rfl ?_
    show Steps p.tables e below (T0.setTop (mkF m 109 #[.val (.long q), .second, .val (.int (own_len q 6))] [(.long ((q.toUInt64 >>> ((49 : Int32) &&& 0x3f).toInt64.toUInt64).toInt64)), (.int (own_len q 6))])) _
    refine XS.lconst X0.here hx rfl (hb hby d2_109) ?_
    show Steps p.tables e below (T0.setTop (mkF m 110 #[.val (.long q), .second, .val (.int (own_len q 6))] [(.long (0 : Int64)), (.long ((q.toUInt64 >>> ((49 : Int32) &&& 0x3f).toInt64.toUInt64).toInt64)), (.int (own_len q 6))])) _
    refine XS.lcmp X0.here hx rfl (hb hby d2_110) rfl ?_
    show Steps p.tables e below (T0.setTop (mkF m 111 #[.val (.long q), .second, .val (.int (own_len q 6))] [(.int (lcmpW ((q.toUInt64 >>> ((49 : Int32) &&& 0x3f).toInt64.toUInt64).toInt64) (0 : Int64))), (.int (own_len q 6))])) _
    refine XS.ifYes X0.here hx rfl (pc0 := 111) (pc' := 118) rfl (hb hby d2_111) rfl ((if0 _ _).trans (teq h).1) (by decide) (by decide) ?_
    show Steps p.tables e below (T0.setTop (mkF m 118 #[.val (.long q), .second, .val (.int (own_len q 6))] [(.int (own_len q 6))])) _
    refine XS.iconst X0.here hx rfl (hb hby d2_118) ?_
    show Steps p.tables e below (T0.setTop (mkF m 119 #[.val (.long q), .second, .val (.int (own_len q 6))] [(.int (0 : Int32)), (.int (own_len q 6))])) _
    refine XS.iadd X0.here hx rfl (hb hby d2_119) rfl ?_
    show Steps p.tables e below (T0.setTop (mkF m 120 #[.val (.long q), .second, .val (.int (own_len q 6))] [(.int ((own_len q 6) + (0 : Int32)))])) _
    refine XS.istoreN X0.here hx rfl (hb hby d2_120) rfl (l' := #[.val (.long q), .second, .val (.int ((own_len q 6) + (0 : Int32)))]) rfl ?_
    exact kt
  · rw [show own_len q 7 = own_len q 6 + 1 from by show own_len q 6 + own_ne q 7 = _; rw [own_ne, if_neg h]] at kt
    show Steps p.tables e below (T0.setTop (mkF m 104 #[.val (.long q), .second, .val (.int (own_len q 6))] [])) _
    refine XS.iloadN X0.here hx rfl (hb hby d2_104) rfl ?_
    show Steps p.tables e below (T0.setTop (mkF m 105 #[.val (.long q), .second, .val (.int (own_len q 6))] [(.int (own_len q 6))])) _
    refine XS.lloadN X0.here hx rfl (hb hby d2_105) rfl ?_
    show Steps p.tables e below (T0.setTop (mkF m 106 #[.val (.long q), .second, .val (.int (own_len q 6))] [(.long q), (.int (own_len q 6))])) _
    refine XS.bipush X0.here hx rfl (hb hby d2_106) ?_
    show Steps p.tables e below (T0.setTop (mkF m 108 #[.val (.long q), .second, .val (.int (own_len q 6))] [(.int (49 : Int32)), (.long q), (.int (own_len q 6))])) _
    refine XS.lushr X0.here hx rfl (hb hby d2_108) rfl ?_
    show Steps p.tables e below (T0.setTop (mkF m 109 #[.val (.long q), .second, .val (.int (own_len q 6))] [(.long ((q.toUInt64 >>> ((49 : Int32) &&& 0x3f).toInt64.toUInt64).toInt64)), (.int (own_len q 6))])) _
    refine XS.lconst X0.here hx rfl (hb hby d2_109) ?_
    show Steps p.tables e below (T0.setTop (mkF m 110 #[.val (.long q), .second, .val (.int (own_len q 6))] [(.long (0 : Int64)), (.long ((q.toUInt64 >>> ((49 : Int32) &&& 0x3f).toInt64.toUInt64).toInt64)), (.int (own_len q 6))])) _
    refine XS.lcmp X0.here hx rfl (hb hby d2_110) rfl ?_
    show Steps p.tables e below (T0.setTop (mkF m 111 #[.val (.long q), .second, .val (.int (own_len q 6))] [(.int (lcmpW ((q.toUInt64 >>> ((49 : Int32) &&& 0x3f).toInt64.toUInt64).toInt64) (0 : Int64))), (.int (own_len q 6))])) _
    refine XS.ifNo X0.here hx rfl (hb hby d2_111) rfl ((if0 _ _).trans (feq h).1) ?_
    show Steps p.tables e below (T0.setTop (mkF m 114 #[.val (.long q), .second, .val (.int (own_len q 6))] [(.int (own_len q 6))])) _
    refine XS.iconst X0.here hx rfl (hb hby d2_114) ?_
    show Steps p.tables e below (T0.setTop (mkF m 115 #[.val (.long q), .second, .val (.int (own_len q 6))] [(.int (1 : Int32)), (.int (own_len q 6))])) _
    refine XS.goto X0.here hx rfl (pc0 := 115) (pc' := 119) rfl (hb hby d2_115) (by decide) (by decide) ?_
    show Steps p.tables e below (T0.setTop (mkF m 119 #[.val (.long q), .second, .val (.int (own_len q 6))] [(.int (1 : Int32)), (.int (own_len q 6))])) _
    refine XS.iadd X0.here hx rfl (hb hby d2_119) rfl ?_
    show Steps p.tables e below (T0.setTop (mkF m 120 #[.val (.long q), .second, .val (.int (own_len q 6))] [(.int ((own_len q 6) + (1 : Int32)))])) _
    refine XS.istoreN X0.here hx rfl (hb hby d2_120) rfl (l' := #[.val (.long q), .second, .val (.int ((own_len q 6) + (1 : Int32)))]) rfl ?_
    exact kt
set_option maxRecDepth 65536 in
set_option maxHeartbeats 40000000 in
theorem own_seg8 {p : Program} {l : Launch} {e : Env} {R : Room} {s : State} {m : MethodId} {args : Array Value} {below : List Frame} {meth : Method} {c : Code} {T0 : State} {locs : List Loc} {cells slots : Nat} {Z : State} {a0 : Array Value} {q : Int64}
    (X0 : Stand p l e R s m args below meth c T0 locs cells slots) (hx : p.tables.exec = Jvm.exec) (hZ : Z.Warmed39 s.vm) (hw : ∀ d ∈ tables_1, d.before a0 Z = true) (hby : c.code = method_3_code) (hown : s.vm.findClass "com/example/termweave/termweave/index/IndexFormatPutVarLongPinLaw" = some m.cls) :
    ∀ target, Steps p.tables e below (T0.setTop (mkF m 138 #[.val (.long q), .second, .val (.int (own_len q 8))] [])) target → Steps p.tables e below (T0.setTop (mkF m 121 #[.val (.long q), .second, .val (.int (own_len q 7))] [])) target := by
  intro target kt
  by_cases h : lcmpW (own_ush q (Int32.ofNat (7 * 8))) 0 = 0
  · rw [show own_len q 8 = own_len q 7 + 0 from by show own_len q 7 + own_ne q 8 = _; rw [own_ne, if_pos h]] at kt
    show Steps p.tables e below (T0.setTop (mkF m 121 #[.val (.long q), .second, .val (.int (own_len q 7))] [])) _
    refine XS.iloadN X0.here hx rfl (hb hby d2_121) rfl ?_
    show Steps p.tables e below (T0.setTop (mkF m 122 #[.val (.long q), .second, .val (.int (own_len q 7))] [(.int (own_len q 7))])) _
    refine XS.lloadN X0.here hx rfl (hb hby d2_122) rfl ?_
    show Steps p.tables e below (T0.setTop (mkF m 123 #[.val (.long q), .second, .val (.int (own_len q 7))] [(.long q), (.int (own_len q 7))])) _
    refine XS.bipush X0.here hx rfl (hb hby d2_123) ?_
    show Steps p.tables e below (T0.setTop (mkF m 125 #[.val (.long q), .second, .val (.int (own_len q 7))] [(.int (56 : Int32)), (.long q), (.int (own_len q 7))])) _
    refine XS.lushr X0.here hx rfl (hb hby d2_125) rfl ?_
    show Steps p.tables e below (T0.setTop (mkF m 126 #[.val (.long q), .second, .val (.int (own_len q 7))] [(.long ((q.toUInt64 >>> ((56 : Int32) &&& 0x3f).toInt64.toUInt64).toInt64)), (.int (own_len q 7))])) _
    refine XS.lconst X0.here hx rfl (hb hby d2_126) ?_
    show Steps p.tables e below (T0.setTop (mkF m 127 #[.val (.long q), .second, .val (.int (own_len q 7))] [(.long (0 : Int64)), (.long ((q.toUInt64 >>> ((56 : Int32) &&& 0x3f).toInt64.toUInt64).toInt64)), (.int (own_len q 7))])) _
    refine XS.lcmp X0.here hx rfl (hb hby d2_127) rfl ?_
    show Steps p.tables e below (T0.setTop (mkF m 128 #[.val (.long q), .second, .val (.int (own_len q 7))] [(.int (lcmpW ((q.toUInt64 >>> ((56 : Int32) &&& 0x3f).toInt64.toUInt64).toInt64) (0 : Int64))), (.int (own_len q 7))])) _
    refine XS.ifYes X0.here hx rfl (pc0 := 128) (pc' := 135) rfl (hb hby d2_128) rfl ((if0 _ _).trans (teq h).1) (by decide) (by decide) ?_
    show Steps p.tables e below (T0.setTop (mkF m 135 #[.val (.long q), .second, .val (.int (own_len q 7))] [(.int (own_len q 7))])) _
    refine XS.iconst X0.here hx rfl (hb hby d2_135) ?_
    show Steps p.tables e below (T0.setTop (mkF m 136 #[.val (.long q), .second, .val (.int (own_len q 7))] [(.int (0 : Int32)), (.int (own_len q 7))])) _
    refine XS.iadd X0.here hx rfl (hb hby d2_136) rfl ?_
    show Steps p.tables e below (T0.setTop (mkF m 137 #[.val (.long q), .second, .val (.int (own_len q 7))] [(.int ((own_len q 7) + (0 : Int32)))])) _
    refine XS.istoreN X0.here hx rfl (hb hby d2_137) rfl (l' := #[.val (.long q), .second, .val (.int ((own_len q 7) + (0 : Int32)))]) rfl ?_
    exact kt
  · rw [show own_len q 8 = own_len q 7 + 1 from by show own_len q 7 + own_ne q 8 = _; rw [own_ne, if_neg h]] at kt
    show Steps p.tables e below (T0.setTop (mkF m 121 #[.val (.long q), .second, .val (.int (own_len q 7))] [])) _
    refine XS.iloadN X0.here hx rfl (hb hby d2_121) rfl ?_
    show Steps p.tables e below (T0.setTop (mkF m 122 #[.val (.long q), .second, .val (.int (own_len q 7))] [(.int (own_len q 7))])) _
    refine XS.lloadN X0.here hx rfl (hb hby d2_122) rfl ?_
    show Steps p.tables e below (T0.setTop (mkF m 123 #[.val (.long q), .second, .val (.int (own_len q 7))] [(.long q), (.int (own_len q 7))])) _
    refine XS.bipush X0.here hx rfl (hb hby d2_123) ?_
    show Steps p.tables e below (T0.setTop (mkF m 125 #[.val (.long q), .second, .val (.int (own_len q 7))] [(.int (56 : Int32)), (.long q), (.int (own_len q 7))])) _
    refine XS.lushr X0.here hx rfl (hb hby d2_125) rfl ?_
    show Steps p.tables e below (T0.setTop (mkF m 126 #[.val (.long q), .second, .val (.int (own_len q 7))] [(.long ((q.toUInt64 >>> ((56 : Int32) &&& 0x3f).toInt64.toUInt64).toInt64)), (.int (own_len q 7))])) _
    refine XS.lconst X0.here hx rfl (hb hby d2_126) ?_
    show Steps p.tables e below (T0.setTop (mkF m 127 #[.val (.long q), .second, .val (.int (own_len q 7))] [(.long (0 : Int64)), (.long ((q.toUInt64 >>> ((56 : Int32) &&& 0x3f).toInt64.toUInt64).toInt64)), (.int (own_len q 7))])) _
    refine XS.lcmp X0.here hx rfl (hb hby d2_127) rfl ?_
    show Steps p.tables e below (T0.setTop (mkF m 128 #[.val (.long q), .second, .val (.int (own_len q 7))] [(.int (lcmpW ((q.toUInt64 >>> ((56 : Int32) &&& 0x3f).toInt64.toUInt64).toInt64) (0 : Int64))), (.int (own_len q 7))])) _
    refine XS.ifNo X0.here hx rfl (hb hby d2_128) rfl ((if0 _ _).trans (feq h).1) ?_
    show Steps p.tables e below (T0.setTop (mkF m 131 #[.val (.long q), .second, .val (.int (own_len q 7))] [(.int (own_len q 7))])) _
    refine XS.iconst X0.here hx rfl (hb hby d2_131) ?_
    show Steps p.tables e below (T0.setTop (mkF m 132 #[.val (.long q), .second, .val (.int (own_len q 7))] [(.int (1 : Int32)), (.int (own_len q 7))])) _
    refine XS.goto X0.here hx rfl (pc0 := 132) (pc' := 136) rfl (hb hby d2_132) (by decide) (by decide) ?_
    show Steps p.tables e below (T0.setTop (mkF m 136 #[.val (.long q), .second, .val (.int (own_len q 7))] [(.int (1 : Int32)), (.int (own_len q 7))])) _
    refine XS.iadd X0.here hx rfl (hb hby d2_136) rfl ?_
    show Steps p.tables e below (T0.setTop (mkF m 137 #[.val (.long q), .second, .val (.int (own_len q 7))] [(.int ((own_len q 7) + (1 : Int32)))])) _
    refine XS.istoreN X0.here hx rfl (hb hby d2_137) rfl (l' := #[.val (.long q), .second, .val (.int ((own_len q 7) + (1 : Int32)))]) rfl ?_
    exact kt
set_option maxRecDepth 65536 in
set_option maxHeartbeats 40000000 in
theorem own_seg9 {p : Program} {l : Launch} {e : Env} {R : Room} {s : State} {m : MethodId} {args : Array Value} {below : List Frame} {meth : Method} {c : Code} {T0 : State} {locs : List Loc} {cells slots : Nat} {Z : State} {a0 : Array Value} {q : Int64}
    (X0 : Stand p l e R s m args below meth c T0 locs cells slots) (hx : p.tables.exec = Jvm.exec) (hZ : Z.Warmed39 s.vm) (hw : ∀ d ∈ tables_1, d.before a0 Z = true) (hby : c.code = method_3_code) (hown : s.vm.findClass "com/example/termweave/termweave/index/IndexFormatPutVarLongPinLaw" = some m.cls) :
    ∀ target, Steps p.tables e below (T0.setTop (mkF m 155 #[.val (.long q), .second, .val (.int (own_len q 9))] [])) target → Steps p.tables e below (T0.setTop (mkF m 138 #[.val (.long q), .second, .val (.int (own_len q 8))] [])) target := by
  intro target kt
  by_cases h : lcmpW (own_ush q (Int32.ofNat (7 * 9))) 0 = 0
  · rw [show own_len q 9 = own_len q 8 + 0 from by show own_len q 8 + own_ne q 9 = _; rw [own_ne, if_pos h]] at kt
    show Steps p.tables e below (T0.setTop (mkF m 138 #[.val (.long q), .second, .val (.int (own_len q 8))] [])) _
    refine XS.iloadN X0.here hx rfl (hb hby d2_138) rfl ?_
    show Steps p.tables e below (T0.setTop (mkF m 139 #[.val (.long q), .second, .val (.int (own_len q 8))] [(.int (own_len q 8))])) _
    refine XS.lloadN X0.here hx rfl (hb hby d2_139) rfl ?_
    show Steps p.tables e below (T0.setTop (mkF m 140 #[.val (.long q), .second, .val (.int (own_len q 8))] [(.long q), (.int (own_len q 8))])) _
    refine XS.bipush X0.here hx rfl (hb hby d2_140) ?_
    show Steps p.tables e below (T0.setTop (mkF m 142 #[.val (.long q), .second, .val (.int (own_len q 8))] [(.int (63 : Int32)), (.long q), (.int (own_len q 8))])) _
    refine XS.lushr X0.here hx rfl (hb hby d2_142) rfl ?_
    show Steps p.tables e below (T0.setTop (mkF m 143 #[.val (.long q), .second, .val (.int (own_len q 8))] [(.long ((q.toUInt64 >>> ((63 : Int32) &&& 0x3f).toInt64.toUInt64).toInt64)), (.int (own_len q 8))])) _
    refine XS.lconst X0.here hx rfl (hb hby d2_143) ?_
    show Steps p.tables e below (T0.setTop (mkF m 144 #[.val (.long q), .second, .val (.int (own_len q 8))] [(.long (0 : Int64)), (.long ((q.toUInt64 >>> ((63 : Int32) &&& 0x3f).toInt64.toUInt64).toInt64)), (.int (own_len q 8))])) _
    refine XS.lcmp X0.here hx rfl (hb hby d2_144) rfl ?_
    show Steps p.tables e below (T0.setTop (mkF m 145 #[.val (.long q), .second, .val (.int (own_len q 8))] [(.int (lcmpW ((q.toUInt64 >>> ((63 : Int32) &&& 0x3f).toInt64.toUInt64).toInt64) (0 : Int64))), (.int (own_len q 8))])) _
    refine XS.ifYes X0.here hx rfl (pc0 := 145) (pc' := 152) rfl (hb hby d2_145) rfl ((if0 _ _).trans (teq h).1) (by decide) (by decide) ?_
    show Steps p.tables e below (T0.setTop (mkF m 152 #[.val (.long q), .second, .val (.int (own_len q 8))] [(.int (own_len q 8))])) _
    refine XS.iconst X0.here hx rfl (hb hby d2_152) ?_
    show Steps p.tables e below (T0.setTop (mkF m 153 #[.val (.long q), .second, .val (.int (own_len q 8))] [(.int (0 : Int32)), (.int (own_len q 8))])) _
    refine XS.iadd X0.here hx rfl (hb hby d2_153) rfl ?_
    show Steps p.tables e below (T0.setTop (mkF m 154 #[.val (.long q), .second, .val (.int (own_len q 8))] [(.int ((own_len q 8) + (0 : Int32)))])) _
    refine XS.istoreN X0.here hx rfl (hb hby d2_154) rfl (l' := #[.val (.long q), .second, .val (.int ((own_len q 8) + (0 : Int32)))]) rfl ?_
    exact kt
  · rw [show own_len q 9 = own_len q 8 + 1 from by show own_len q 8 + own_ne q 9 = _; rw [own_ne, if_neg h]] at kt
    show Steps p.tables e below (T0.setTop (mkF m 138 #[.val (.long q), .second, .val (.int (own_len q 8))] [])) _
    refine XS.iloadN X0.here hx rfl (hb hby d2_138) rfl ?_
    show Steps p.tables e below (T0.setTop (mkF m 139 #[.val (.long q), .second, .val (.int (own_len q 8))] [(.int (own_len q 8))])) _
    refine XS.lloadN X0.here hx rfl (hb hby d2_139) rfl ?_
    show Steps p.tables e below (T0.setTop (mkF m 140 #[.val (.long q), .second, .val (.int (own_len q 8))] [(.long q), (.int (own_len q 8))])) _
    refine XS.bipush X0.here hx rfl (hb hby d2_140) ?_
    show Steps p.tables e below (T0.setTop (mkF m 142 #[.val (.long q), .second, .val (.int (own_len q 8))] [(.int (63 : Int32)), (.long q), (.int (own_len q 8))])) _
    refine XS.lushr X0.here hx rfl (hb hby d2_142) rfl ?_
    show Steps p.tables e below (T0.setTop (mkF m 143 #[.val (.long q), .second, .val (.int (own_len q 8))] [(.long ((q.toUInt64 >>> ((63 : Int32) &&& 0x3f).toInt64.toUInt64).toInt64)), (.int (own_len q 8))])) _
    refine XS.lconst X0.here hx rfl (hb hby d2_143) ?_
    show Steps p.tables e below (T0.setTop (mkF m 144 #[.val (.long q), .second, .val (.int (own_len q 8))] [(.long (0 : Int64)), (.long ((q.toUInt64 >>> ((63 : Int32) &&& 0x3f).toInt64.toUInt64).toInt64)), (.int (own_len q 8))])) _
    refine XS.lcmp X0.here hx rfl (hb hby d2_144) rfl ?_
    show Steps p.tables e below (T0.setTop (mkF m 145 #[.val (.long q), .second, .val (.int (own_len q 8))] [(.int (lcmpW ((q.toUInt64 >>> ((63 : Int32) &&& 0x3f).toInt64.toUInt64).toInt64) (0 : Int64))), (.int (own_len q 8))])) _
    refine XS.ifNo X0.here hx rfl (hb hby d2_145) rfl ((if0 _ _).trans (feq h).1) ?_
    show Steps p.tables e below (T0.setTop (mkF m 148 #[.val (.long q), .second, .val (.int (own_len q 8))] [(.int (own_len q 8))])) _
    refine XS.iconst X0.here hx rfl (hb hby d2_148) ?_
    show Steps p.tables e below (T0.setTop (mkF m 149 #[.val (.long q), .second, .val (.int (own_len q 8))] [(.int (1 : Int32)), (.int (own_len q 8))])) _
    refine XS.goto X0.here hx rfl (pc0 := 149) (pc' := 153) rfl (hb hby d2_149) (by decide) (by decide) ?_
    show Steps p.tables e below (T0.setTop (mkF m 153 #[.val (.long q), .second, .val (.int (own_len q 8))] [(.int (1 : Int32)), (.int (own_len q 8))])) _
    refine XS.iadd X0.here hx rfl (hb hby d2_153) rfl ?_
    show Steps p.tables e below (T0.setTop (mkF m 154 #[.val (.long q), .second, .val (.int (own_len q 8))] [(.int ((own_len q 8) + (1 : Int32)))])) _
    refine XS.istoreN X0.here hx rfl (hb hby d2_154) rfl (l' := #[.val (.long q), .second, .val (.int ((own_len q 8) + (1 : Int32)))]) rfl ?_
    exact kt
set_option maxRecDepth 65536 in
set_option maxHeartbeats 40000000 in
theorem rm2 (l : Launch) (Z : State) (a0 : Array Value) (hw : ∀ d ∈ tables_1, d.before a0 Z = true) (ws : List Jvm.Cond) (q : Int64) (h0 : Heap) (n0 : Nat) (Z0 : n0 ≤ h0.size)  :
    MetFree l (⟨"com/example/termweave/termweave/index/IndexFormatPutVarLongPinLaw", "len", "(J)I"⟩ : MethodName) (head1 (Jvm.Cond.code (⟨"com/example/termweave/termweave/index/IndexFormatPutVarLongPinLaw", "len", "(J)I"⟩ : MethodName) method_3_code 3 (some .int) :: ws) ({ frames := 0, cells := 0, slots := 0, locals := 0 } : Room)) (fun a U => a = #[(.long q)] ∧ Z.Warmed39 U.vm ∧ U.heap = h0) (fun _ _ _ _ _ => True) (fun _ U o U' => ∃ v L, o = .returned v ∧ Q2 Z q h0 n0 v U'.heap L ∧ FrameEnd U o U' L ({ frames := 0, cells := 0, slots := 0, locals := 0 } : Room).cells ({ frames := 0, cells := 0, slots := 0, locals := 0 } : Room).slots) := by
  refine MetFree.of_bodySF (plainFor_of_name pn_2) hisR ?_
  intro p e s m args below meth c s₁ Bd hml0 hP hK
  obtain ⟨rfl, hZ, hh⟩ := hP
  have hx := Bd.exec
  have hby := Bd.bytes
  have hml : c.maxLocals = 3 := hml0
  have hown : s.vm.findClass "com/example/termweave/termweave/index/IndexFormatPutVarLongPinLaw" = some m.cls := findClass_of_methodNamed Bd.named
  have hnm := (name_of_methodNamed Bd.named Bd.method).1
  have X0 : Stand p l e ({ frames := 0, cells := 0, slots := 0, locals := 0 } : Room) s m #[(.long q)] below meth c s₁ [] 0 0 := Stand.of_body Bd
  have e0 : s₁.heap = h0 := by rw [← hh, Bd.state]; rfl
  have N0 := Fr.nil n0
  have pre0 : ∀ t, Steps p.tables e below (s₁.setTop (mkF m 0 #[.val (.long q), .second, .unset] [])) t → Steps p.tables e below (s₁.setTop (entryFrame m #[(.long q)] 3)) t := fun t k => castTop (ef_2 m q) k
  obtain ⟨fs, hr, hrun, hended, hW, hsame⟩ := X0.leave (v := some (.int (own_len q 9))) (fun h => by rw [Bd.returns] at h; cases h)
  refine ⟨_, _, pre0 _ ?_, hrun, hended, _, _, rfl, ?_, ⟨_, rfl⟩, hW, hsame.mono (by decide) (by decide)⟩
  · show Steps p.tables e below (s₁.setTop (mkF m 0 #[.val (.long q), .second, .unset] [])) _
    refine XS.iconst X0.here hx rfl (hb hby d2_0) ?_
    show Steps p.tables e below (s₁.setTop (mkF m 1 #[.val (.long q), .second, .unset] [(.int (1 : Int32))])) _
    refine XS.istoreN X0.here hx rfl (hb hby d2_1) rfl (l' := #[.val (.long q), .second, .val (.int (1 : Int32))]) rfl ?_
    show Steps p.tables e below (s₁.setTop (mkF m 2 #[.val (.long q), .second, .val (.int (1 : Int32))] [])) _
    refine own_seg1 X0 hx hZ hw hby hown _ ?_
    show Steps p.tables e below (s₁.setTop (mkF m 19 #[.val (.long q), .second, .val (.int (own_len q 1))] [])) _
    refine own_seg2 X0 hx hZ hw hby hown _ ?_
    show Steps p.tables e below (s₁.setTop (mkF m 36 #[.val (.long q), .second, .val (.int (own_len q 2))] [])) _
    refine own_seg3 X0 hx hZ hw hby hown _ ?_
    show Steps p.tables e below (s₁.setTop (mkF m 53 #[.val (.long q), .second, .val (.int (own_len q 3))] [])) _
    refine own_seg4 X0 hx hZ hw hby hown _ ?_
    show Steps p.tables e below (s₁.setTop (mkF m 70 #[.val (.long q), .second, .val (.int (own_len q 4))] [])) _
    refine own_seg5 X0 hx hZ hw hby hown _ ?_
    show Steps p.tables e below (s₁.setTop (mkF m 87 #[.val (.long q), .second, .val (.int (own_len q 5))] [])) _
    refine own_seg6 X0 hx hZ hw hby hown _ ?_
    show Steps p.tables e below (s₁.setTop (mkF m 104 #[.val (.long q), .second, .val (.int (own_len q 6))] [])) _
    refine own_seg7 X0 hx hZ hw hby hown _ ?_
    show Steps p.tables e below (s₁.setTop (mkF m 121 #[.val (.long q), .second, .val (.int (own_len q 7))] [])) _
    refine own_seg8 X0 hx hZ hw hby hown _ ?_
    show Steps p.tables e below (s₁.setTop (mkF m 138 #[.val (.long q), .second, .val (.int (own_len q 8))] [])) _
    refine own_seg9 X0 hx hZ hw hby hown _ ?_
    show Steps p.tables e below (s₁.setTop (mkF m 155 #[.val (.long q), .second, .val (.int (own_len q 9))] [])) _
    refine XS.iloadN X0.here hx rfl (hb hby d2_155) rfl ?_
    show Steps p.tables e below (s₁.setTop (mkF m 156 #[.val (.long q), .second, .val (.int (own_len q 9))] [(.int (own_len q 9))])) _
    exact retI X0 hx Bd.returns (hb hby d2_156) hr
  · show Q2 Z q h0 n0 _ s₁.heap _
    exact ⟨rfl, N0, e0⟩
theorem d3_0 : decode method_4_code 0 = .ok (.iload_n 1, 1) := by decide +kernel
theorem d3_1 : decode method_4_code 1 = .ok (.iload_n 2, 1) := by decide +kernel
theorem d3_2 : decode method_4_code 2 = .ok (.isub, 1) := by decide +kernel
theorem d3_3 : decode method_4_code 3 = .ok (.istore 7, 2) := by decide +kernel
theorem d3_5 : decode method_4_code 5 = .ok (.iload 7, 2) := by decide +kernel
theorem d3_7 : decode method_4_code 7 = .ok (.ifCond .lt 9, 3) := by decide +kernel
theorem d3_10 : decode method_4_code 10 = .ok (.iload 7, 2) := by decide +kernel
theorem d3_12 : decode method_4_code 12 = .ok (.iload_n 3, 1) := by decide +kernel
theorem d3_13 : decode method_4_code 13 = .ok (.if_icmp .lt 17, 3) := by decide +kernel
theorem d3_16 : decode method_4_code 16 = .ok (.aload_n 0, 1) := by decide +kernel
theorem d3_17 : decode method_4_code 17 = .ok (.iload_n 1, 1) := by decide +kernel
theorem d3_18 : decode method_4_code 18 = .ok (.baload, 1) := by decide +kernel
theorem d3_19 : decode method_4_code 19 = .ok (.iload 6, 2) := by decide +kernel
theorem d3_21 : decode method_4_code 21 = .ok (.if_icmp .ne 7, 3) := by decide +kernel
theorem d3_24 : decode method_4_code 24 = .ok (.iconst 1, 1) := by decide +kernel
theorem d3_25 : decode method_4_code 25 = .ok (.goto 4, 3) := by decide +kernel
theorem d3_28 : decode method_4_code 28 = .ok (.iconst 0, 1) := by decide +kernel
theorem d3_29 : decode method_4_code 29 = .ok (.ireturn, 1) := by decide +kernel
theorem d3_30 : decode method_4_code 30 = .ok (.lload 4, 2) := by decide +kernel
theorem d3_32 : decode method_4_code 32 = .ok (.bipush 7, 2) := by decide +kernel
theorem d3_34 : decode method_4_code 34 = .ok (.iload 7, 2) := by decide +kernel
theorem d3_36 : decode method_4_code 36 = .ok (.imul, 1) := by decide +kernel
theorem d3_37 : decode method_4_code 37 = .ok (.lushr, 1) := by decide +kernel
theorem d3_38 : decode method_4_code 38 = .ok (.ldc2_w 24, 3) := by decide +kernel
theorem d3_41 : decode method_4_code 41 = .ok (.land, 1) := by decide +kernel
theorem d3_42 : decode method_4_code 42 = .ok (.l2i, 1) := by decide +kernel
theorem d3_43 : decode method_4_code 43 = .ok (.istore 8, 2) := by decide +kernel
theorem d3_45 : decode method_4_code 45 = .ok (.iload 7, 2) := by decide +kernel
theorem d3_47 : decode method_4_code 47 = .ok (.iload_n 3, 1) := by decide +kernel
theorem d3_48 : decode method_4_code 48 = .ok (.iconst 1, 1) := by decide +kernel
theorem d3_49 : decode method_4_code 49 = .ok (.isub, 1) := by decide +kernel
theorem d3_50 : decode method_4_code 50 = .ok (.if_icmp .ge 12, 3) := by decide +kernel
theorem d3_53 : decode method_4_code 53 = .ok (.iload 8, 2) := by decide +kernel
theorem d3_55 : decode method_4_code 55 = .ok (.sipush 128, 3) := by decide +kernel
theorem d3_58 : decode method_4_code 58 = .ok (.ior, 1) := by decide +kernel
theorem d3_59 : decode method_4_code 59 = .ok (.goto 5, 3) := by decide +kernel
theorem d3_62 : decode method_4_code 62 = .ok (.iload 8, 2) := by decide +kernel
theorem d3_64 : decode method_4_code 64 = .ok (.istore 9, 2) := by decide +kernel
theorem d3_66 : decode method_4_code 66 = .ok (.aload_n 0, 1) := by decide +kernel
theorem d3_67 : decode method_4_code 67 = .ok (.iload_n 1, 1) := by decide +kernel
theorem d3_68 : decode method_4_code 68 = .ok (.baload, 1) := by decide +kernel
theorem d3_69 : decode method_4_code 69 = .ok (.iload 9, 2) := by decide +kernel
theorem d3_71 : decode method_4_code 71 = .ok (.i2b, 1) := by decide +kernel
theorem d3_72 : decode method_4_code 72 = .ok (.if_icmp .ne 7, 3) := by decide +kernel
theorem d3_75 : decode method_4_code 75 = .ok (.iconst 1, 1) := by decide +kernel
theorem d3_76 : decode method_4_code 76 = .ok (.goto 4, 3) := by decide +kernel
theorem d3_79 : decode method_4_code 79 = .ok (.iconst 0, 1) := by decide +kernel
theorem d3_80 : decode method_4_code 80 = .ok (.ireturn, 1) := by decide +kernel
theorem pn_3 : plainName "com/example/termweave/termweave/index/IndexFormatPutVarLongPinLaw" = true := by first | (simp [plainName, overriddenIn]; done) | decide +kernel
theorem ef_3 (m : MethodId) (x0 : Addr) (x1 : Int32) (x2 : Int32) (x3 : Int32) (x4 : Int64) (x5 : Int32) : entryFrame m #[(.ref x0), (.int x1), (.int x2), (.int x3), (.long x4), (.int x5)] 10 = mkF m 0 #[.val (.ref x0), .val (.int x1), .val (.int x2), .val (.int x3), .val (.long x4), .second, .val (.int x5), .unset, .unset, .unset] [] := by first | (simp [entryFrame, mkF, argsToLocals, Value.category]; done) | rfl
def Q3 (Z : State) (a1 : Addr) (j : Nat) (off n : Int32) (q : Int64) (fl : Int32) (f : Nat → Int32) (h0 : Heap) (n0 : Nat) (v : Option Value) (h : Heap) (L : List Loc) : Prop := v = some (.int (1 : Int32)) ∧ Fr n0 L ∧ h = h0
set_option maxRecDepth 65536 in
set_option maxHeartbeats 40000000 in
theorem rm3 (l : Launch) (Z : State) (a0 : Array Value) (hw : ∀ d ∈ tables_1, d.before a0 Z = true) (ws : List Jvm.Cond) (a1 : Addr) (j : Nat) (off n : Int32) (q : Int64) (fl : Int32) (f : Nat → Int32) (h0 : Heap) (n0 : Nat) (Z0 : n0 ≤ h0.size) (hj : j < 13) (A : own_B Z h0 a1 f) (hok : own_at f j off n q fl = 1) :
    MetFree l (⟨"com/example/termweave/termweave/index/IndexFormatPutVarLongPinLaw", "at", "([BIIIJB)Z"⟩ : MethodName) (head1 (Jvm.Cond.code (⟨"com/example/termweave/termweave/index/IndexFormatPutVarLongPinLaw", "at", "([BIIIJB)Z"⟩ : MethodName) method_4_code 10 (some .boolean) :: ws) ({ frames := 0, cells := 0, slots := 0, locals := 0 } : Room)) (fun a U => a = #[(.ref a1), (.int (Int32.ofNat j)), (.int off), (.int n), (.long q), (.int fl)] ∧ Z.Warmed39 U.vm ∧ U.heap = h0) (fun _ _ _ _ _ => True) (fun _ U o U' => ∃ v L, o = .returned v ∧ Q3 Z a1 j off n q fl f h0 n0 v U'.heap L ∧ FrameEnd U o U' L ({ frames := 0, cells := 0, slots := 0, locals := 0 } : Room).cells ({ frames := 0, cells := 0, slots := 0, locals := 0 } : Room).slots) := by
  refine MetFree.of_bodySF (plainFor_of_name pn_3) hisR ?_
  intro p e s m args below meth c s₁ Bd hml0 hP hK
  obtain ⟨rfl, hZ, hh⟩ := hP
  have hx := Bd.exec
  have hby := Bd.bytes
  have hml : c.maxLocals = 10 := hml0
  have hown : s.vm.findClass "com/example/termweave/termweave/index/IndexFormatPutVarLongPinLaw" = some m.cls := findClass_of_methodNamed Bd.named
  have hnm := (name_of_methodNamed Bd.named Bd.method).1
  have X0 : Stand p l e ({ frames := 0, cells := 0, slots := 0, locals := 0 } : Room) s m #[(.ref a1), (.int (Int32.ofNat j)), (.int off), (.int n), (.long q), (.int fl)] below meth c s₁ [] 0 0 := Stand.of_body Bd
  have e0 : s₁.heap = h0 := by rw [← hh, Bd.state]; rfl
  have N0 := Fr.nil n0
  have pre0 : ∀ t, Steps p.tables e below (s₁.setTop (mkF m 0 #[.val (.ref a1), .val (.int (Int32.ofNat j)), .val (.int off), .val (.int n), .val (.long q), .second, .val (.int fl), .unset, .unset, .unset] [])) t → Steps p.tables e below (s₁.setTop (entryFrame m #[(.ref a1), (.int (Int32.ofNat j)), (.int off), (.int n), (.long q), (.int fl)] 10)) t := fun t k => castTop (ef_3 m a1 ((Int32.ofNat j)) off n q fl) k
  obtain ⟨cl, Ar, S, H⟩ := id A
  unfold own_at at hok
  by_cases c0 : (Int32.ofNat j - off) < 0
  · rw [if_pos c0] at hok
    have hq : f j = fl := Decidable.byContradiction fun z => by rw [if_neg z] at hok; exact absurd hok (by decide)
    obtain ⟨fs, hr, hrun, hended, hW, hsame⟩ := X0.leave (v := some (.int (1 : Int32))) (fun h => by rw [Bd.returns] at h; cases h)
    refine ⟨_, _, pre0 _ ?_, hrun, hended, _, _, rfl, ?_, ⟨_, rfl⟩, hW, hsame.mono (by decide) (by decide)⟩
    · show Steps p.tables e below (s₁.setTop (mkF m 0 #[.val (.ref a1), .val (.int (Int32.ofNat j)), .val (.int off), .val (.int n), .val (.long q), .second, .val (.int fl), .unset, .unset, .unset] [])) _
      refine XS.iloadN X0.here hx rfl (hb hby d3_0) rfl ?_
      show Steps p.tables e below (s₁.setTop (mkF m 1 #[.val (.ref a1), .val (.int (Int32.ofNat j)), .val (.int off), .val (.int n), .val (.long q), .second, .val (.int fl), .unset, .unset, .unset] [(.int (Int32.ofNat j))])) _
      refine XS.iloadN X0.here hx rfl (hb hby d3_1) rfl ?_
      show Steps p.tables e below (s₁.setTop (mkF m 2 #[.val (.ref a1), .val (.int (Int32.ofNat j)), .val (.int off), .val (.int n), .val (.long q), .second, .val (.int fl), .unset, .unset, .unset] [(.int off), (.int (Int32.ofNat j))])) _
      refine XS.isub X0.here hx rfl (hb hby d3_2) rfl ?_
      show Steps p.tables e below (s₁.setTop (mkF m 3 #[.val (.ref a1), .val (.int (Int32.ofNat j)), .val (.int off), .val (.int n), .val (.long q), .second, .val (.int fl), .unset, .unset, .unset] [(.int ((Int32.ofNat j) - off))])) _
      refine XS.istore X0.here hx rfl (hb hby d3_3) rfl (l' := #[.val (.ref a1), .val (.int (Int32.ofNat j)), .val (.int off), .val (.int n), .val (.long q), .second, .val (.int fl), .val (.int ((Int32.ofNat j) - off)), .unset, .unset]) rfl ?_
      show Steps p.tables e below (s₁.setTop (mkF m 5 #[.val (.ref a1), .val (.int (Int32.ofNat j)), .val (.int off), .val (.int n), .val (.long q), .second, .val (.int fl), .val (.int ((Int32.ofNat j) - off)), .unset, .unset] [])) _
      refine XS.iload X0.here hx rfl (hb hby d3_5) rfl ?_
      show Steps p.tables e below (s₁.setTop (mkF m 7 #[.val (.ref a1), .val (.int (Int32.ofNat j)), .val (.int off), .val (.int n), .val (.long q), .second, .val (.int fl), .val (.int ((Int32.ofNat j) - off)), .unset, .unset] [(.int ((Int32.ofNat j) - off))])) _
      refine XS.ifYes X0.here hx rfl (pc0 := 7) (pc' := 16) rfl (hb hby d3_7) rfl ((if0 _ _).trans (tlt c0).1) (by decide) (by decide) ?_
      show Steps p.tables e below (s₁.setTop (mkF m 16 #[.val (.ref a1), .val (.int (Int32.ofNat j)), .val (.int off), .val (.int n), .val (.long q), .second, .val (.int fl), .val (.int ((Int32.ofNat j) - off)), .unset, .unset] [])) _
      refine XS.aloadN X0.here hx rfl (hb hby d3_16) rfl rfl ?_
      show Steps p.tables e below (s₁.setTop (mkF m 17 #[.val (.ref a1), .val (.int (Int32.ofNat j)), .val (.int off), .val (.int n), .val (.long q), .second, .val (.int fl), .val (.int ((Int32.ofNat j) - off)), .unset, .unset] [(.ref a1)])) _
      refine XS.iloadN X0.here hx rfl (hb hby d3_17) rfl ?_
      show Steps p.tables e below (s₁.setTop (mkF m 18 #[.val (.ref a1), .val (.int (Int32.ofNat j)), .val (.int off), .val (.int n), .val (.long q), .second, .val (.int fl), .val (.int ((Int32.ofNat j) - off)), .unset, .unset] [(.int (Int32.ofNat j)), (.ref a1)])) _
      refine X0.baloadBytes hx (j := (Int32.ofNat j)) (v := (.int (f j))) (by rw [e0]; exact Ar.1) (State.isArrayOf_alike hZ.alike Ar.2.1) Ar.2.2 (own_in S hj (by omega)) (by rw [own_natC j (by omega)]; exact H j hj) (g := (mkF m 18 #[.val (.ref a1), .val (.int (Int32.ofNat j)), .val (.int off), .val (.int n), .val (.long q), .second, .val (.int fl), .val (.int ((Int32.ofNat j) - off)), .unset, .unset] [(.int (Int32.ofNat j)), (.ref a1)])) rfl rfl (hb hby d3_18) _ ?_
      show Steps p.tables e below (s₁.setTop (mkF m 19 #[.val (.ref a1), .val (.int (Int32.ofNat j)), .val (.int off), .val (.int n), .val (.long q), .second, .val (.int fl), .val (.int ((Int32.ofNat j) - off)), .unset, .unset] [(.int (f j))])) _
      refine XS.iload X0.here hx rfl (hb hby d3_19) rfl ?_
      show Steps p.tables e below (s₁.setTop (mkF m 21 #[.val (.ref a1), .val (.int (Int32.ofNat j)), .val (.int off), .val (.int n), .val (.long q), .second, .val (.int fl), .val (.int ((Int32.ofNat j) - off)), .unset, .unset] [(.int fl), (.int (f j))])) _
      refine XS.icmpNo X0.here hx rfl (hb hby d3_21) rfl (teq hq).2 ?_
      show Steps p.tables e below (s₁.setTop (mkF m 24 #[.val (.ref a1), .val (.int (Int32.ofNat j)), .val (.int off), .val (.int n), .val (.long q), .second, .val (.int fl), .val (.int ((Int32.ofNat j) - off)), .unset, .unset] [])) _
      refine XS.iconst X0.here hx rfl (hb hby d3_24) ?_
      show Steps p.tables e below (s₁.setTop (mkF m 25 #[.val (.ref a1), .val (.int (Int32.ofNat j)), .val (.int off), .val (.int n), .val (.long q), .second, .val (.int fl), .val (.int ((Int32.ofNat j) - off)), .unset, .unset] [(.int (1 : Int32))])) _
      refine XS.goto X0.here hx rfl (pc0 := 25) (pc' := 29) rfl (hb hby d3_25) (by decide) (by decide) ?_
      show Steps p.tables e below (s₁.setTop (mkF m 29 #[.val (.ref a1), .val (.int (Int32.ofNat j)), .val (.int off), .val (.int n), .val (.long q), .second, .val (.int fl), .val (.int ((Int32.ofNat j) - off)), .unset, .unset] [(.int (1 : Int32))])) _
      exact retN X0 hx (t := .boolean) Bd.returns (by simp) (hb hby d3_29) hr
    · show Q3 Z a1 j off n q fl f h0 n0 _ s₁.heap _
      exact ⟨rfl, N0, e0⟩
  · rw [if_neg c0] at hok
    by_cases c1 : (Int32.ofNat j - off) < n
    · rw [if_neg (fun z => z c1)] at hok
      by_cases c2 : (Int32.ofNat j - off) < n - 1
      · rw [if_neg (fun z => z c2)] at hok
        have hq : f j = own_byte (own_low q (Int32.ofNat j - off) ||| 128) := Decidable.byContradiction fun z => by rw [if_neg z] at hok; exact absurd hok (by decide)
        obtain ⟨fs, hr, hrun, hended, hW, hsame⟩ := X0.leave (v := some (.int (1 : Int32))) (fun h => by rw [Bd.returns] at h; cases h)
        refine ⟨_, _, pre0 _ ?_, hrun, hended, _, _, rfl, ?_, ⟨_, rfl⟩, hW, hsame.mono (by decide) (by decide)⟩
        · show Steps p.tables e below (s₁.setTop (mkF m 0 #[.val (.ref a1), .val (.int (Int32.ofNat j)), .val (.int off), .val (.int n), .val (.long q), .second, .val (.int fl), .unset, .unset, .unset] [])) _
          refine XS.iloadN X0.here hx rfl (hb hby d3_0) rfl ?_
          show Steps p.tables e below (s₁.setTop (mkF m 1 #[.val (.ref a1), .val (.int (Int32.ofNat j)), .val (.int off), .val (.int n), .val (.long q), .second, .val (.int fl), .unset, .unset, .unset] [(.int (Int32.ofNat j))])) _
          refine XS.iloadN X0.here hx rfl (hb hby d3_1) rfl ?_
          show Steps p.tables e below (s₁.setTop (mkF m 2 #[.val (.ref a1), .val (.int (Int32.ofNat j)), .val (.int off), .val (.int n), .val (.long q), .second, .val (.int fl), .unset, .unset, .unset] [(.int off), (.int (Int32.ofNat j))])) _
          refine XS.isub X0.here hx rfl (hb hby d3_2) rfl ?_
          show Steps p.tables e below (s₁.setTop (mkF m 3 #[.val (.ref a1), .val (.int (Int32.ofNat j)), .val (.int off), .val (.int n), .val (.long q), .second, .val (.int fl), .unset, .unset, .unset] [(.int ((Int32.ofNat j) - off))])) _
          refine XS.istore X0.here hx rfl (hb hby d3_3) rfl (l' := #[.val (.ref a1), .val (.int (Int32.ofNat j)), .val (.int off), .val (.int n), .val (.long q), .second, .val (.int fl), .val (.int ((Int32.ofNat j) - off)), .unset, .unset]) rfl ?_
          show Steps p.tables e below (s₁.setTop (mkF m 5 #[.val (.ref a1), .val (.int (Int32.ofNat j)), .val (.int off), .val (.int n), .val (.long q), .second, .val (.int fl), .val (.int ((Int32.ofNat j) - off)), .unset, .unset] [])) _
          refine XS.iload X0.here hx rfl (hb hby d3_5) rfl ?_
          show Steps p.tables e below (s₁.setTop (mkF m 7 #[.val (.ref a1), .val (.int (Int32.ofNat j)), .val (.int off), .val (.int n), .val (.long q), .second, .val (.int fl), .val (.int ((Int32.ofNat j) - off)), .unset, .unset] [(.int ((Int32.ofNat j) - off))])) _
          refine XS.ifNo X0.here hx rfl (hb hby d3_7) rfl ((if0 _ _).trans (flt c0).1) ?_
          show Steps p.tables e below (s₁.setTop (mkF m 10 #[.val (.ref a1), .val (.int (Int32.ofNat j)), .val (.int off), .val (.int n), .val (.long q), .second, .val (.int fl), .val (.int ((Int32.ofNat j) - off)), .unset, .unset] [])) _
          refine XS.iload X0.here hx rfl (hb hby d3_10) rfl ?_
          show Steps p.tables e below (s₁.setTop (mkF m 12 #[.val (.ref a1), .val (.int (Int32.ofNat j)), .val (.int off), .val (.int n), .val (.long q), .second, .val (.int fl), .val (.int ((Int32.ofNat j) - off)), .unset, .unset] [(.int ((Int32.ofNat j) - off))])) _
          refine XS.iloadN X0.here hx rfl (hb hby d3_12) rfl ?_
          show Steps p.tables e below (s₁.setTop (mkF m 13 #[.val (.ref a1), .val (.int (Int32.ofNat j)), .val (.int off), .val (.int n), .val (.long q), .second, .val (.int fl), .val (.int ((Int32.ofNat j) - off)), .unset, .unset] [(.int n), (.int ((Int32.ofNat j) - off))])) _
          refine XS.icmpYes X0.here hx rfl (pc0 := 13) (pc' := 30) rfl (hb hby d3_13) rfl (tlt c1).1 (by decide) (by decide) ?_
          show Steps p.tables e below (s₁.setTop (mkF m 30 #[.val (.ref a1), .val (.int (Int32.ofNat j)), .val (.int off), .val (.int n), .val (.long q), .second, .val (.int fl), .val (.int ((Int32.ofNat j) - off)), .unset, .unset] [])) _
          refine XS.lload X0.here hx rfl (hb hby d3_30) rfl ?_
          show Steps p.tables e below (s₁.setTop (mkF m 32 #[.val (.ref a1), .val (.int (Int32.ofNat j)), .val (.int off), .val (.int n), .val (.long q), .second, .val (.int fl), .val (.int ((Int32.ofNat j) - off)), .unset, .unset] [(.long q)])) _
          refine XS.bipush X0.here hx rfl (hb hby d3_32) ?_
          show Steps p.tables e below (s₁.setTop (mkF m 34 #[.val (.ref a1), .val (.int (Int32.ofNat j)), .val (.int off), .val (.int n), .val (.long q), .second, .val (.int fl), .val (.int ((Int32.ofNat j) - off)), .unset, .unset] [(.int (7 : Int32)), (.long q)])) _
          refine XS.iload X0.here hx rfl (hb hby d3_34) rfl ?_
          show Steps p.tables e below (s₁.setTop (mkF m 36 #[.val (.ref a1), .val (.int (Int32.ofNat j)), .val (.int off), .val (.int n), .val (.long q), .second, .val (.int fl), .val (.int ((Int32.ofNat j) - off)), .unset, .unset] [(.int ((Int32.ofNat j) - off)), (.int (7 : Int32)), (.long q)])) _
          refine XS.imul X0.here hx rfl (hb hby d3_36) rfl ?_
          show Steps p.tables e below (s₁.setTop (mkF m 37 #[.val (.ref a1), .val (.int (Int32.ofNat j)), .val (.int off), .val (.int n), .val (.long q), .second, .val (.int fl), .val (.int ((Int32.ofNat j) - off)), .unset, .unset] [(.int ((7 : Int32) * ((Int32.ofNat j) - off))), (.long q)])) _
          refine XS.lushr X0.here hx rfl (hb hby d3_37) rfl ?_
          show Steps p.tables e below (s₁.setTop (mkF m 38 #[.val (.ref a1), .val (.int (Int32.ofNat j)), .val (.int off), .val (.int n), .val (.long q), .second, .val (.int fl), .val (.int ((Int32.ofNat j) - off)), .unset, .unset] [(.long ((q.toUInt64 >>> (((7 : Int32) * ((Int32.ofNat j) - off)) &&& 0x3f).toInt64.toUInt64).toInt64))])) _
          refine X0.ldc2Long hx hown (mvT hZ (hw _ (List.mem_of_getElem? (i := 14) rfl))) (g := (mkF m 38 #[.val (.ref a1), .val (.int (Int32.ofNat j)), .val (.int off), .val (.int n), .val (.long q), .second, .val (.int fl), .val (.int ((Int32.ofNat j) - off)), .unset, .unset] [(.long ((q.toUInt64 >>> (((7 : Int32) * ((Int32.ofNat j) - off)) &&& 0x3f).toInt64.toUInt64).toInt64))])) rfl (hb hby d3_38) _ ?_
          show Steps p.tables e below (s₁.setTop (mkF m 41 #[.val (.ref a1), .val (.int (Int32.ofNat j)), .val (.int off), .val (.int n), .val (.long q), .second, .val (.int fl), .val (.int ((Int32.ofNat j) - off)), .unset, .unset] [(.long (127 : Int64)), (.long ((q.toUInt64 >>> (((7 : Int32) * ((Int32.ofNat j) - off)) &&& 0x3f).toInt64.toUInt64).toInt64))])) _
          refine XS.land X0.here hx rfl (hb hby d3_41) rfl ?_
          show Steps p.tables e below (s₁.setTop (mkF m 42 #[.val (.ref a1), .val (.int (Int32.ofNat j)), .val (.int off), .val (.int n), .val (.long q), .second, .val (.int fl), .val (.int ((Int32.ofNat j) - off)), .unset, .unset] [(.long (((q.toUInt64 >>> (((7 : Int32) * ((Int32.ofNat j) - off)) &&& 0x3f).toInt64.toUInt64).toInt64) &&& (127 : Int64)))])) _
          refine XS.l2i X0.here hx rfl (hb hby d3_42) rfl ?_
          show Steps p.tables e below (s₁.setTop (mkF m 43 #[.val (.ref a1), .val (.int (Int32.ofNat j)), .val (.int off), .val (.int n), .val (.long q), .second, .val (.int fl), .val (.int ((Int32.ofNat j) - off)), .unset, .unset] [(.int ((((q.toUInt64 >>> (((7 : Int32) * ((Int32.ofNat j) - off)) &&& 0x3f).toInt64.toUInt64).toInt64) &&& (127 : Int64)).toInt32))])) _
          refine XS.istore X0.here hx rfl (hb hby d3_43) rfl (l' := #[.val (.ref a1), .val (.int (Int32.ofNat j)), .val (.int off), .val (.int n), .val (.long q), .second, .val (.int fl), .val (.int ((Int32.ofNat j) - off)), .val (.int ((((q.toUInt64 >>> (((7 : Int32) * ((Int32.ofNat j) - off)) &&& 0x3f).toInt64.toUInt64).toInt64) &&& (127 : Int64)).toInt32)), .unset]) rfl ?_
          show Steps p.tables e below (s₁.setTop (mkF m 45 #[.val (.ref a1), .val (.int (Int32.ofNat j)), .val (.int off), .val (.int n), .val (.long q), .second, .val (.int fl), .val (.int ((Int32.ofNat j) - off)), .val (.int ((((q.toUInt64 >>> (((7 : Int32) * ((Int32.ofNat j) - off)) &&& 0x3f).toInt64.toUInt64).toInt64) &&& (127 : Int64)).toInt32)), .unset] [])) _
          refine XS.iload X0.here hx rfl (hb hby d3_45) rfl ?_
          show Steps p.tables e below (s₁.setTop (mkF m 47 #[.val (.ref a1), .val (.int (Int32.ofNat j)), .val (.int off), .val (.int n), .val (.long q), .second, .val (.int fl), .val (.int ((Int32.ofNat j) - off)), .val (.int ((((q.toUInt64 >>> (((7 : Int32) * ((Int32.ofNat j) - off)) &&& 0x3f).toInt64.toUInt64).toInt64) &&& (127 : Int64)).toInt32)), .unset] [(.int ((Int32.ofNat j) - off))])) _
          refine XS.iloadN X0.here hx rfl (hb hby d3_47) rfl ?_
          show Steps p.tables e below (s₁.setTop (mkF m 48 #[.val (.ref a1), .val (.int (Int32.ofNat j)), .val (.int off), .val (.int n), .val (.long q), .second, .val (.int fl), .val (.int ((Int32.ofNat j) - off)), .val (.int ((((q.toUInt64 >>> (((7 : Int32) * ((Int32.ofNat j) - off)) &&& 0x3f).toInt64.toUInt64).toInt64) &&& (127 : Int64)).toInt32)), .unset] [(.int n), (.int ((Int32.ofNat j) - off))])) _
          refine XS.iconst X0.here hx rfl (hb hby d3_48) ?_
          show Steps p.tables e below (s₁.setTop (mkF m 49 #[.val (.ref a1), .val (.int (Int32.ofNat j)), .val (.int off), .val (.int n), .val (.long q), .second, .val (.int fl), .val (.int ((Int32.ofNat j) - off)), .val (.int ((((q.toUInt64 >>> (((7 : Int32) * ((Int32.ofNat j) - off)) &&& 0x3f).toInt64.toUInt64).toInt64) &&& (127 : Int64)).toInt32)), .unset] [(.int (1 : Int32)), (.int n), (.int ((Int32.ofNat j) - off))])) _
          refine XS.isub X0.here hx rfl (hb hby d3_49) rfl ?_
          show Steps p.tables e below (s₁.setTop (mkF m 50 #[.val (.ref a1), .val (.int (Int32.ofNat j)), .val (.int off), .val (.int n), .val (.long q), .second, .val (.int fl), .val (.int ((Int32.ofNat j) - off)), .val (.int ((((q.toUInt64 >>> (((7 : Int32) * ((Int32.ofNat j) - off)) &&& 0x3f).toInt64.toUInt64).toInt64) &&& (127 : Int64)).toInt32)), .unset] [(.int (n - (1 : Int32))), (.int ((Int32.ofNat j) - off))])) _
          refine XS.icmpNo X0.here hx rfl (hb hby d3_50) rfl (tlt c2).2.1 ?_
          show Steps p.tables e below (s₁.setTop (mkF m 53 #[.val (.ref a1), .val (.int (Int32.ofNat j)), .val (.int off), .val (.int n), .val (.long q), .second, .val (.int fl), .val (.int ((Int32.ofNat j) - off)), .val (.int ((((q.toUInt64 >>> (((7 : Int32) * ((Int32.ofNat j) - off)) &&& 0x3f).toInt64.toUInt64).toInt64) &&& (127 : Int64)).toInt32)), .unset] [])) _
          refine XS.iload X0.here hx rfl (hb hby d3_53) rfl ?_
          show Steps p.tables e below (s₁.setTop (mkF m 55 #[.val (.ref a1), .val (.int (Int32.ofNat j)), .val (.int off), .val (.int n), .val (.long q), .second, .val (.int fl), .val (.int ((Int32.ofNat j) - off)), .val (.int ((((q.toUInt64 >>> (((7 : Int32) * ((Int32.ofNat j) - off)) &&& 0x3f).toInt64.toUInt64).toInt64) &&& (127 : Int64)).toInt32)), .unset] [(.int ((((q.toUInt64 >>> (((7 : Int32) * ((Int32.ofNat j) - off)) &&& 0x3f).toInt64.toUInt64).toInt64) &&& (127 : Int64)).toInt32))])) _
          refine XS.sipush X0.here hx rfl (hb hby d3_55) ?_
          show Steps p.tables e below (s₁.setTop (mkF m 58 #[.val (.ref a1), .val (.int (Int32.ofNat j)), .val (.int off), .val (.int n), .val (.long q), .second, .val (.int fl), .val (.int ((Int32.ofNat j) - off)), .val (.int ((((q.toUInt64 >>> (((7 : Int32) * ((Int32.ofNat j) - off)) &&& 0x3f).toInt64.toUInt64).toInt64) &&& (127 : Int64)).toInt32)), .unset] [(.int (128 : Int32)), (.int ((((q.toUInt64 >>> (((7 : Int32) * ((Int32.ofNat j) - off)) &&& 0x3f).toInt64.toUInt64).toInt64) &&& (127 : Int64)).toInt32))])) _
          refine XS.ior X0.here hx rfl (hb hby d3_58) rfl ?_
          show Steps p.tables e below (s₁.setTop (mkF m 59 #[.val (.ref a1), .val (.int (Int32.ofNat j)), .val (.int off), .val (.int n), .val (.long q), .second, .val (.int fl), .val (.int ((Int32.ofNat j) - off)), .val (.int ((((q.toUInt64 >>> (((7 : Int32) * ((Int32.ofNat j) - off)) &&& 0x3f).toInt64.toUInt64).toInt64) &&& (127 : Int64)).toInt32)), .unset] [(.int (((((q.toUInt64 >>> (((7 : Int32) * ((Int32.ofNat j) - off)) &&& 0x3f).toInt64.toUInt64).toInt64) &&& (127 : Int64)).toInt32) ||| (128 : Int32)))])) _
          refine XS.goto X0.here hx rfl (pc0 := 59) (pc' := 64) rfl (hb hby d3_59) (by decide) (by decide) ?_
          show Steps p.tables e below (s₁.setTop (mkF m 64 #[.val (.ref a1), .val (.int (Int32.ofNat j)), .val (.int off), .val (.int n), .val (.long q), .second, .val (.int fl), .val (.int ((Int32.ofNat j) - off)), .val (.int ((((q.toUInt64 >>> (((7 : Int32) * ((Int32.ofNat j) - off)) &&& 0x3f).toInt64.toUInt64).toInt64) &&& (127 : Int64)).toInt32)), .unset] [(.int (((((q.toUInt64 >>> (((7 : Int32) * ((Int32.ofNat j) - off)) &&& 0x3f).toInt64.toUInt64).toInt64) &&& (127 : Int64)).toInt32) ||| (128 : Int32)))])) _
          refine XS.istore X0.here hx rfl (hb hby d3_64) rfl (l' := #[.val (.ref a1), .val (.int (Int32.ofNat j)), .val (.int off), .val (.int n), .val (.long q), .second, .val (.int fl), .val (.int ((Int32.ofNat j) - off)), .val (.int ((((q.toUInt64 >>> (((7 : Int32) * ((Int32.ofNat j) - off)) &&& 0x3f).toInt64.toUInt64).toInt64) &&& (127 : Int64)).toInt32)), .val (.int (((((q.toUInt64 >>> (((7 : Int32) * ((Int32.ofNat j) - off)) &&& 0x3f).toInt64.toUInt64).toInt64) &&& (127 : Int64)).toInt32) ||| (128 : Int32)))]) rfl ?_
          show Steps p.tables e below (s₁.setTop (mkF m 66 #[.val (.ref a1), .val (.int (Int32.ofNat j)), .val (.int off), .val (.int n), .val (.long q), .second, .val (.int fl), .val (.int ((Int32.ofNat j) - off)), .val (.int ((((q.toUInt64 >>> (((7 : Int32) * ((Int32.ofNat j) - off)) &&& 0x3f).toInt64.toUInt64).toInt64) &&& (127 : Int64)).toInt32)), .val (.int (((((q.toUInt64 >>> (((7 : Int32) * ((Int32.ofNat j) - off)) &&& 0x3f).toInt64.toUInt64).toInt64) &&& (127 : Int64)).toInt32) ||| (128 : Int32)))] [])) _
          refine XS.aloadN X0.here hx rfl (hb hby d3_66) rfl rfl ?_
          show Steps p.tables e below (s₁.setTop (mkF m 67 #[.val (.ref a1), .val (.int (Int32.ofNat j)), .val (.int off), .val (.int n), .val (.long q), .second, .val (.int fl), .val (.int ((Int32.ofNat j) - off)), .val (.int ((((q.toUInt64 >>> (((7 : Int32) * ((Int32.ofNat j) - off)) &&& 0x3f).toInt64.toUInt64).toInt64) &&& (127 : Int64)).toInt32)), .val (.int (((((q.toUInt64 >>> (((7 : Int32) * ((Int32.ofNat j) - off)) &&& 0x3f).toInt64.toUInt64).toInt64) &&& (127 : Int64)).toInt32) ||| (128 : Int32)))] [(.ref a1)])) _
          refine XS.iloadN X0.here hx rfl (hb hby d3_67) rfl ?_
          show Steps p.tables e below (s₁.setTop (mkF m 68 #[.val (.ref a1), .val (.int (Int32.ofNat j)), .val (.int off), .val (.int n), .val (.long q), .second, .val (.int fl), .val (.int ((Int32.ofNat j) - off)), .val (.int ((((q.toUInt64 >>> (((7 : Int32) * ((Int32.ofNat j) - off)) &&& 0x3f).toInt64.toUInt64).toInt64) &&& (127 : Int64)).toInt32)), .val (.int (((((q.toUInt64 >>> (((7 : Int32) * ((Int32.ofNat j) - off)) &&& 0x3f).toInt64.toUInt64).toInt64) &&& (127 : Int64)).toInt32) ||| (128 : Int32)))] [(.int (Int32.ofNat j)), (.ref a1)])) _
          refine X0.baloadBytes hx (j := (Int32.ofNat j)) (v := (.int (f j))) (by rw [e0]; exact Ar.1) (State.isArrayOf_alike hZ.alike Ar.2.1) Ar.2.2 (own_in S hj (by omega)) (by rw [own_natC j (by omega)]; exact H j hj) (g := (mkF m 68 #[.val (.ref a1), .val (.int (Int32.ofNat j)), .val (.int off), .val (.int n), .val (.long q), .second, .val (.int fl), .val (.int ((Int32.ofNat j) - off)), .val (.int ((((q.toUInt64 >>> (((7 : Int32) * ((Int32.ofNat j) - off)) &&& 0x3f).toInt64.toUInt64).toInt64) &&& (127 : Int64)).toInt32)), .val (.int (((((q.toUInt64 >>> (((7 : Int32) * ((Int32.ofNat j) - off)) &&& 0x3f).toInt64.toUInt64).toInt64) &&& (127 : Int64)).toInt32) ||| (128 : Int32)))] [(.int (Int32.ofNat j)), (.ref a1)])) rfl rfl (hb hby d3_68) _ ?_
          show Steps p.tables e below (s₁.setTop (mkF m 69 #[.val (.ref a1), .val (.int (Int32.ofNat j)), .val (.int off), .val (.int n), .val (.long q), .second, .val (.int fl), .val (.int ((Int32.ofNat j) - off)), .val (.int ((((q.toUInt64 >>> (((7 : Int32) * ((Int32.ofNat j) - off)) &&& 0x3f).toInt64.toUInt64).toInt64) &&& (127 : Int64)).toInt32)), .val (.int (((((q.toUInt64 >>> (((7 : Int32) * ((Int32.ofNat j) - off)) &&& 0x3f).toInt64.toUInt64).toInt64) &&& (127 : Int64)).toInt32) ||| (128 : Int32)))] [(.int (f j))])) _
          refine XS.iload X0.here hx rfl (hb hby d3_69) rfl ?_
          show Steps p.tables e below (s₁.setTop (mkF m 71 #[.val (.ref a1), .val (.int (Int32.ofNat j)), .val (.int off), .val (.int n), .val (.long q), .second, .val (.int fl), .val (.int ((Int32.ofNat j) - off)), .val (.int ((((q.toUInt64 >>> (((7 : Int32) * ((Int32.ofNat j) - off)) &&& 0x3f).toInt64.toUInt64).toInt64) &&& (127 : Int64)).toInt32)), .val (.int (((((q.toUInt64 >>> (((7 : Int32) * ((Int32.ofNat j) - off)) &&& 0x3f).toInt64.toUInt64).toInt64) &&& (127 : Int64)).toInt32) ||| (128 : Int32)))] [(.int (((((q.toUInt64 >>> (((7 : Int32) * ((Int32.ofNat j) - off)) &&& 0x3f).toInt64.toUInt64).toInt64) &&& (127 : Int64)).toInt32) ||| (128 : Int32))), (.int (f j))])) _
          refine XS.i2b X0.here hx rfl (hb hby d3_71) rfl ?_
          show Steps p.tables e below (s₁.setTop (mkF m 72 #[.val (.ref a1), .val (.int (Int32.ofNat j)), .val (.int off), .val (.int n), .val (.long q), .second, .val (.int fl), .val (.int ((Int32.ofNat j) - off)), .val (.int ((((q.toUInt64 >>> (((7 : Int32) * ((Int32.ofNat j) - off)) &&& 0x3f).toInt64.toUInt64).toInt64) &&& (127 : Int64)).toInt32)), .val (.int (((((q.toUInt64 >>> (((7 : Int32) * ((Int32.ofNat j) - off)) &&& 0x3f).toInt64.toUInt64).toInt64) &&& (127 : Int64)).toInt32) ||| (128 : Int32)))] [(.int ((((((q.toUInt64 >>> (((7 : Int32) * ((Int32.ofNat j) - off)) &&& 0x3f).toInt64.toUInt64).toInt64) &&& (127 : Int64)).toInt32) ||| (128 : Int32)).toInt8.toInt32)), (.int (f j))])) _
          refine XS.icmpNo X0.here hx rfl (hb hby d3_72) rfl (teq hq).2 ?_
          show Steps p.tables e below (s₁.setTop (mkF m 75 #[.val (.ref a1), .val (.int (Int32.ofNat j)), .val (.int off), .val (.int n), .val (.long q), .second, .val (.int fl), .val (.int ((Int32.ofNat j) - off)), .val (.int ((((q.toUInt64 >>> (((7 : Int32) * ((Int32.ofNat j) - off)) &&& 0x3f).toInt64.toUInt64).toInt64) &&& (127 : Int64)).toInt32)), .val (.int (((((q.toUInt64 >>> (((7 : Int32) * ((Int32.ofNat j) - off)) &&& 0x3f).toInt64.toUInt64).toInt64) &&& (127 : Int64)).toInt32) ||| (128 : Int32)))] [])) _
          refine XS.iconst X0.here hx rfl (hb hby d3_75) ?_
          show Steps p.tables e below (s₁.setTop (mkF m 76 #[.val (.ref a1), .val (.int (Int32.ofNat j)), .val (.int off), .val (.int n), .val (.long q), .second, .val (.int fl), .val (.int ((Int32.ofNat j) - off)), .val (.int ((((q.toUInt64 >>> (((7 : Int32) * ((Int32.ofNat j) - off)) &&& 0x3f).toInt64.toUInt64).toInt64) &&& (127 : Int64)).toInt32)), .val (.int (((((q.toUInt64 >>> (((7 : Int32) * ((Int32.ofNat j) - off)) &&& 0x3f).toInt64.toUInt64).toInt64) &&& (127 : Int64)).toInt32) ||| (128 : Int32)))] [(.int (1 : Int32))])) _
          refine XS.goto X0.here hx rfl (pc0 := 76) (pc' := 80) rfl (hb hby d3_76) (by decide) (by decide) ?_
          show Steps p.tables e below (s₁.setTop (mkF m 80 #[.val (.ref a1), .val (.int (Int32.ofNat j)), .val (.int off), .val (.int n), .val (.long q), .second, .val (.int fl), .val (.int ((Int32.ofNat j) - off)), .val (.int ((((q.toUInt64 >>> (((7 : Int32) * ((Int32.ofNat j) - off)) &&& 0x3f).toInt64.toUInt64).toInt64) &&& (127 : Int64)).toInt32)), .val (.int (((((q.toUInt64 >>> (((7 : Int32) * ((Int32.ofNat j) - off)) &&& 0x3f).toInt64.toUInt64).toInt64) &&& (127 : Int64)).toInt32) ||| (128 : Int32)))] [(.int (1 : Int32))])) _
          exact retN X0 hx (t := .boolean) Bd.returns (by simp) (hb hby d3_80) hr
        · show Q3 Z a1 j off n q fl f h0 n0 _ s₁.heap _
          exact ⟨rfl, N0, e0⟩
      · rw [if_pos c2] at hok
        have hq : f j = own_byte (own_low q (Int32.ofNat j - off)) := Decidable.byContradiction fun z => by rw [if_neg z] at hok; exact absurd hok (by decide)
        obtain ⟨fs, hr, hrun, hended, hW, hsame⟩ := X0.leave (v := some (.int (1 : Int32))) (fun h => by rw [Bd.returns] at h; cases h)
        refine ⟨_, _, pre0 _ ?_, hrun, hended, _, _, rfl, ?_, ⟨_, rfl⟩, hW, hsame.mono (by decide) (by decide)⟩
        · show Steps p.tables e below (s₁.setTop (mkF m 0 #[.val (.ref a1), .val (.int (Int32.ofNat j)), .val (.int off), .val (.int n), .val (.long q), .second, .val (.int fl), .unset, .unset, .unset] [])) _
          refine XS.iloadN X0.here hx rfl (hb hby d3_0) rfl ?_
          show Steps p.tables e below (s₁.setTop (mkF m 1 #[.val (.ref a1), .val (.int (Int32.ofNat j)), .val (.int off), .val (.int n), .val (.long q), .second, .val (.int fl), .unset, .unset, .unset] [(.int (Int32.ofNat j))])) _
          refine XS.iloadN X0.here hx rfl (hb hby d3_1) rfl ?_
          show Steps p.tables e below (s₁.setTop (mkF m 2 #[.val (.ref a1), .val (.int (Int32.ofNat j)), .val (.int off), .val (.int n), .val (.long q), .second, .val (.int fl), .unset, .unset, .unset] [(.int off), (.int (Int32.ofNat j))])) _
          refine XS.isub X0.here hx rfl (hb hby d3_2) rfl ?_
          show Steps p.tables e below (s₁.setTop (mkF m 3 #[.val (.ref a1), .val (.int (Int32.ofNat j)), .val (.int off), .val (.int n), .val (.long q), .second, .val (.int fl), .unset, .unset, .unset] [(.int ((Int32.ofNat j) - off))])) _
          refine XS.istore X0.here hx rfl (hb hby d3_3) rfl (l' := #[.val (.ref a1), .val (.int (Int32.ofNat j)), .val (.int off), .val (.int n), .val (.long q), .second, .val (.int fl), .val (.int ((Int32.ofNat j) - off)), .unset, .unset]) rfl ?_
          show Steps p.tables e below (s₁.setTop (mkF m 5 #[.val (.ref a1), .val (.int (Int32.ofNat j)), .val (.int off), .val (.int n), .val (.long q), .second, .val (.int fl), .val (.int ((Int32.ofNat j) - off)), .unset, .unset] [])) _
          refine XS.iload X0.here hx rfl (hb hby d3_5) rfl ?_
          show Steps p.tables e below (s₁.setTop (mkF m 7 #[.val (.ref a1), .val (.int (Int32.ofNat j)), .val (.int off), .val (.int n), .val (.long q), .second, .val (.int fl), .val (.int ((Int32.ofNat j) - off)), .unset, .unset] [(.int ((Int32.ofNat j) - off))])) _
          refine XS.ifNo X0.here hx rfl (hb hby d3_7) rfl ((if0 _ _).trans (flt c0).1) ?_
          show Steps p.tables e below (s₁.setTop (mkF m 10 #[.val (.ref a1), .val (.int (Int32.ofNat j)), .val (.int off), .val (.int n), .val (.long q), .second, .val (.int fl), .val (.int ((Int32.ofNat j) - off)), .unset, .unset] [])) _
          refine XS.iload X0.here hx rfl (hb hby d3_10) rfl ?_
          show Steps p.tables e below (s₁.setTop (mkF m 12 #[.val (.ref a1), .val (.int (Int32.ofNat j)), .val (.int off), .val (.int n), .val (.long q), .second, .val (.int fl), .val (.int ((Int32.ofNat j) - off)), .unset, .unset] [(.int ((Int32.ofNat j) - off))])) _
          refine XS.iloadN X0.here hx rfl (hb hby d3_12) rfl ?_
          show Steps p.tables e below (s₁.setTop (mkF m 13 #[.val (.ref a1), .val (.int (Int32.ofNat j)), .val (.int off), .val (.int n), .val (.long q), .second, .val (.int fl), .val (.int ((Int32.ofNat j) - off)), .unset, .unset] [(.int n), (.int ((Int32.ofNat j) - off))])) _
          refine XS.icmpYes X0.here hx rfl (pc0 := 13) (pc' := 30) rfl (hb hby d3_13) rfl (tlt c1).1 (by decide) (by decide) ?_
          show Steps p.tables e below (s₁.setTop (mkF m 30 #[.val (.ref a1), .val (.int (Int32.ofNat j)), .val (.int off), .val (.int n), .val (.long q), .second, .val (.int fl), .val (.int ((Int32.ofNat j) - off)), .unset, .unset] [])) _
          refine XS.lload X0.here hx rfl (hb hby d3_30) rfl ?_
          show Steps p.tables e below (s₁.setTop (mkF m 32 #[.val (.ref a1), .val (.int (Int32.ofNat j)), .val (.int off), .val (.int n), .val (.long q), .second, .val (.int fl), .val (.int ((Int32.ofNat j) - off)), .unset, .unset] [(.long q)])) _
          refine XS.bipush X0.here hx rfl (hb hby d3_32) ?_
          show Steps p.tables e below (s₁.setTop (mkF m 34 #[.val (.ref a1), .val (.int (Int32.ofNat j)), .val (.int off), .val (.int n), .val (.long q), .second, .val (.int fl), .val (.int ((Int32.ofNat j) - off)), .unset, .unset] [(.int (7 : Int32)), (.long q)])) _
          refine XS.iload X0.here hx rfl (hb hby d3_34) rfl ?_
          show Steps p.tables e below (s₁.setTop (mkF m 36 #[.val (.ref a1), .val (.int (Int32.ofNat j)), .val (.int off), .val (.int n), .val (.long q), .second, .val (.int fl), .val (.int ((Int32.ofNat j) - off)), .unset, .unset] [(.int ((Int32.ofNat j) - off)), (.int (7 : Int32)), (.long q)])) _
          refine XS.imul X0.here hx rfl (hb hby d3_36) rfl ?_
          show Steps p.tables e below (s₁.setTop (mkF m 37 #[.val (.ref a1), .val (.int (Int32.ofNat j)), .val (.int off), .val (.int n), .val (.long q), .second, .val (.int fl), .val (.int ((Int32.ofNat j) - off)), .unset, .unset] [(.int ((7 : Int32) * ((Int32.ofNat j) - off))), (.long q)])) _
          refine XS.lushr X0.here hx rfl (hb hby d3_37) rfl ?_
          show Steps p.tables e below (s₁.setTop (mkF m 38 #[.val (.ref a1), .val (.int (Int32.ofNat j)), .val (.int off), .val (.int n), .val (.long q), .second, .val (.int fl), .val (.int ((Int32.ofNat j) - off)), .unset, .unset] [(.long ((q.toUInt64 >>> (((7 : Int32) * ((Int32.ofNat j) - off)) &&& 0x3f).toInt64.toUInt64).toInt64))])) _
          refine X0.ldc2Long hx hown (mvT hZ (hw _ (List.mem_of_getElem? (i := 14) rfl))) (g := (mkF m 38 #[.val (.ref a1), .val (.int (Int32.ofNat j)), .val (.int off), .val (.int n), .val (.long q), .second, .val (.int fl), .val (.int ((Int32.ofNat j) - off)), .unset, .unset] [(.long ((q.toUInt64 >>> (((7 : Int32) * ((Int32.ofNat j) - off)) &&& 0x3f).toInt64.toUInt64).toInt64))])) rfl (hb hby d3_38) _ ?_
          show Steps p.tables e below (s₁.setTop (mkF m 41 #[.val (.ref a1), .val (.int (Int32.ofNat j)), .val (.int off), .val (.int n), .val (.long q), .second, .val (.int fl), .val (.int ((Int32.ofNat j) - off)), .unset, .unset] [(.long (127 : Int64)), (.long ((q.toUInt64 >>> (((7 : Int32) * ((Int32.ofNat j) - off)) &&& 0x3f).toInt64.toUInt64).toInt64))])) _
          refine XS.land X0.here hx rfl (hb hby d3_41) rfl ?_
          show Steps p.tables e below (s₁.setTop (mkF m 42 #[.val (.ref a1), .val (.int (Int32.ofNat j)), .val (.int off), .val (.int n), .val (.long q), .second, .val (.int fl), .val (.int ((Int32.ofNat j) - off)), .unset, .unset] [(.long (((q.toUInt64 >>> (((7 : Int32) * ((Int32.ofNat j) - off)) &&& 0x3f).toInt64.toUInt64).toInt64) &&& (127 : Int64)))])) _
          refine XS.l2i X0.here hx rfl (hb hby d3_42) rfl ?_
          show Steps p.tables e below (s₁.setTop (mkF m 43 #[.val (.ref a1), .val (.int (Int32.ofNat j)), .val (.int off), .val (.int n), .val (.long q), .second, .val (.int fl), .val (.int ((Int32.ofNat j) - off)), .unset, .unset] [(.int ((((q.toUInt64 >>> (((7 : Int32) * ((Int32.ofNat j) - off)) &&& 0x3f).toInt64.toUInt64).toInt64) &&& (127 : Int64)).toInt32))])) _
          refine XS.istore X0.here hx rfl (hb hby d3_43) rfl (l' := #[.val (.ref a1), .val (.int (Int32.ofNat j)), .val (.int off), .val (.int n), .val (.long q), .second, .val (.int fl), .val (.int ((Int32.ofNat j) - off)), .val (.int ((((q.toUInt64 >>> (((7 : Int32) * ((Int32.ofNat j) - off)) &&& 0x3f).toInt64.toUInt64).toInt64) &&& (127 : Int64)).toInt32)), .unset]) rfl ?_
          show Steps p.tables e below (s₁.setTop (mkF m 45 #[.val (.ref a1), .val (.int (Int32.ofNat j)), .val (.int off), .val (.int n), .val (.long q), .second, .val (.int fl), .val (.int ((Int32.ofNat j) - off)), .val (.int ((((q.toUInt64 >>> (((7 : Int32) * ((Int32.ofNat j) - off)) &&& 0x3f).toInt64.toUInt64).toInt64) &&& (127 : Int64)).toInt32)), .unset] [])) _
          refine XS.iload X0.here hx rfl (hb hby d3_45) rfl ?_
          show Steps p.tables e below (s₁.setTop (mkF m 47 #[.val (.ref a1), .val (.int (Int32.ofNat j)), .val (.int off), .val (.int n), .val (.long q), .second, .val (.int fl), .val (.int ((Int32.ofNat j) - off)), .val (.int ((((q.toUInt64 >>> (((7 : Int32) * ((Int32.ofNat j) - off)) &&& 0x3f).toInt64.toUInt64).toInt64) &&& (127 : Int64)).toInt32)), .unset] [(.int ((Int32.ofNat j) - off))])) _
          refine XS.iloadN X0.here hx rfl (hb hby d3_47) rfl ?_
          show Steps p.tables e below (s₁.setTop (mkF m 48 #[.val (.ref a1), .val (.int (Int32.ofNat j)), .val (.int off), .val (.int n), .val (.long q), .second, .val (.int fl), .val (.int ((Int32.ofNat j) - off)), .val (.int ((((q.toUInt64 >>> (((7 : Int32) * ((Int32.ofNat j) - off)) &&& 0x3f).toInt64.toUInt64).toInt64) &&& (127 : Int64)).toInt32)), .unset] [(.int n), (.int ((Int32.ofNat j) - off))])) _
          refine XS.iconst X0.here hx rfl (hb hby d3_48) ?_
          show Steps p.tables e below (s₁.setTop (mkF m 49 #[.val (.ref a1), .val (.int (Int32.ofNat j)), .val (.int off), .val (.int n), .val (.long q), .second, .val (.int fl), .val (.int ((Int32.ofNat j) - off)), .val (.int ((((q.toUInt64 >>> (((7 : Int32) * ((Int32.ofNat j) - off)) &&& 0x3f).toInt64.toUInt64).toInt64) &&& (127 : Int64)).toInt32)), .unset] [(.int (1 : Int32)), (.int n), (.int ((Int32.ofNat j) - off))])) _
          refine XS.isub X0.here hx rfl (hb hby d3_49) rfl ?_
          show Steps p.tables e below (s₁.setTop (mkF m 50 #[.val (.ref a1), .val (.int (Int32.ofNat j)), .val (.int off), .val (.int n), .val (.long q), .second, .val (.int fl), .val (.int ((Int32.ofNat j) - off)), .val (.int ((((q.toUInt64 >>> (((7 : Int32) * ((Int32.ofNat j) - off)) &&& 0x3f).toInt64.toUInt64).toInt64) &&& (127 : Int64)).toInt32)), .unset] [(.int (n - (1 : Int32))), (.int ((Int32.ofNat j) - off))])) _
          refine XS.icmpYes X0.here hx rfl (pc0 := 50) (pc' := 62) rfl (hb hby d3_50) rfl (flt c2).2.1 (by decide) (by decide) ?_
          show Steps p.tables e below (s₁.setTop (mkF m 62 #[.val (.ref a1), .val (.int (Int32.ofNat j)), .val (.int off), .val (.int n), .val (.long q), .second, .val (.int fl), .val (.int ((Int32.ofNat j) - off)), .val (.int ((((q.toUInt64 >>> (((7 : Int32) * ((Int32.ofNat j) - off)) &&& 0x3f).toInt64.toUInt64).toInt64) &&& (127 : Int64)).toInt32)), .unset] [])) _
          refine XS.iload X0.here hx rfl (hb hby d3_62) rfl ?_
          show Steps p.tables e below (s₁.setTop (mkF m 64 #[.val (.ref a1), .val (.int (Int32.ofNat j)), .val (.int off), .val (.int n), .val (.long q), .second, .val (.int fl), .val (.int ((Int32.ofNat j) - off)), .val (.int ((((q.toUInt64 >>> (((7 : Int32) * ((Int32.ofNat j) - off)) &&& 0x3f).toInt64.toUInt64).toInt64) &&& (127 : Int64)).toInt32)), .unset] [(.int ((((q.toUInt64 >>> (((7 : Int32) * ((Int32.ofNat j) - off)) &&& 0x3f).toInt64.toUInt64).toInt64) &&& (127 : Int64)).toInt32))])) _
          refine XS.istore X0.here hx rfl (hb hby d3_64) rfl (l' := #[.val (.ref a1), .val (.int (Int32.ofNat j)), .val (.int off), .val (.int n), .val (.long q), .second, .val (.int fl), .val (.int ((Int32.ofNat j) - off)), .val (.int ((((q.toUInt64 >>> (((7 : Int32) * ((Int32.ofNat j) - off)) &&& 0x3f).toInt64.toUInt64).toInt64) &&& (127 : Int64)).toInt32)), .val (.int ((((q.toUInt64 >>> (((7 : Int32) * ((Int32.ofNat j) - off)) &&& 0x3f).toInt64.toUInt64).toInt64) &&& (127 : Int64)).toInt32))]) rfl ?_
          show Steps p.tables e below (s₁.setTop (mkF m 66 #[.val (.ref a1), .val (.int (Int32.ofNat j)), .val (.int off), .val (.int n), .val (.long q), .second, .val (.int fl), .val (.int ((Int32.ofNat j) - off)), .val (.int ((((q.toUInt64 >>> (((7 : Int32) * ((Int32.ofNat j) - off)) &&& 0x3f).toInt64.toUInt64).toInt64) &&& (127 : Int64)).toInt32)), .val (.int ((((q.toUInt64 >>> (((7 : Int32) * ((Int32.ofNat j) - off)) &&& 0x3f).toInt64.toUInt64).toInt64) &&& (127 : Int64)).toInt32))] [])) _
          refine XS.aloadN X0.here hx rfl (hb hby d3_66) rfl rfl ?_
          show Steps p.tables e below (s₁.setTop (mkF m 67 #[.val (.ref a1), .val (.int (Int32.ofNat j)), .val (.int off), .val (.int n), .val (.long q), .second, .val (.int fl), .val (.int ((Int32.ofNat j) - off)), .val (.int ((((q.toUInt64 >>> (((7 : Int32) * ((Int32.ofNat j) - off)) &&& 0x3f).toInt64.toUInt64).toInt64) &&& (127 : Int64)).toInt32)), .val (.int ((((q.toUInt64 >>> (((7 : Int32) * ((Int32.ofNat j) - off)) &&& 0x3f).toInt64.toUInt64).toInt64) &&& (127 : Int64)).toInt32))] [(.ref a1)])) _
          refine XS.iloadN X0.here hx rfl (hb hby d3_67) rfl ?_
          show Steps p.tables e below (s₁.setTop (mkF m 68 #[.val (.ref a1), .val (.int (Int32.ofNat j)), .val (.int off), .val (.int n), .val (.long q), .second, .val (.int fl), .val (.int ((Int32.ofNat j) - off)), .val (.int ((((q.toUInt64 >>> (((7 : Int32) * ((Int32.ofNat j) - off)) &&& 0x3f).toInt64.toUInt64).toInt64) &&& (127 : Int64)).toInt32)), .val (.int ((((q.toUInt64 >>> (((7 : Int32) * ((Int32.ofNat j) - off)) &&& 0x3f).toInt64.toUInt64).toInt64) &&& (127 : Int64)).toInt32))] [(.int (Int32.ofNat j)), (.ref a1)])) _
          refine X0.baloadBytes hx (j := (Int32.ofNat j)) (v := (.int (f j))) (by rw [e0]; exact Ar.1) (State.isArrayOf_alike hZ.alike Ar.2.1) Ar.2.2 (own_in S hj (by omega)) (by rw [own_natC j (by omega)]; exact H j hj) (g := (mkF m 68 #[.val (.ref a1), .val (.int (Int32.ofNat j)), .val (.int off), .val (.int n), .val (.long q), .second, .val (.int fl), .val (.int ((Int32.ofNat j) - off)), .val (.int ((((q.toUInt64 >>> (((7 : Int32) * ((Int32.ofNat j) - off)) &&& 0x3f).toInt64.toUInt64).toInt64) &&& (127 : Int64)).toInt32)), .val (.int ((((q.toUInt64 >>> (((7 : Int32) * ((Int32.ofNat j) - off)) &&& 0x3f).toInt64.toUInt64).toInt64) &&& (127 : Int64)).toInt32))] [(.int (Int32.ofNat j)), (.ref a1)])) rfl rfl (hb hby d3_68) _ ?_
          show Steps p.tables e below (s₁.setTop (mkF m 69 #[.val (.ref a1), .val (.int (Int32.ofNat j)), .val (.int off), .val (.int n), .val (.long q), .second, .val (.int fl), .val (.int ((Int32.ofNat j) - off)), .val (.int ((((q.toUInt64 >>> (((7 : Int32) * ((Int32.ofNat j) - off)) &&& 0x3f).toInt64.toUInt64).toInt64) &&& (127 : Int64)).toInt32)), .val (.int ((((q.toUInt64 >>> (((7 : Int32) * ((Int32.ofNat j) - off)) &&& 0x3f).toInt64.toUInt64).toInt64) &&& (127 : Int64)).toInt32))] [(.int (f j))])) _
          refine XS.iload X0.here hx rfl (hb hby d3_69) rfl ?_
          show Steps p.tables e below (s₁.setTop (mkF m 71 #[.val (.ref a1), .val (.int (Int32.ofNat j)), .val (.int off), .val (.int n), .val (.long q), .second, .val (.int fl), .val (.int ((Int32.ofNat j) - off)), .val (.int ((((q.toUInt64 >>> (((7 : Int32) * ((Int32.ofNat j) - off)) &&& 0x3f).toInt64.toUInt64).toInt64) &&& (127 : Int64)).toInt32)), .val (.int ((((q.toUInt64 >>> (((7 : Int32) * ((Int32.ofNat j) - off)) &&& 0x3f).toInt64.toUInt64).toInt64) &&& (127 : Int64)).toInt32))] [(.int ((((q.toUInt64 >>> (((7 : Int32) * ((Int32.ofNat j) - off)) &&& 0x3f).toInt64.toUInt64).toInt64) &&& (127 : Int64)).toInt32)), (.int (f j))])) _
          refine XS.i2b X0.here hx rfl (hb hby d3_71) rfl ?_
          show Steps p.tables e below (s₁.setTop (mkF m 72 #[.val (.ref a1), .val (.int (Int32.ofNat j)), .val (.int off), .val (.int n), .val (.long q), .second, .val (.int fl), .val (.int ((Int32.ofNat j) - off)), .val (.int ((((q.toUInt64 >>> (((7 : Int32) * ((Int32.ofNat j) - off)) &&& 0x3f).toInt64.toUInt64).toInt64) &&& (127 : Int64)).toInt32)), .val (.int ((((q.toUInt64 >>> (((7 : Int32) * ((Int32.ofNat j) - off)) &&& 0x3f).toInt64.toUInt64).toInt64) &&& (127 : Int64)).toInt32))] [(.int (((((q.toUInt64 >>> (((7 : Int32) * ((Int32.ofNat j) - off)) &&& 0x3f).toInt64.toUInt64).toInt64) &&& (127 : Int64)).toInt32).toInt8.toInt32)), (.int (f j))])) _
          refine XS.icmpNo X0.here hx rfl (hb hby d3_72) rfl (teq hq).2 ?_
          show Steps p.tables e below (s₁.setTop (mkF m 75 #[.val (.ref a1), .val (.int (Int32.ofNat j)), .val (.int off), .val (.int n), .val (.long q), .second, .val (.int fl), .val (.int ((Int32.ofNat j) - off)), .val (.int ((((q.toUInt64 >>> (((7 : Int32) * ((Int32.ofNat j) - off)) &&& 0x3f).toInt64.toUInt64).toInt64) &&& (127 : Int64)).toInt32)), .val (.int ((((q.toUInt64 >>> (((7 : Int32) * ((Int32.ofNat j) - off)) &&& 0x3f).toInt64.toUInt64).toInt64) &&& (127 : Int64)).toInt32))] [])) _
          refine XS.iconst X0.here hx rfl (hb hby d3_75) ?_
          show Steps p.tables e below (s₁.setTop (mkF m 76 #[.val (.ref a1), .val (.int (Int32.ofNat j)), .val (.int off), .val (.int n), .val (.long q), .second, .val (.int fl), .val (.int ((Int32.ofNat j) - off)), .val (.int ((((q.toUInt64 >>> (((7 : Int32) * ((Int32.ofNat j) - off)) &&& 0x3f).toInt64.toUInt64).toInt64) &&& (127 : Int64)).toInt32)), .val (.int ((((q.toUInt64 >>> (((7 : Int32) * ((Int32.ofNat j) - off)) &&& 0x3f).toInt64.toUInt64).toInt64) &&& (127 : Int64)).toInt32))] [(.int (1 : Int32))])) _
          refine XS.goto X0.here hx rfl (pc0 := 76) (pc' := 80) rfl (hb hby d3_76) (by decide) (by decide) ?_
          show Steps p.tables e below (s₁.setTop (mkF m 80 #[.val (.ref a1), .val (.int (Int32.ofNat j)), .val (.int off), .val (.int n), .val (.long q), .second, .val (.int fl), .val (.int ((Int32.ofNat j) - off)), .val (.int ((((q.toUInt64 >>> (((7 : Int32) * ((Int32.ofNat j) - off)) &&& 0x3f).toInt64.toUInt64).toInt64) &&& (127 : Int64)).toInt32)), .val (.int ((((q.toUInt64 >>> (((7 : Int32) * ((Int32.ofNat j) - off)) &&& 0x3f).toInt64.toUInt64).toInt64) &&& (127 : Int64)).toInt32))] [(.int (1 : Int32))])) _
          exact retN X0 hx (t := .boolean) Bd.returns (by simp) (hb hby d3_80) hr
        · show Q3 Z a1 j off n q fl f h0 n0 _ s₁.heap _
          exact ⟨rfl, N0, e0⟩
    · rw [if_pos c1] at hok
      have hq : f j = fl := Decidable.byContradiction fun z => by rw [if_neg z] at hok; exact absurd hok (by decide)
      obtain ⟨fs, hr, hrun, hended, hW, hsame⟩ := X0.leave (v := some (.int (1 : Int32))) (fun h => by rw [Bd.returns] at h; cases h)
      refine ⟨_, _, pre0 _ ?_, hrun, hended, _, _, rfl, ?_, ⟨_, rfl⟩, hW, hsame.mono (by decide) (by decide)⟩
      · show Steps p.tables e below (s₁.setTop (mkF m 0 #[.val (.ref a1), .val (.int (Int32.ofNat j)), .val (.int off), .val (.int n), .val (.long q), .second, .val (.int fl), .unset, .unset, .unset] [])) _
        refine XS.iloadN X0.here hx rfl (hb hby d3_0) rfl ?_
        show Steps p.tables e below (s₁.setTop (mkF m 1 #[.val (.ref a1), .val (.int (Int32.ofNat j)), .val (.int off), .val (.int n), .val (.long q), .second, .val (.int fl), .unset, .unset, .unset] [(.int (Int32.ofNat j))])) _
        refine XS.iloadN X0.here hx rfl (hb hby d3_1) rfl ?_
        show Steps p.tables e below (s₁.setTop (mkF m 2 #[.val (.ref a1), .val (.int (Int32.ofNat j)), .val (.int off), .val (.int n), .val (.long q), .second, .val (.int fl), .unset, .unset, .unset] [(.int off), (.int (Int32.ofNat j))])) _
        refine XS.isub X0.here hx rfl (hb hby d3_2) rfl ?_
        show Steps p.tables e below (s₁.setTop (mkF m 3 #[.val (.ref a1), .val (.int (Int32.ofNat j)), .val (.int off), .val (.int n), .val (.long q), .second, .val (.int fl), .unset, .unset, .unset] [(.int ((Int32.ofNat j) - off))])) _
        refine XS.istore X0.here hx rfl (hb hby d3_3) rfl (l' := #[.val (.ref a1), .val (.int (Int32.ofNat j)), .val (.int off), .val (.int n), .val (.long q), .second, .val (.int fl), .val (.int ((Int32.ofNat j) - off)), .unset, .unset]) rfl ?_
        show Steps p.tables e below (s₁.setTop (mkF m 5 #[.val (.ref a1), .val (.int (Int32.ofNat j)), .val (.int off), .val (.int n), .val (.long q), .second, .val (.int fl), .val (.int ((Int32.ofNat j) - off)), .unset, .unset] [])) _
        refine XS.iload X0.here hx rfl (hb hby d3_5) rfl ?_
        show Steps p.tables e below (s₁.setTop (mkF m 7 #[.val (.ref a1), .val (.int (Int32.ofNat j)), .val (.int off), .val (.int n), .val (.long q), .second, .val (.int fl), .val (.int ((Int32.ofNat j) - off)), .unset, .unset] [(.int ((Int32.ofNat j) - off))])) _
        refine XS.ifNo X0.here hx rfl (hb hby d3_7) rfl ((if0 _ _).trans (flt c0).1) ?_
        show Steps p.tables e below (s₁.setTop (mkF m 10 #[.val (.ref a1), .val (.int (Int32.ofNat j)), .val (.int off), .val (.int n), .val (.long q), .second, .val (.int fl), .val (.int ((Int32.ofNat j) - off)), .unset, .unset] [])) _
        refine XS.iload X0.here hx rfl (hb hby d3_10) rfl ?_
        show Steps p.tables e below (s₁.setTop (mkF m 12 #[.val (.ref a1), .val (.int (Int32.ofNat j)), .val (.int off), .val (.int n), .val (.long q), .second, .val (.int fl), .val (.int ((Int32.ofNat j) - off)), .unset, .unset] [(.int ((Int32.ofNat j) - off))])) _
        refine XS.iloadN X0.here hx rfl (hb hby d3_12) rfl ?_
        show Steps p.tables e below (s₁.setTop (mkF m 13 #[.val (.ref a1), .val (.int (Int32.ofNat j)), .val (.int off), .val (.int n), .val (.long q), .second, .val (.int fl), .val (.int ((Int32.ofNat j) - off)), .unset, .unset] [(.int n), (.int ((Int32.ofNat j) - off))])) _
        refine XS.icmpNo X0.here hx rfl (hb hby d3_13) rfl (flt c1).1 ?_
        show Steps p.tables e below (s₁.setTop (mkF m 16 #[.val (.ref a1), .val (.int (Int32.ofNat j)), .val (.int off), .val (.int n), .val (.long q), .second, .val (.int fl), .val (.int ((Int32.ofNat j) - off)), .unset, .unset] [])) _
        refine XS.aloadN X0.here hx rfl (hb hby d3_16) rfl rfl ?_
        show Steps p.tables e below (s₁.setTop (mkF m 17 #[.val (.ref a1), .val (.int (Int32.ofNat j)), .val (.int off), .val (.int n), .val (.long q), .second, .val (.int fl), .val (.int ((Int32.ofNat j) - off)), .unset, .unset] [(.ref a1)])) _
        refine XS.iloadN X0.here hx rfl (hb hby d3_17) rfl ?_
        show Steps p.tables e below (s₁.setTop (mkF m 18 #[.val (.ref a1), .val (.int (Int32.ofNat j)), .val (.int off), .val (.int n), .val (.long q), .second, .val (.int fl), .val (.int ((Int32.ofNat j) - off)), .unset, .unset] [(.int (Int32.ofNat j)), (.ref a1)])) _
        refine X0.baloadBytes hx (j := (Int32.ofNat j)) (v := (.int (f j))) (by rw [e0]; exact Ar.1) (State.isArrayOf_alike hZ.alike Ar.2.1) Ar.2.2 (own_in S hj (by omega)) (by rw [own_natC j (by omega)]; exact H j hj) (g := (mkF m 18 #[.val (.ref a1), .val (.int (Int32.ofNat j)), .val (.int off), .val (.int n), .val (.long q), .second, .val (.int fl), .val (.int ((Int32.ofNat j) - off)), .unset, .unset] [(.int (Int32.ofNat j)), (.ref a1)])) rfl rfl (hb hby d3_18) _ ?_
        show Steps p.tables e below (s₁.setTop (mkF m 19 #[.val (.ref a1), .val (.int (Int32.ofNat j)), .val (.int off), .val (.int n), .val (.long q), .second, .val (.int fl), .val (.int ((Int32.ofNat j) - off)), .unset, .unset] [(.int (f j))])) _
        refine XS.iload X0.here hx rfl (hb hby d3_19) rfl ?_
        show Steps p.tables e below (s₁.setTop (mkF m 21 #[.val (.ref a1), .val (.int (Int32.ofNat j)), .val (.int off), .val (.int n), .val (.long q), .second, .val (.int fl), .val (.int ((Int32.ofNat j) - off)), .unset, .unset] [(.int fl), (.int (f j))])) _
        refine XS.icmpNo X0.here hx rfl (hb hby d3_21) rfl (teq hq).2 ?_
        show Steps p.tables e below (s₁.setTop (mkF m 24 #[.val (.ref a1), .val (.int (Int32.ofNat j)), .val (.int off), .val (.int n), .val (.long q), .second, .val (.int fl), .val (.int ((Int32.ofNat j) - off)), .unset, .unset] [])) _
        refine XS.iconst X0.here hx rfl (hb hby d3_24) ?_
        show Steps p.tables e below (s₁.setTop (mkF m 25 #[.val (.ref a1), .val (.int (Int32.ofNat j)), .val (.int off), .val (.int n), .val (.long q), .second, .val (.int fl), .val (.int ((Int32.ofNat j) - off)), .unset, .unset] [(.int (1 : Int32))])) _
        refine XS.goto X0.here hx rfl (pc0 := 25) (pc' := 29) rfl (hb hby d3_25) (by decide) (by decide) ?_
        show Steps p.tables e below (s₁.setTop (mkF m 29 #[.val (.ref a1), .val (.int (Int32.ofNat j)), .val (.int off), .val (.int n), .val (.long q), .second, .val (.int fl), .val (.int ((Int32.ofNat j) - off)), .unset, .unset] [(.int (1 : Int32))])) _
        exact retN X0 hx (t := .boolean) Bd.returns (by simp) (hb hby d3_29) hr
      · show Q3 Z a1 j off n q fl f h0 n0 _ s₁.heap _
        exact ⟨rfl, N0, e0⟩
theorem pn_0 : plainName "com/example/termweave/termweave/index/IndexFormatPutVarLongPinLaw" = true := by first | (simp [plainName, overriddenIn]; done) | decide +kernel
theorem ef_0 (m : MethodId) (x0 : Int64) (x1 : Int32) (x2 : Int32) (x3 : Int32) : entryFrame m #[(.long x0), (.int x1), (.int x2), (.int x3)] maxLocals = mkF m 0 #[.val (.long x0), .second, .val (.int x1), .val (.int x2), .val (.int x3), .unset, .unset, .unset, .unset, .unset, .unset, .unset, .unset] [] := by first | (simp [entryFrame, mkF, argsToLocals, Value.category, maxLocals]; done) | rfl
theorem pd_1 : parseMethodDescriptor "([BIJ)I" = some ⟨[.array .byte, .int, .long], some .int⟩ := by decide +kernel
theorem pd_2 : parseMethodDescriptor "(J)I" = some ⟨[.long], some .int⟩ := by decide +kernel
theorem pd_3 : parseMethodDescriptor "([BIIIJB)Z" = some ⟨[.array .byte, .int, .int, .int, .long, .byte], some .boolean⟩ := by decide +kernel
def own_fl (k : Nat) (v : Int32) : Nat → Int32 := fun j => if j < k then v else 0
theorem own_B.fill {Z : State} {h h' : Heap} {a : Addr} {k : Nat} {x v : Int32} (A : own_B Z h a (own_fl k v)) (W : Wr h h' a (Int32.ofNat k).toNatClampNeg (.int (nar .byte x))) (hn : k < 13) (hv : nar .byte x = v) : own_B Z h' a (own_fl (k + 1) v) := by
  refine own_A.congr (own_B.store A W hn hv) fun j hj => ?_
  show Value.int (if j = k then v else if j < k then v else 0) = Value.int (if j < k + 1 then v else 0)
  by_cases q : j = k
  · rw [if_pos q, if_pos (by omega)]
  · rw [if_neg q]
    by_cases q2 : j < k
    · rw [if_pos q2, if_pos (by omega)]
    · rw [if_neg q2, if_neg (by omega)]
set_option maxRecDepth 65536 in
set_option maxHeartbeats 40000000 in
theorem own_start {p : Program} {l : Launch} {e : Env} {R : Room} {s : State} {m : MethodId} {args : Array Value} {below : List Frame} {meth : Method} {c : Code} {T0 : State} {locs : List Loc} {cells slots : Nat} {Z : State} {a0 : Array Value} {q1 : Int64} {p2 p3 p4 : Int32} {vq : Int64} {oo : Nat}
    (X0 : Stand p l e R s m args below meth c T0 locs cells slots) (hx : p.tables.exec = Jvm.exec) (hZ : Z.Warmed39 s.vm) (hw : ∀ d ∈ tables_1, d.before a0 Z = true) (hby : c.code = code) (hown : s.vm.findClass "com/example/termweave/termweave/index/IndexFormatPutVarLongPinLaw" = some m.cls) (hq : ((q1.toUInt64 >>> ((p2 &&& (63 : Int32)) &&& 0x3f).toInt64.toUInt64).toInt64) = vq) (ho : ((p3 &&& (2147483647 : Int32)) - ((p3 &&& (2147483647 : Int32)) / (3 : Int32)) * (3 : Int32)) = Int32.ofNat oo) :
    ∀ target, Steps p.tables e below (T0.setTop (mkF m 21 #[.val (.long q1), .second, .val (.int p2), .val (.int p3), .val (.int p4), .val (.long vq), .second, .val (.int (Int32.ofNat oo)), .val (.int (own_byte p4)), .unset, .unset, .unset, .unset] [])) target → Steps p.tables e below (T0.setTop (mkF m 0 #[.val (.long q1), .second, .val (.int p2), .val (.int p3), .val (.int p4), .unset, .unset, .unset, .unset, .unset, .unset, .unset, .unset] [])) target := by
  intro target kt
  show Steps p.tables e below (T0.setTop (mkF m 0 #[.val (.long q1), .second, .val (.int p2), .val (.int p3), .val (.int p4), .unset, .unset, .unset, .unset, .unset, .unset, .unset, .unset] [])) _
  refine XS.lloadN X0.here hx rfl (hb hby at_0) rfl ?_
  show Steps p.tables e below (T0.setTop (mkF m 1 #[.val (.long q1), .second, .val (.int p2), .val (.int p3), .val (.int p4), .unset, .unset, .unset, .unset, .unset, .unset, .unset, .unset] [(.long q1)])) _
  refine XS.iloadN X0.here hx rfl (hb hby at_1) rfl ?_
  show Steps p.tables e below (T0.setTop (mkF m 2 #[.val (.long q1), .second, .val (.int p2), .val (.int p3), .val (.int p4), .unset, .unset, .unset, .unset, .unset, .unset, .unset, .unset] [(.int p2), (.long q1)])) _
  refine XS.bipush X0.here hx rfl (hb hby at_2) ?_
  show Steps p.tables e below (T0.setTop (mkF m 4 #[.val (.long q1), .second, .val (.int p2), .val (.int p3), .val (.int p4), .unset, .unset, .unset, .unset, .unset, .unset, .unset, .unset] [(.int (63 : Int32)), (.int p2), (.long q1)])) _
  refine XS.iand X0.here hx rfl (hb hby at_4) rfl ?_
  show Steps p.tables e below (T0.setTop (mkF m 5 #[.val (.long q1), .second, .val (.int p2), .val (.int p3), .val (.int p4), .unset, .unset, .unset, .unset, .unset, .unset, .unset, .unset] [(.int (p2 &&& (63 : Int32))), (.long q1)])) _
  refine XS.lushr X0.here hx rfl (hb hby at_5) rfl ?_
  show Steps p.tables e below (T0.setTop (mkF m 6 #[.val (.long q1), .second, .val (.int p2), .val (.int p3), .val (.int p4), .unset, .unset, .unset, .unset, .unset, .unset, .unset, .unset] [(.long ((q1.toUInt64 >>> ((p2 &&& (63 : Int32)) &&& 0x3f).toInt64.toUInt64).toInt64))])) _
  refine XS.lstore X0.here hx rfl (hb hby at_6) rfl (l' := #[.val (.long q1), .second, .val (.int p2), .val (.int p3), .val (.int p4), .val (.long ((q1.toUInt64 >>> ((p2 &&& (63 : Int32)) &&& 0x3f).toInt64.toUInt64).toInt64)), .second, .unset, .unset, .unset, .unset, .unset, .unset]) rfl ?_
  show Steps p.tables e below (T0.setTop (mkF m 8 #[.val (.long q1), .second, .val (.int p2), .val (.int p3), .val (.int p4), .val (.long ((q1.toUInt64 >>> ((p2 &&& (63 : Int32)) &&& 0x3f).toInt64.toUInt64).toInt64)), .second, .unset, .unset, .unset, .unset, .unset, .unset] [])) _
  refine XS.iloadN X0.here hx rfl (hb hby at_8) rfl ?_
  show Steps p.tables e below (T0.setTop (mkF m 9 #[.val (.long q1), .second, .val (.int p2), .val (.int p3), .val (.int p4), .val (.long ((q1.toUInt64 >>> ((p2 &&& (63 : Int32)) &&& 0x3f).toInt64.toUInt64).toInt64)), .second, .unset, .unset, .unset, .unset, .unset, .unset] [(.int p3)])) _
  refine X0.ldcInt hx hown (mvT hZ (hw _ (List.mem_of_getElem? (i := 0) rfl))) (g := (mkF m 9 #[.val (.long q1), .second, .val (.int p2), .val (.int p3), .val (.int p4), .val (.long ((q1.toUInt64 >>> ((p2 &&& (63 : Int32)) &&& 0x3f).toInt64.toUInt64).toInt64)), .second, .unset, .unset, .unset, .unset, .unset, .unset] [(.int p3)])) rfl (hb hby at_9) _ ?_
  show Steps p.tables e below (T0.setTop (mkF m 11 #[.val (.long q1), .second, .val (.int p2), .val (.int p3), .val (.int p4), .val (.long ((q1.toUInt64 >>> ((p2 &&& (63 : Int32)) &&& 0x3f).toInt64.toUInt64).toInt64)), .second, .unset, .unset, .unset, .unset, .unset, .unset] [(.int (2147483647 : Int32)), (.int p3)])) _
  refine XS.iand X0.here hx rfl (hb hby at_11) rfl ?_
  show Steps p.tables e below (T0.setTop (mkF m 12 #[.val (.long q1), .second, .val (.int p2), .val (.int p3), .val (.int p4), .val (.long ((q1.toUInt64 >>> ((p2 &&& (63 : Int32)) &&& 0x3f).toInt64.toUInt64).toInt64)), .second, .unset, .unset, .unset, .unset, .unset, .unset] [(.int (p3 &&& (2147483647 : Int32)))])) _
  refine XS.iconst X0.here hx rfl (hb hby at_12) ?_
  show Steps p.tables e below (T0.setTop (mkF m 13 #[.val (.long q1), .second, .val (.int p2), .val (.int p3), .val (.int p4), .val (.long ((q1.toUInt64 >>> ((p2 &&& (63 : Int32)) &&& 0x3f).toInt64.toUInt64).toInt64)), .second, .unset, .unset, .unset, .unset, .unset, .unset] [(.int (3 : Int32)), (.int (p3 &&& (2147483647 : Int32)))])) _
  refine XS.irem X0.here hx rfl (hb hby at_13) rfl (by decide) ?_
  show Steps p.tables e below (T0.setTop (mkF m 14 #[.val (.long q1), .second, .val (.int p2), .val (.int p3), .val (.int p4), .val (.long ((q1.toUInt64 >>> ((p2 &&& (63 : Int32)) &&& 0x3f).toInt64.toUInt64).toInt64)), .second, .unset, .unset, .unset, .unset, .unset, .unset] [(.int ((p3 &&& (2147483647 : Int32)) - ((p3 &&& (2147483647 : Int32)) / (3 : Int32)) * (3 : Int32)))])) _
  refine XS.istore X0.here hx rfl (hb hby at_14) rfl (l' := #[.val (.long q1), .second, .val (.int p2), .val (.int p3), .val (.int p4), .val (.long ((q1.toUInt64 >>> ((p2 &&& (63 : Int32)) &&& 0x3f).toInt64.toUInt64).toInt64)), .second, .val (.int ((p3 &&& (2147483647 : Int32)) - ((p3 &&& (2147483647 : Int32)) / (3 : Int32)) * (3 : Int32))), .unset, .unset, .unset, .unset, .unset]) rfl ?_
  show Steps p.tables e below (T0.setTop (mkF m 16 #[.val (.long q1), .second, .val (.int p2), .val (.int p3), .val (.int p4), .val (.long ((q1.toUInt64 >>> ((p2 &&& (63 : Int32)) &&& 0x3f).toInt64.toUInt64).toInt64)), .second, .val (.int ((p3 &&& (2147483647 : Int32)) - ((p3 &&& (2147483647 : Int32)) / (3 : Int32)) * (3 : Int32))), .unset, .unset, .unset, .unset, .unset] [])) _
  refine XS.iload X0.here hx rfl (hb hby at_16) rfl ?_
  show Steps p.tables e below (T0.setTop (mkF m 18 #[.val (.long q1), .second, .val (.int p2), .val (.int p3), .val (.int p4), .val (.long ((q1.toUInt64 >>> ((p2 &&& (63 : Int32)) &&& 0x3f).toInt64.toUInt64).toInt64)), .second, .val (.int ((p3 &&& (2147483647 : Int32)) - ((p3 &&& (2147483647 : Int32)) / (3 : Int32)) * (3 : Int32))), .unset, .unset, .unset, .unset, .unset] [(.int p4)])) _
  refine XS.i2b X0.here hx rfl (hb hby at_18) rfl ?_
  show Steps p.tables e below (T0.setTop (mkF m 19 #[.val (.long q1), .second, .val (.int p2), .val (.int p3), .val (.int p4), .val (.long ((q1.toUInt64 >>> ((p2 &&& (63 : Int32)) &&& 0x3f).toInt64.toUInt64).toInt64)), .second, .val (.int ((p3 &&& (2147483647 : Int32)) - ((p3 &&& (2147483647 : Int32)) / (3 : Int32)) * (3 : Int32))), .unset, .unset, .unset, .unset, .unset] [(.int (p4.toInt8.toInt32))])) _
  refine XS.istore X0.here hx rfl (hb hby at_19) rfl (l' := #[.val (.long q1), .second, .val (.int p2), .val (.int p3), .val (.int p4), .val (.long ((q1.toUInt64 >>> ((p2 &&& (63 : Int32)) &&& 0x3f).toInt64.toUInt64).toInt64)), .second, .val (.int ((p3 &&& (2147483647 : Int32)) - ((p3 &&& (2147483647 : Int32)) / (3 : Int32)) * (3 : Int32))), .val (.int (p4.toInt8.toInt32)), .unset, .unset, .unset, .unset]) rfl ?_
  show Steps p.tables e below (T0.setTop (mkF m 21 #[.val (.long q1), .second, .val (.int p2), .val (.int p3), .val (.int p4), .val (.long ((q1.toUInt64 >>> ((p2 &&& (63 : Int32)) &&& 0x3f).toInt64.toUInt64).toInt64)), .second, .val (.int ((p3 &&& (2147483647 : Int32)) - ((p3 &&& (2147483647 : Int32)) / (3 : Int32)) * (3 : Int32))), .val (.int (p4.toInt8.toInt32)), .unset, .unset, .unset, .unset] [])) _
  rw [hq, ho]
  exact kt
theorem own_off (p3 : Int32) : ∃ oo : Nat, oo < 3 ∧ ((p3 &&& (2147483647 : Int32)) - ((p3 &&& (2147483647 : Int32)) / (3 : Int32)) * (3 : Int32)) = Int32.ofNat oo := by
  have e : (p3 &&& (2147483647 : Int32)).toInt = p3.toInt % 2 ^ 31 := Jvm.Kit.i32_mask p3 2147483647 (k := 31) (by decide) (by decide)
  have e2 : (((p3 &&& (2147483647 : Int32)) - ((p3 &&& (2147483647 : Int32)) / (3 : Int32)) * (3 : Int32))).toInt = (p3 &&& (2147483647 : Int32)).toInt % 3 := by rw [rem_toInt, show (3 : Int32).toInt = 3 from rfl, Int.tmod_eq_emod_of_nonneg (by omega)]
  refine ⟨(((p3 &&& (2147483647 : Int32)) - ((p3 &&& (2147483647 : Int32)) / (3 : Int32)) * (3 : Int32))).toInt.toNat, by omega, Int32.toInt_inj.mp ?_⟩
  rw [Int32.toInt_ofNat_of_lt (by omega)]
  omega
set_option maxRecDepth 65536 in
set_option maxHeartbeats 40000000 in
theorem own_callAt {p : Program} {l : Launch} {e : Env} {s : State} {m : MethodId} {args : Array Value} {below : List Frame} {meth : Method} {c : Code} {T0 : State} {locs : List Loc} {Z : State} {a0 : Array Value} {n0 : Nat} {b2 : Addr} {j : Nat} {off n : Int32} {q : Int64} {fl : Int32} {f : Nat → Int32} {pc : Nat} {Ls : Array Slot}
    (X0 : Stand p l e room_1 s m args below meth c T0 locs 1 13) (hx : p.tables.exec = Jvm.exec) (hZ : Z.Warmed39 s.vm) (hw : ∀ d ∈ tables_1, d.before a0 Z = true) (hby : c.code = code) (hown : s.vm.findClass "com/example/termweave/termweave/index/IndexFormatPutVarLongPinLaw" = some m.cls) (hml : c.maxLocals = 13) (N0 : Fr n0 locs) (Z0 : n0 ≤ T0.heap.size) (hj : j < 13) (A : own_B Z T0.heap b2 f) (hok : own_at f j off n q fl = 1) (hLs : Ls.size = 13) (hd : decode c.code pc = .ok (.invokestatic 20, 3)) :
    ∃ (T' : State) (locs' : List Loc), Stand p l e room_1 s m args below meth c T' locs' 1 13 ∧ Fr n0 locs' ∧ T'.heap = T0.heap ∧ ∀ target, Steps p.tables e below (T'.setTop (mkF m (pc + 3) Ls [(.int (1 : Int32))])) target → Steps p.tables e below (T0.setTop (mkF m pc Ls [(.int fl), (.long q), (.int n), (.int off), (.int (Int32.ofNat j)), (.ref b2)])) target := by
  obtain ⟨_, _, ⟨T1, L1, k1, n1⟩, -, X1, ⟨Lc1, hQ1, l1, y1, z1⟩, st1⟩ := Jvm.LawKit.callS X0 hx (y := (⟨"com/example/termweave/termweave/index/IndexFormatPutVarLongPinLaw", "at", "([BIIIJB)Z"⟩ : MethodName)) hown (mvT hZ (hw _ (List.mem_of_getElem? (i := 11) rfl))) (mvT hZ (hw _ (List.mem_of_getElem? (i := 12) rfl))) (mvT hZ (hw _ (List.mem_of_getElem? (i := 9) rfl))) (mvT hZ (hw _ (List.mem_of_getElem? (i := 13) rfl))) (by decide) (backOf (W := 0) (rm3 l Z a0 hw [] b2 j off n q fl f T0.heap n0 Z0 hj A hok) hZ (hw _ (List.mem_of_getElem? (i := 13) rfl)) (hw _ (List.mem_of_getElem? (i := 9) rfl)) (by decide) (by decide)) (g := (mkF m pc Ls [(.int fl), (.long q), (.int n), (.int off), (.int (Int32.ofNat j)), (.ref b2)])) rfl (by rw [hml]; exact hLs) (argsL := [(.ref b2), (.int (Int32.ofNat j)), (.int off), (.int n), (.long q), (.int fl)]) (rest := []) (lenOf pd_3 rfl) rfl (by show 2 * 0 + _ ≤ _; exact Nat.le_of_eq rfl) hd (fun _ _ => ⟨rfl, rfl, (by decide : 1 + 0 ≤ _), (by decide : 13 + 0 ≤ _)⟩)
  dsimp only [Pt.U, Pt.locs, Pt.cells, Pt.slots] at X1 l1 y1 z1 st1 hQ1
  subst l1 y1 z1
  obtain ⟨rfl, N1q, e1⟩ := hQ1
  exact ⟨T1, _, X1, Fr.app N0 N1q, e1, st1⟩
-- 2. THE CONTRACT: what this body leaves is yours
def Q0 (Z : State) (q1 : Int64) (p2 : Int32) (p3 : Int32) (p4 : Int32) (h0 : Heap) (n0 : Nat) (v : Option Value) (h : Heap) (L : List Loc) : Prop := v = some (.int (1 : Int32)) ∧ Fr n0 L
-- its room: frames: the greatest, locals: the greatest, cells 1 + .., slots 13 + ..: rm1: frames + 1; locals 0 + 7 + 11 + its room's locals; its cells and slots besides; rm2: frames + 1; locals 0 + 3 + 11 + its room's locals; its cells and slots besides; rm3: frames + 1; locals 0 + 10 + 11 + its room's locals; its cells and slots besides; rm3: frames + 1; locals 0 + 10 + 11 + its room's locals; its cells and slots besides; rm3: frames + 1; locals 0 + 10 + 11 + its room's locals; its cells and slots besides; rm3: frames + 1; locals 0 + 10 + 11 + its room's locals; its cells and slots besides; rm3: frames + 1; locals 0 + 10 + 11 + its room's locals; its cells and slots besides; rm3: frames + 1; locals 0 + 10 + 11 + its room's locals; its cells and slots besides; rm3: frames + 1; locals 0 + 10 + 11 + its room's locals; its cells and slots besides; rm3: frames + 1; locals 0 + 10 + 11 + its room's locals; its cells and slots besides; rm3: frames + 1; locals 0 + 10 + 11 + its room's locals; its cells and slots besides; rm3: frames + 1; locals 0 + 10 + 11 + its room's locals; its cells and slots besides; rm3: frames + 1; locals 0 + 10 + 11 + its room's locals; its cells and slots besides; rm3: frames + 1; locals 0 + 10 + 11 + its room's locals; its cells and slots besides; rm3: frames + 1; locals 0 + 10 + 11 + its room's locals; its cells and slots besides
set_option maxRecDepth 65536 in
set_option maxHeartbeats 40000000 in
theorem rm0 (l : Launch) (Z : State) (a0 : Array Value) (hw : ∀ d ∈ tables_1, d.before a0 Z = true) (ws : List Jvm.Cond) (q1 : Int64) (p2 : Int32) (p3 : Int32) (p4 : Int32) (h0 : Heap) (n0 : Nat) (Z0 : n0 ≤ h0.size) :
    MetFree l x (head1 (Jvm.Cond.code x code maxLocals ret :: ws) room_1) (fun a U => a = #[(.long q1), (.int p2), (.int p3), (.int p4)] ∧ Z.Warmed39 U.vm ∧ U.heap = h0) (fun _ _ _ _ _ => True) (fun _ U o U' => ∃ v L, o = .returned v ∧ Q0 Z q1 p2 p3 p4 h0 n0 v U'.heap L ∧ FrameEnd U o U' L room_1.cells room_1.slots) := by
  refine MetFree.of_bodySF (plainFor_of_name pn_0) hisR ?_
  intro p e s m args below meth c s₁ Bd hml0 hP hK
  obtain ⟨rfl, hZ, hh⟩ := hP
  have hx := Bd.exec
  have hby := Bd.bytes
  have hml : c.maxLocals = 13 := hml0
  have hown : s.vm.findClass "com/example/termweave/termweave/index/IndexFormatPutVarLongPinLaw" = some m.cls := findClass_of_methodNamed Bd.named
  have hnm := (name_of_methodNamed Bd.named Bd.method).1
  have X0 : Stand p l e room_1 s m #[(.long q1), (.int p2), (.int p3), (.int p4)] below meth c s₁ [] 0 0 := Stand.of_body Bd
  have e0 : s₁.heap = h0 := by rw [← hh, Bd.state]; rfl
  have N0 := Fr.nil n0
  have pre0 : ∀ t, Steps p.tables e below (s₁.setTop (mkF m 0 #[.val (.long q1), .second, .val (.int p2), .val (.int p3), .val (.int p4), .unset, .unset, .unset, .unset, .unset, .unset, .unset, .unset] [])) t → Steps p.tables e below (s₁.setTop (entryFrame m #[(.long q1), (.int p2), (.int p3), (.int p4)] maxLocals)) t := fun t k => castTop (ef_0 m q1 p2 p3 p4) k
  obtain ⟨oo, hoo, eo⟩ := own_off p3
  obtain ⟨vq, hq⟩ : ∃ z, ((q1.toUInt64 >>> ((p2 &&& (63 : Int32)) &&& 0x3f).toInt64.toUInt64).toInt64) = z := ⟨_, rfl⟩
  obtain ⟨lw1, lw2⟩ := own_law vq oo hoo (own_byte p4)
  obtain ⟨T2, h2, k2, X2, e2, E2, A2, st2⟩ := newP X0 hx hZ (hw _ (List.mem_of_getElem? (i := 1) rfl)) e0 (g := (mkF m 23 #[.val (.long q1), .second, .val (.int p2), .val (.int p3), .val (.int p4), .val (.long vq), .second, .val (.int (Int32.ofNat oo)), .val (.int (own_byte p4)), .unset, .unset, .unset, .unset] [(.int (13 : Int32))])) rfl (hb hby at_23) rfl (by decide) (cap := 13) (by decide) (by decide) (by decide) (by decide)
  obtain ⟨b2, g2⟩ : ∃ z, z = h0.size := ⟨_, rfl⟩
  rw [← g2] at A2 st2
  have g_b2 : n0 ≤ b2 := Nat.le_trans Z0 (Nat.le_of_eq g2.symm)
  have B2 : own_B Z h2 b2 (own_fl 0 (own_byte p4)) := own_A.congr (own_A.new (ty := .byte) A2 rfl) fun j hj => rfl
  have N2 := N0
  have Z2 : n0 ≤ h2.size := Nat.le_trans Z0 E2.1
  obtain ⟨c3, Ar3, S3, H3⟩ := id B2
  obtain ⟨T3, h3, X3, e3, W3, st3⟩ := stB X2 hx hZ e2 Ar3 (j := (0 : Int32)) (own_in (n := 0) S3 (by decide) (by decide)) (g := (mkF m 32 #[.val (.long q1), .second, .val (.int p2), .val (.int p3), .val (.int p4), .val (.long vq), .second, .val (.int (Int32.ofNat oo)), .val (.int (own_byte p4)), .val (.ref b2), .unset, .unset, .unset] [(.int (own_byte p4)), (.int (0 : Int32)), (.ref b2)])) rfl rfl (hb hby at_32)
  have B3 : own_B Z h3 b2 (own_fl 1 (own_byte p4)) := own_B.fill (k := 0) B2 W3 (by decide) (own_nb p4)
  have N3 := Fr.snoc X3 N2 g_b2
  have Z3 : n0 ≤ h3.size := Nat.le_trans Z2 (Keep.of_wr W3).1
  obtain ⟨c4, Ar4, S4, H4⟩ := id B3
  obtain ⟨T4, h4, X4, e4, W4, st4⟩ := stB X3 hx hZ e3 Ar4 (j := (1 : Int32)) (own_in (n := 1) S4 (by decide) (by decide)) (g := (mkF m 38 #[.val (.long q1), .second, .val (.int p2), .val (.int p3), .val (.int p4), .val (.long vq), .second, .val (.int (Int32.ofNat oo)), .val (.int (own_byte p4)), .val (.ref b2), .unset, .unset, .unset] [(.int (own_byte p4)), (.int (1 : Int32)), (.ref b2)])) rfl rfl (hb hby at_38)
  have B4 : own_B Z h4 b2 (own_fl 2 (own_byte p4)) := own_B.fill (k := 1) B3 W4 (by decide) (own_nb p4)
  have N4 := Fr.snoc X4 N3 g_b2
  have Z4 : n0 ≤ h4.size := Nat.le_trans Z3 (Keep.of_wr W4).1
  obtain ⟨c5, Ar5, S5, H5⟩ := id B4
  obtain ⟨T5, h5, X5, e5, W5, st5⟩ := stB X4 hx hZ e4 Ar5 (j := (2 : Int32)) (own_in (n := 2) S5 (by decide) (by decide)) (g := (mkF m 44 #[.val (.long q1), .second, .val (.int p2), .val (.int p3), .val (.int p4), .val (.long vq), .second, .val (.int (Int32.ofNat oo)), .val (.int (own_byte p4)), .val (.ref b2), .unset, .unset, .unset] [(.int (own_byte p4)), (.int (2 : Int32)), (.ref b2)])) rfl rfl (hb hby at_44)
  have B5 : own_B Z h5 b2 (own_fl 3 (own_byte p4)) := own_B.fill (k := 2) B4 W5 (by decide) (own_nb p4)
  have N5 := Fr.snoc X5 N4 g_b2
  have Z5 : n0 ≤ h5.size := Nat.le_trans Z4 (Keep.of_wr W5).1
  obtain ⟨c6, Ar6, S6, H6⟩ := id B5
  obtain ⟨T6, h6, X6, e6, W6, st6⟩ := stB X5 hx hZ e5 Ar6 (j := (3 : Int32)) (own_in (n := 3) S6 (by decide) (by decide)) (g := (mkF m 50 #[.val (.long q1), .second, .val (.int p2), .val (.int p3), .val (.int p4), .val (.long vq), .second, .val (.int (Int32.ofNat oo)), .val (.int (own_byte p4)), .val (.ref b2), .unset, .unset, .unset] [(.int (own_byte p4)), (.int (3 : Int32)), (.ref b2)])) rfl rfl (hb hby at_50)
  have B6 : own_B Z h6 b2 (own_fl 4 (own_byte p4)) := own_B.fill (k := 3) B5 W6 (by decide) (own_nb p4)
  have N6 := Fr.snoc X6 N5 g_b2
  have Z6 : n0 ≤ h6.size := Nat.le_trans Z5 (Keep.of_wr W6).1
  obtain ⟨c7, Ar7, S7, H7⟩ := id B6
  obtain ⟨T7, h7, X7, e7, W7, st7⟩ := stB X6 hx hZ e6 Ar7 (j := (4 : Int32)) (own_in (n := 4) S7 (by decide) (by decide)) (g := (mkF m 56 #[.val (.long q1), .second, .val (.int p2), .val (.int p3), .val (.int p4), .val (.long vq), .second, .val (.int (Int32.ofNat oo)), .val (.int (own_byte p4)), .val (.ref b2), .unset, .unset, .unset] [(.int (own_byte p4)), (.int (4 : Int32)), (.ref b2)])) rfl rfl (hb hby at_56)
  have B7 : own_B Z h7 b2 (own_fl 5 (own_byte p4)) := own_B.fill (k := 4) B6 W7 (by decide) (own_nb p4)
  have N7 := Fr.snoc X7 N6 g_b2
  have Z7 : n0 ≤ h7.size := Nat.le_trans Z6 (Keep.of_wr W7).1
  obtain ⟨c8, Ar8, S8, H8⟩ := id B7
  obtain ⟨T8, h8, X8, e8, W8, st8⟩ := stB X7 hx hZ e7 Ar8 (j := (5 : Int32)) (own_in (n := 5) S8 (by decide) (by decide)) (g := (mkF m 62 #[.val (.long q1), .second, .val (.int p2), .val (.int p3), .val (.int p4), .val (.long vq), .second, .val (.int (Int32.ofNat oo)), .val (.int (own_byte p4)), .val (.ref b2), .unset, .unset, .unset] [(.int (own_byte p4)), (.int (5 : Int32)), (.ref b2)])) rfl rfl (hb hby at_62)
  have B8 : own_B Z h8 b2 (own_fl 6 (own_byte p4)) := own_B.fill (k := 5) B7 W8 (by decide) (own_nb p4)
  have N8 := Fr.snoc X8 N7 g_b2
  have Z8 : n0 ≤ h8.size := Nat.le_trans Z7 (Keep.of_wr W8).1
  obtain ⟨c9, Ar9, S9, H9⟩ := id B8
  obtain ⟨T9, h9, X9, e9, W9, st9⟩ := stB X8 hx hZ e8 Ar9 (j := (6 : Int32)) (own_in (n := 6) S9 (by decide) (by decide)) (g := (mkF m 69 #[.val (.long q1), .second, .val (.int p2), .val (.int p3), .val (.int p4), .val (.long vq), .second, .val (.int (Int32.ofNat oo)), .val (.int (own_byte p4)), .val (.ref b2), .unset, .unset, .unset] [(.int (own_byte p4)), (.int (6 : Int32)), (.ref b2)])) rfl rfl (hb hby at_69)
  have B9 : own_B Z h9 b2 (own_fl 7 (own_byte p4)) := own_B.fill (k := 6) B8 W9 (by decide) (own_nb p4)
  have N9 := Fr.snoc X9 N8 g_b2
  have Z9 : n0 ≤ h9.size := Nat.le_trans Z8 (Keep.of_wr W9).1
  obtain ⟨c10, Ar10, S10, H10⟩ := id B9
  obtain ⟨T10, h10, X10, e10, W10, st10⟩ := stB X9 hx hZ e9 Ar10 (j := (7 : Int32)) (own_in (n := 7) S10 (by decide) (by decide)) (g := (mkF m 76 #[.val (.long q1), .second, .val (.int p2), .val (.int p3), .val (.int p4), .val (.long vq), .second, .val (.int (Int32.ofNat oo)), .val (.int (own_byte p4)), .val (.ref b2), .unset, .unset, .unset] [(.int (own_byte p4)), (.int (7 : Int32)), (.ref b2)])) rfl rfl (hb hby at_76)
  have B10 : own_B Z h10 b2 (own_fl 8 (own_byte p4)) := own_B.fill (k := 7) B9 W10 (by decide) (own_nb p4)
  have N10 := Fr.snoc X10 N9 g_b2
  have Z10 : n0 ≤ h10.size := Nat.le_trans Z9 (Keep.of_wr W10).1
  obtain ⟨c11, Ar11, S11, H11⟩ := id B10
  obtain ⟨T11, h11, X11, e11, W11, st11⟩ := stB X10 hx hZ e10 Ar11 (j := (8 : Int32)) (own_in (n := 8) S11 (by decide) (by decide)) (g := (mkF m 83 #[.val (.long q1), .second, .val (.int p2), .val (.int p3), .val (.int p4), .val (.long vq), .second, .val (.int (Int32.ofNat oo)), .val (.int (own_byte p4)), .val (.ref b2), .unset, .unset, .unset] [(.int (own_byte p4)), (.int (8 : Int32)), (.ref b2)])) rfl rfl (hb hby at_83)
  have B11 : own_B Z h11 b2 (own_fl 9 (own_byte p4)) := own_B.fill (k := 8) B10 W11 (by decide) (own_nb p4)
  have N11 := Fr.snoc X11 N10 g_b2
  have Z11 : n0 ≤ h11.size := Nat.le_trans Z10 (Keep.of_wr W11).1
  obtain ⟨c12, Ar12, S12, H12⟩ := id B11
  obtain ⟨T12, h12, X12, e12, W12, st12⟩ := stB X11 hx hZ e11 Ar12 (j := (9 : Int32)) (own_in (n := 9) S12 (by decide) (by decide)) (g := (mkF m 90 #[.val (.long q1), .second, .val (.int p2), .val (.int p3), .val (.int p4), .val (.long vq), .second, .val (.int (Int32.ofNat oo)), .val (.int (own_byte p4)), .val (.ref b2), .unset, .unset, .unset] [(.int (own_byte p4)), (.int (9 : Int32)), (.ref b2)])) rfl rfl (hb hby at_90)
  have B12 : own_B Z h12 b2 (own_fl 10 (own_byte p4)) := own_B.fill (k := 9) B11 W12 (by decide) (own_nb p4)
  have N12 := Fr.snoc X12 N11 g_b2
  have Z12 : n0 ≤ h12.size := Nat.le_trans Z11 (Keep.of_wr W12).1
  obtain ⟨c13, Ar13, S13, H13⟩ := id B12
  obtain ⟨T13, h13, X13, e13, W13, st13⟩ := stB X12 hx hZ e12 Ar13 (j := (10 : Int32)) (own_in (n := 10) S13 (by decide) (by decide)) (g := (mkF m 97 #[.val (.long q1), .second, .val (.int p2), .val (.int p3), .val (.int p4), .val (.long vq), .second, .val (.int (Int32.ofNat oo)), .val (.int (own_byte p4)), .val (.ref b2), .unset, .unset, .unset] [(.int (own_byte p4)), (.int (10 : Int32)), (.ref b2)])) rfl rfl (hb hby at_97)
  have B13 : own_B Z h13 b2 (own_fl 11 (own_byte p4)) := own_B.fill (k := 10) B12 W13 (by decide) (own_nb p4)
  have N13 := Fr.snoc X13 N12 g_b2
  have Z13 : n0 ≤ h13.size := Nat.le_trans Z12 (Keep.of_wr W13).1
  obtain ⟨c14, Ar14, S14, H14⟩ := id B13
  obtain ⟨T14, h14, X14, e14, W14, st14⟩ := stB X13 hx hZ e13 Ar14 (j := (11 : Int32)) (own_in (n := 11) S14 (by decide) (by decide)) (g := (mkF m 104 #[.val (.long q1), .second, .val (.int p2), .val (.int p3), .val (.int p4), .val (.long vq), .second, .val (.int (Int32.ofNat oo)), .val (.int (own_byte p4)), .val (.ref b2), .unset, .unset, .unset] [(.int (own_byte p4)), (.int (11 : Int32)), (.ref b2)])) rfl rfl (hb hby at_104)
  have B14 : own_B Z h14 b2 (own_fl 12 (own_byte p4)) := own_B.fill (k := 11) B13 W14 (by decide) (own_nb p4)
  have N14 := Fr.snoc X14 N13 g_b2
  have Z14 : n0 ≤ h14.size := Nat.le_trans Z13 (Keep.of_wr W14).1
  obtain ⟨c15, Ar15, S15, H15⟩ := id B14
  obtain ⟨T15, h15, X15, e15, W15, st15⟩ := stB X14 hx hZ e14 Ar15 (j := (12 : Int32)) (own_in (n := 12) S15 (by decide) (by decide)) (g := (mkF m 111 #[.val (.long q1), .second, .val (.int p2), .val (.int p3), .val (.int p4), .val (.long vq), .second, .val (.int (Int32.ofNat oo)), .val (.int (own_byte p4)), .val (.ref b2), .unset, .unset, .unset] [(.int (own_byte p4)), (.int (12 : Int32)), (.ref b2)])) rfl rfl (hb hby at_111)
  have B15 : own_B Z h15 b2 (own_fl 13 (own_byte p4)) := own_B.fill (k := 12) B14 W15 (by decide) (own_nb p4)
  have N15 := Fr.snoc X15 N14 g_b2
  have Z15 : n0 ≤ h15.size := Nat.le_trans Z14 (Keep.of_wr W15).1
  have F15 : own_B Z h15 b2 (fun _ => own_byte p4) := own_A.congr B15 fun j hj => by show Value.int (if j < 13 then own_byte p4 else 0) = _; rw [if_pos hj]
  obtain ⟨Pn, hPn⟩ : ∃ z, own_put 9 (fun _ => own_byte p4) oo vq = z := ⟨_, rfl⟩
  obtain ⟨ln, hln⟩ : ∃ z, own_len vq 9 = z := ⟨_, rfl⟩
  rw [hPn, hln] at lw1 lw2
  obtain ⟨_, _, ⟨T20, L20, k20, n20⟩, -, X20, ⟨Lc20, hQ20, l20, y20, z20⟩, st20⟩ := Jvm.LawKit.callS X15 hx (y := (⟨"com/example/termweave/termweave/index/IndexFormat", "putVarLong", "([BIJ)I"⟩ : MethodName)) hown (mvT hZ (hw _ (List.mem_of_getElem? (i := 2) rfl))) (mvT hZ (hw _ (List.mem_of_getElem? (i := 3) rfl))) (mvT hZ (hw _ (List.mem_of_getElem? (i := 4) rfl))) (mvT hZ (hw _ (List.mem_of_getElem? (i := 5) rfl))) (by decide) (backOf (W := 0) (rm1 l Z a0 hw [] b2 oo vq (fun _ => own_byte p4) h15 n0 Z15 F15 g_b2 hoo) hZ (hw _ (List.mem_of_getElem? (i := 5) rfl)) (hw _ (List.mem_of_getElem? (i := 4) rfl)) (by decide) (by decide)) (g := (mkF m 118 #[.val (.long q1), .second, .val (.int p2), .val (.int p3), .val (.int p4), .val (.long vq), .second, .val (.int (Int32.ofNat oo)), .val (.int (own_byte p4)), .val (.ref b2), .unset, .unset, .unset] [(.long vq), (.int (Int32.ofNat oo)), (.ref b2)])) rfl (by rw [hml]; rfl) (argsL := [(.ref b2), (.int (Int32.ofNat oo)), (.long vq)]) (rest := []) (lenOf pd_1 rfl) rfl (by show 2 * 0 + _ ≤ _; exact Nat.le_of_eq rfl) (hb hby at_118) (fun _ _ => ⟨rfl, e15, (by decide : 1 + 0 ≤ _), (by decide : 13 + 0 ≤ _)⟩)
  dsimp only [Pt.U, Pt.locs, Pt.cells, Pt.slots] at X20 l20 y20 z20 st20 hQ20
  subst l20 y20 z20
  obtain ⟨hv20, N20q, Z20, B20⟩ := hQ20
  rw [hPn] at hv20 B20
  subst hv20
  have N20 := Fr.app N15 N20q
  obtain ⟨_, _, ⟨T21, L21, k21, n21⟩, -, X21, ⟨Lc21, hQ21, l21, y21, z21⟩, st21⟩ := Jvm.LawKit.callS X20 hx (y := (⟨"com/example/termweave/termweave/index/IndexFormatPutVarLongPinLaw", "len", "(J)I"⟩ : MethodName)) hown (mvT hZ (hw _ (List.mem_of_getElem? (i := 7) rfl))) (mvT hZ (hw _ (List.mem_of_getElem? (i := 8) rfl))) (mvT hZ (hw _ (List.mem_of_getElem? (i := 9) rfl))) (mvT hZ (hw _ (List.mem_of_getElem? (i := 10) rfl))) (by decide) (backOf (W := 0) (rm2 l Z a0 hw [] vq T20.heap n0 Z20) hZ (hw _ (List.mem_of_getElem? (i := 10) rfl)) (hw _ (List.mem_of_getElem? (i := 9) rfl)) (by decide) (by decide)) (g := (mkF m 125 #[.val (.long q1), .second, .val (.int p2), .val (.int p3), .val (.int p4), .val (.long vq), .second, .val (.int (Int32.ofNat oo)), .val (.int (own_byte p4)), .val (.ref b2), .val (.int (Int32.ofNat Pn.2)), .unset, .unset] [(.long vq)])) rfl (by rw [hml]; rfl) (argsL := [(.long vq)]) (rest := []) (lenOf pd_2 rfl) rfl (by show 2 * 0 + _ ≤ _; exact Nat.le_of_eq rfl) (hb hby at_125) (fun _ _ => ⟨rfl, rfl, (by decide : 1 + 0 ≤ _), (by decide : 13 + 0 ≤ _)⟩)
  dsimp only [Pt.U, Pt.locs, Pt.cells, Pt.slots] at X21 l21 y21 z21 st21 hQ21
  subst l21 y21 z21
  obtain ⟨hv21, N21q, q21⟩ := hQ21
  rw [hln] at hv21
  subst hv21
  have N21 := Fr.app N20 N21q
  have Z21 : n0 ≤ T21.heap.size := by rw [q21]; exact Z20
  have B21 : own_B Z T21.heap b2 Pn.1 := by rw [q21]; exact B20
  obtain ⟨T22, L22, X22, N22, q22, st22⟩ := own_callAt (j := 0) (off := Int32.ofNat oo) (n := ln) (q := vq) (fl := own_byte p4) (f := Pn.1) (Ls := #[.val (.long q1), .second, .val (.int p2), .val (.int p3), .val (.int p4), .val (.long vq), .second, .val (.int (Int32.ofNat oo)), .val (.int (own_byte p4)), .val (.ref b2), .val (.int (Int32.ofNat Pn.2)), .val (.int ln), .val (.int (1 : Int32))]) X21 hx hZ hw hby hown hml N21 Z21 (by decide) B21 (lw2 0 (by decide)) rfl (hb hby at_163)
  have Z22 : n0 ≤ T22.heap.size := by rw [q22]; exact Z21
  have B22 : own_B Z T22.heap b2 Pn.1 := by rw [q22]; exact B21
  obtain ⟨T23, L23, X23, N23, q23, st23⟩ := own_callAt (j := 1) (off := Int32.ofNat oo) (n := ln) (q := vq) (fl := own_byte p4) (f := Pn.1) (Ls := #[.val (.long q1), .second, .val (.int p2), .val (.int p3), .val (.int p4), .val (.long vq), .second, .val (.int (Int32.ofNat oo)), .val (.int (own_byte p4)), .val (.ref b2), .val (.int (Int32.ofNat Pn.2)), .val (.int ln), .val (.int (1 : Int32))]) X22 hx hZ hw hby hown hml N22 Z22 (by decide) B22 (lw2 1 (by decide)) rfl (hb hby at_192)
  have Z23 : n0 ≤ T23.heap.size := by rw [q23]; exact Z22
  have B23 : own_B Z T23.heap b2 Pn.1 := by rw [q23]; exact B22
  obtain ⟨T24, L24, X24, N24, q24, st24⟩ := own_callAt (j := 2) (off := Int32.ofNat oo) (n := ln) (q := vq) (fl := own_byte p4) (f := Pn.1) (Ls := #[.val (.long q1), .second, .val (.int p2), .val (.int p3), .val (.int p4), .val (.long vq), .second, .val (.int (Int32.ofNat oo)), .val (.int (own_byte p4)), .val (.ref b2), .val (.int (Int32.ofNat Pn.2)), .val (.int ln), .val (.int (1 : Int32))]) X23 hx hZ hw hby hown hml N23 Z23 (by decide) B23 (lw2 2 (by decide)) rfl (hb hby at_221)
  have Z24 : n0 ≤ T24.heap.size := by rw [q24]; exact Z23
  have B24 : own_B Z T24.heap b2 Pn.1 := by rw [q24]; exact B23
  obtain ⟨T25, L25, X25, N25, q25, st25⟩ := own_callAt (j := 3) (off := Int32.ofNat oo) (n := ln) (q := vq) (fl := own_byte p4) (f := Pn.1) (Ls := #[.val (.long q1), .second, .val (.int p2), .val (.int p3), .val (.int p4), .val (.long vq), .second, .val (.int (Int32.ofNat oo)), .val (.int (own_byte p4)), .val (.ref b2), .val (.int (Int32.ofNat Pn.2)), .val (.int ln), .val (.int (1 : Int32))]) X24 hx hZ hw hby hown hml N24 Z24 (by decide) B24 (lw2 3 (by decide)) rfl (hb hby at_250)
  have Z25 : n0 ≤ T25.heap.size := by rw [q25]; exact Z24
  have B25 : own_B Z T25.heap b2 Pn.1 := by rw [q25]; exact B24
  obtain ⟨T26, L26, X26, N26, q26, st26⟩ := own_callAt (j := 4) (off := Int32.ofNat oo) (n := ln) (q := vq) (fl := own_byte p4) (f := Pn.1) (Ls := #[.val (.long q1), .second, .val (.int p2), .val (.int p3), .val (.int p4), .val (.long vq), .second, .val (.int (Int32.ofNat oo)), .val (.int (own_byte p4)), .val (.ref b2), .val (.int (Int32.ofNat Pn.2)), .val (.int ln), .val (.int (1 : Int32))]) X25 hx hZ hw hby hown hml N25 Z25 (by decide) B25 (lw2 4 (by decide)) rfl (hb hby at_279)
  have Z26 : n0 ≤ T26.heap.size := by rw [q26]; exact Z25
  have B26 : own_B Z T26.heap b2 Pn.1 := by rw [q26]; exact B25
  obtain ⟨T27, L27, X27, N27, q27, st27⟩ := own_callAt (j := 5) (off := Int32.ofNat oo) (n := ln) (q := vq) (fl := own_byte p4) (f := Pn.1) (Ls := #[.val (.long q1), .second, .val (.int p2), .val (.int p3), .val (.int p4), .val (.long vq), .second, .val (.int (Int32.ofNat oo)), .val (.int (own_byte p4)), .val (.ref b2), .val (.int (Int32.ofNat Pn.2)), .val (.int ln), .val (.int (1 : Int32))]) X26 hx hZ hw hby hown hml N26 Z26 (by decide) B26 (lw2 5 (by decide)) rfl (hb hby at_308)
  have Z27 : n0 ≤ T27.heap.size := by rw [q27]; exact Z26
  have B27 : own_B Z T27.heap b2 Pn.1 := by rw [q27]; exact B26
  obtain ⟨T28, L28, X28, N28, q28, st28⟩ := own_callAt (j := 6) (off := Int32.ofNat oo) (n := ln) (q := vq) (fl := own_byte p4) (f := Pn.1) (Ls := #[.val (.long q1), .second, .val (.int p2), .val (.int p3), .val (.int p4), .val (.long vq), .second, .val (.int (Int32.ofNat oo)), .val (.int (own_byte p4)), .val (.ref b2), .val (.int (Int32.ofNat Pn.2)), .val (.int ln), .val (.int (1 : Int32))]) X27 hx hZ hw hby hown hml N27 Z27 (by decide) B27 (lw2 6 (by decide)) rfl (hb hby at_338)
  have Z28 : n0 ≤ T28.heap.size := by rw [q28]; exact Z27
  have B28 : own_B Z T28.heap b2 Pn.1 := by rw [q28]; exact B27
  obtain ⟨T29, L29, X29, N29, q29, st29⟩ := own_callAt (j := 7) (off := Int32.ofNat oo) (n := ln) (q := vq) (fl := own_byte p4) (f := Pn.1) (Ls := #[.val (.long q1), .second, .val (.int p2), .val (.int p3), .val (.int p4), .val (.long vq), .second, .val (.int (Int32.ofNat oo)), .val (.int (own_byte p4)), .val (.ref b2), .val (.int (Int32.ofNat Pn.2)), .val (.int ln), .val (.int (1 : Int32))]) X28 hx hZ hw hby hown hml N28 Z28 (by decide) B28 (lw2 7 (by decide)) rfl (hb hby at_368)
  have Z29 : n0 ≤ T29.heap.size := by rw [q29]; exact Z28
  have B29 : own_B Z T29.heap b2 Pn.1 := by rw [q29]; exact B28
  obtain ⟨T30, L30, X30, N30, q30, st30⟩ := own_callAt (j := 8) (off := Int32.ofNat oo) (n := ln) (q := vq) (fl := own_byte p4) (f := Pn.1) (Ls := #[.val (.long q1), .second, .val (.int p2), .val (.int p3), .val (.int p4), .val (.long vq), .second, .val (.int (Int32.ofNat oo)), .val (.int (own_byte p4)), .val (.ref b2), .val (.int (Int32.ofNat Pn.2)), .val (.int ln), .val (.int (1 : Int32))]) X29 hx hZ hw hby hown hml N29 Z29 (by decide) B29 (lw2 8 (by decide)) rfl (hb hby at_398)
  have Z30 : n0 ≤ T30.heap.size := by rw [q30]; exact Z29
  have B30 : own_B Z T30.heap b2 Pn.1 := by rw [q30]; exact B29
  obtain ⟨T31, L31, X31, N31, q31, st31⟩ := own_callAt (j := 9) (off := Int32.ofNat oo) (n := ln) (q := vq) (fl := own_byte p4) (f := Pn.1) (Ls := #[.val (.long q1), .second, .val (.int p2), .val (.int p3), .val (.int p4), .val (.long vq), .second, .val (.int (Int32.ofNat oo)), .val (.int (own_byte p4)), .val (.ref b2), .val (.int (Int32.ofNat Pn.2)), .val (.int ln), .val (.int (1 : Int32))]) X30 hx hZ hw hby hown hml N30 Z30 (by decide) B30 (lw2 9 (by decide)) rfl (hb hby at_428)
  have Z31 : n0 ≤ T31.heap.size := by rw [q31]; exact Z30
  have B31 : own_B Z T31.heap b2 Pn.1 := by rw [q31]; exact B30
  obtain ⟨T32, L32, X32, N32, q32, st32⟩ := own_callAt (j := 10) (off := Int32.ofNat oo) (n := ln) (q := vq) (fl := own_byte p4) (f := Pn.1) (Ls := #[.val (.long q1), .second, .val (.int p2), .val (.int p3), .val (.int p4), .val (.long vq), .second, .val (.int (Int32.ofNat oo)), .val (.int (own_byte p4)), .val (.ref b2), .val (.int (Int32.ofNat Pn.2)), .val (.int ln), .val (.int (1 : Int32))]) X31 hx hZ hw hby hown hml N31 Z31 (by decide) B31 (lw2 10 (by decide)) rfl (hb hby at_458)
  have Z32 : n0 ≤ T32.heap.size := by rw [q32]; exact Z31
  have B32 : own_B Z T32.heap b2 Pn.1 := by rw [q32]; exact B31
  obtain ⟨T33, L33, X33, N33, q33, st33⟩ := own_callAt (j := 11) (off := Int32.ofNat oo) (n := ln) (q := vq) (fl := own_byte p4) (f := Pn.1) (Ls := #[.val (.long q1), .second, .val (.int p2), .val (.int p3), .val (.int p4), .val (.long vq), .second, .val (.int (Int32.ofNat oo)), .val (.int (own_byte p4)), .val (.ref b2), .val (.int (Int32.ofNat Pn.2)), .val (.int ln), .val (.int (1 : Int32))]) X32 hx hZ hw hby hown hml N32 Z32 (by decide) B32 (lw2 11 (by decide)) rfl (hb hby at_488)
  have Z33 : n0 ≤ T33.heap.size := by rw [q33]; exact Z32
  have B33 : own_B Z T33.heap b2 Pn.1 := by rw [q33]; exact B32
  obtain ⟨T34, L34, X34, N34, q34, st34⟩ := own_callAt (j := 12) (off := Int32.ofNat oo) (n := ln) (q := vq) (fl := own_byte p4) (f := Pn.1) (Ls := #[.val (.long q1), .second, .val (.int p2), .val (.int p3), .val (.int p4), .val (.long vq), .second, .val (.int (Int32.ofNat oo)), .val (.int (own_byte p4)), .val (.ref b2), .val (.int (Int32.ofNat Pn.2)), .val (.int ln), .val (.int (1 : Int32))]) X33 hx hZ hw hby hown hml N33 Z33 (by decide) B33 (lw2 12 (by decide)) rfl (hb hby at_518)
  have Z34 : n0 ≤ T34.heap.size := by rw [q34]; exact Z33
  have B34 : own_B Z T34.heap b2 Pn.1 := by rw [q34]; exact B33
  obtain ⟨fs, hr, hrun, hended, hW, hsame⟩ := X34.leave (v := some (.int (1 : Int32))) (fun h => by rw [Bd.returns] at h; cases h)
  refine ⟨_, _, pre0 _ ?_, hrun, hended, _, _, rfl, ?_, ⟨_, rfl⟩, hW, hsame.mono (by decide) (by decide)⟩
  · show Steps p.tables e below (s₁.setTop (mkF m 0 #[.val (.long q1), .second, .val (.int p2), .val (.int p3), .val (.int p4), .unset, .unset, .unset, .unset, .unset, .unset, .unset, .unset] [])) _
    refine own_start X0 hx hZ hw hby hown hq eo _ ?_
    show Steps p.tables e below (s₁.setTop (mkF m 21 #[.val (.long q1), .second, .val (.int p2), .val (.int p3), .val (.int p4), .val (.long vq), .second, .val (.int (Int32.ofNat oo)), .val (.int (own_byte p4)), .unset, .unset, .unset, .unset] [])) _
    refine XS.bipush X0.here hx rfl (hb hby at_21) ?_
    show Steps p.tables e below (s₁.setTop (mkF m 23 #[.val (.long q1), .second, .val (.int p2), .val (.int p3), .val (.int p4), .val (.long vq), .second, .val (.int (Int32.ofNat oo)), .val (.int (own_byte p4)), .unset, .unset, .unset, .unset] [(.int (13 : Int32))])) _
    refine st2 _ ?_
    show Steps p.tables e below (T2.setTop (mkF m 25 #[.val (.long q1), .second, .val (.int p2), .val (.int p3), .val (.int p4), .val (.long vq), .second, .val (.int (Int32.ofNat oo)), .val (.int (own_byte p4)), .unset, .unset, .unset, .unset] [(.ref b2)])) _
    refine XS.astore X2.here hx rfl (hb hby at_25) rfl rfl (l' := #[.val (.long q1), .second, .val (.int p2), .val (.int p3), .val (.int p4), .val (.long vq), .second, .val (.int (Int32.ofNat oo)), .val (.int (own_byte p4)), .val (.ref b2), .unset, .unset, .unset]) rfl ?_
    show Steps p.tables e below (T2.setTop (mkF m 27 #[.val (.long q1), .second, .val (.int p2), .val (.int p3), .val (.int p4), .val (.long vq), .second, .val (.int (Int32.ofNat oo)), .val (.int (own_byte p4)), .val (.ref b2), .unset, .unset, .unset] [])) _
    refine XS.aload X2.here hx rfl (hb hby at_27) rfl rfl ?_
    show Steps p.tables e below (T2.setTop (mkF m 29 #[.val (.long q1), .second, .val (.int p2), .val (.int p3), .val (.int p4), .val (.long vq), .second, .val (.int (Int32.ofNat oo)), .val (.int (own_byte p4)), .val (.ref b2), .unset, .unset, .unset] [(.ref b2)])) _
    refine XS.iconst X2.here hx rfl (hb hby at_29) ?_
    show Steps p.tables e below (T2.setTop (mkF m 30 #[.val (.long q1), .second, .val (.int p2), .val (.int p3), .val (.int p4), .val (.long vq), .second, .val (.int (Int32.ofNat oo)), .val (.int (own_byte p4)), .val (.ref b2), .unset, .unset, .unset] [(.int (0 : Int32)), (.ref b2)])) _
    refine XS.iload X2.here hx rfl (hb hby at_30) rfl ?_
    show Steps p.tables e below (T2.setTop (mkF m 32 #[.val (.long q1), .second, .val (.int p2), .val (.int p3), .val (.int p4), .val (.long vq), .second, .val (.int (Int32.ofNat oo)), .val (.int (own_byte p4)), .val (.ref b2), .unset, .unset, .unset] [(.int (own_byte p4)), (.int (0 : Int32)), (.ref b2)])) _
    refine st3 _ ?_
    show Steps p.tables e below (T3.setTop (mkF m 33 #[.val (.long q1), .second, .val (.int p2), .val (.int p3), .val (.int p4), .val (.long vq), .second, .val (.int (Int32.ofNat oo)), .val (.int (own_byte p4)), .val (.ref b2), .unset, .unset, .unset] [])) _
    refine XS.aload X3.here hx rfl (hb hby at_33) rfl rfl ?_
    show Steps p.tables e below (T3.setTop (mkF m 35 #[.val (.long q1), .second, .val (.int p2), .val (.int p3), .val (.int p4), .val (.long vq), .second, .val (.int (Int32.ofNat oo)), .val (.int (own_byte p4)), .val (.ref b2), .unset, .unset, .unset] [(.ref b2)])) _
    refine XS.iconst X3.here hx rfl (hb hby at_35) ?_
    show Steps p.tables e below (T3.setTop (mkF m 36 #[.val (.long q1), .second, .val (.int p2), .val (.int p3), .val (.int p4), .val (.long vq), .second, .val (.int (Int32.ofNat oo)), .val (.int (own_byte p4)), .val (.ref b2), .unset, .unset, .unset] [(.int (1 : Int32)), (.ref b2)])) _
    refine XS.iload X3.here hx rfl (hb hby at_36) rfl ?_
    show Steps p.tables e below (T3.setTop (mkF m 38 #[.val (.long q1), .second, .val (.int p2), .val (.int p3), .val (.int p4), .val (.long vq), .second, .val (.int (Int32.ofNat oo)), .val (.int (own_byte p4)), .val (.ref b2), .unset, .unset, .unset] [(.int (own_byte p4)), (.int (1 : Int32)), (.ref b2)])) _
    refine st4 _ ?_
    show Steps p.tables e below (T4.setTop (mkF m 39 #[.val (.long q1), .second, .val (.int p2), .val (.int p3), .val (.int p4), .val (.long vq), .second, .val (.int (Int32.ofNat oo)), .val (.int (own_byte p4)), .val (.ref b2), .unset, .unset, .unset] [])) _
    refine XS.aload X4.here hx rfl (hb hby at_39) rfl rfl ?_
    show Steps p.tables e below (T4.setTop (mkF m 41 #[.val (.long q1), .second, .val (.int p2), .val (.int p3), .val (.int p4), .val (.long vq), .second, .val (.int (Int32.ofNat oo)), .val (.int (own_byte p4)), .val (.ref b2), .unset, .unset, .unset] [(.ref b2)])) _
    refine XS.iconst X4.here hx rfl (hb hby at_41) ?_
    show Steps p.tables e below (T4.setTop (mkF m 42 #[.val (.long q1), .second, .val (.int p2), .val (.int p3), .val (.int p4), .val (.long vq), .second, .val (.int (Int32.ofNat oo)), .val (.int (own_byte p4)), .val (.ref b2), .unset, .unset, .unset] [(.int (2 : Int32)), (.ref b2)])) _
    refine XS.iload X4.here hx rfl (hb hby at_42) rfl ?_
    show Steps p.tables e below (T4.setTop (mkF m 44 #[.val (.long q1), .second, .val (.int p2), .val (.int p3), .val (.int p4), .val (.long vq), .second, .val (.int (Int32.ofNat oo)), .val (.int (own_byte p4)), .val (.ref b2), .unset, .unset, .unset] [(.int (own_byte p4)), (.int (2 : Int32)), (.ref b2)])) _
    refine st5 _ ?_
    show Steps p.tables e below (T5.setTop (mkF m 45 #[.val (.long q1), .second, .val (.int p2), .val (.int p3), .val (.int p4), .val (.long vq), .second, .val (.int (Int32.ofNat oo)), .val (.int (own_byte p4)), .val (.ref b2), .unset, .unset, .unset] [])) _
    refine XS.aload X5.here hx rfl (hb hby at_45) rfl rfl ?_
    show Steps p.tables e below (T5.setTop (mkF m 47 #[.val (.long q1), .second, .val (.int p2), .val (.int p3), .val (.int p4), .val (.long vq), .second, .val (.int (Int32.ofNat oo)), .val (.int (own_byte p4)), .val (.ref b2), .unset, .unset, .unset] [(.ref b2)])) _
    refine XS.iconst X5.here hx rfl (hb hby at_47) ?_
    show Steps p.tables e below (T5.setTop (mkF m 48 #[.val (.long q1), .second, .val (.int p2), .val (.int p3), .val (.int p4), .val (.long vq), .second, .val (.int (Int32.ofNat oo)), .val (.int (own_byte p4)), .val (.ref b2), .unset, .unset, .unset] [(.int (3 : Int32)), (.ref b2)])) _
    refine XS.iload X5.here hx rfl (hb hby at_48) rfl ?_
    show Steps p.tables e below (T5.setTop (mkF m 50 #[.val (.long q1), .second, .val (.int p2), .val (.int p3), .val (.int p4), .val (.long vq), .second, .val (.int (Int32.ofNat oo)), .val (.int (own_byte p4)), .val (.ref b2), .unset, .unset, .unset] [(.int (own_byte p4)), (.int (3 : Int32)), (.ref b2)])) _
    refine st6 _ ?_
    show Steps p.tables e below (T6.setTop (mkF m 51 #[.val (.long q1), .second, .val (.int p2), .val (.int p3), .val (.int p4), .val (.long vq), .second, .val (.int (Int32.ofNat oo)), .val (.int (own_byte p4)), .val (.ref b2), .unset, .unset, .unset] [])) _
    refine XS.aload X6.here hx rfl (hb hby at_51) rfl rfl ?_
    show Steps p.tables e below (T6.setTop (mkF m 53 #[.val (.long q1), .second, .val (.int p2), .val (.int p3), .val (.int p4), .val (.long vq), .second, .val (.int (Int32.ofNat oo)), .val (.int (own_byte p4)), .val (.ref b2), .unset, .unset, .unset] [(.ref b2)])) _
    refine XS.iconst X6.here hx rfl (hb hby at_53) ?_
    show Steps p.tables e below (T6.setTop (mkF m 54 #[.val (.long q1), .second, .val (.int p2), .val (.int p3), .val (.int p4), .val (.long vq), .second, .val (.int (Int32.ofNat oo)), .val (.int (own_byte p4)), .val (.ref b2), .unset, .unset, .unset] [(.int (4 : Int32)), (.ref b2)])) _
    refine XS.iload X6.here hx rfl (hb hby at_54) rfl ?_
    show Steps p.tables e below (T6.setTop (mkF m 56 #[.val (.long q1), .second, .val (.int p2), .val (.int p3), .val (.int p4), .val (.long vq), .second, .val (.int (Int32.ofNat oo)), .val (.int (own_byte p4)), .val (.ref b2), .unset, .unset, .unset] [(.int (own_byte p4)), (.int (4 : Int32)), (.ref b2)])) _
    refine st7 _ ?_
    show Steps p.tables e below (T7.setTop (mkF m 57 #[.val (.long q1), .second, .val (.int p2), .val (.int p3), .val (.int p4), .val (.long vq), .second, .val (.int (Int32.ofNat oo)), .val (.int (own_byte p4)), .val (.ref b2), .unset, .unset, .unset] [])) _
    refine XS.aload X7.here hx rfl (hb hby at_57) rfl rfl ?_
    show Steps p.tables e below (T7.setTop (mkF m 59 #[.val (.long q1), .second, .val (.int p2), .val (.int p3), .val (.int p4), .val (.long vq), .second, .val (.int (Int32.ofNat oo)), .val (.int (own_byte p4)), .val (.ref b2), .unset, .unset, .unset] [(.ref b2)])) _
    refine XS.iconst X7.here hx rfl (hb hby at_59) ?_
    show Steps p.tables e below (T7.setTop (mkF m 60 #[.val (.long q1), .second, .val (.int p2), .val (.int p3), .val (.int p4), .val (.long vq), .second, .val (.int (Int32.ofNat oo)), .val (.int (own_byte p4)), .val (.ref b2), .unset, .unset, .unset] [(.int (5 : Int32)), (.ref b2)])) _
    refine XS.iload X7.here hx rfl (hb hby at_60) rfl ?_
    show Steps p.tables e below (T7.setTop (mkF m 62 #[.val (.long q1), .second, .val (.int p2), .val (.int p3), .val (.int p4), .val (.long vq), .second, .val (.int (Int32.ofNat oo)), .val (.int (own_byte p4)), .val (.ref b2), .unset, .unset, .unset] [(.int (own_byte p4)), (.int (5 : Int32)), (.ref b2)])) _
    refine st8 _ ?_
    show Steps p.tables e below (T8.setTop (mkF m 63 #[.val (.long q1), .second, .val (.int p2), .val (.int p3), .val (.int p4), .val (.long vq), .second, .val (.int (Int32.ofNat oo)), .val (.int (own_byte p4)), .val (.ref b2), .unset, .unset, .unset] [])) _
    refine XS.aload X8.here hx rfl (hb hby at_63) rfl rfl ?_
    show Steps p.tables e below (T8.setTop (mkF m 65 #[.val (.long q1), .second, .val (.int p2), .val (.int p3), .val (.int p4), .val (.long vq), .second, .val (.int (Int32.ofNat oo)), .val (.int (own_byte p4)), .val (.ref b2), .unset, .unset, .unset] [(.ref b2)])) _
    refine XS.bipush X8.here hx rfl (hb hby at_65) ?_
    show Steps p.tables e below (T8.setTop (mkF m 67 #[.val (.long q1), .second, .val (.int p2), .val (.int p3), .val (.int p4), .val (.long vq), .second, .val (.int (Int32.ofNat oo)), .val (.int (own_byte p4)), .val (.ref b2), .unset, .unset, .unset] [(.int (6 : Int32)), (.ref b2)])) _
    refine XS.iload X8.here hx rfl (hb hby at_67) rfl ?_
    show Steps p.tables e below (T8.setTop (mkF m 69 #[.val (.long q1), .second, .val (.int p2), .val (.int p3), .val (.int p4), .val (.long vq), .second, .val (.int (Int32.ofNat oo)), .val (.int (own_byte p4)), .val (.ref b2), .unset, .unset, .unset] [(.int (own_byte p4)), (.int (6 : Int32)), (.ref b2)])) _
    refine st9 _ ?_
    show Steps p.tables e below (T9.setTop (mkF m 70 #[.val (.long q1), .second, .val (.int p2), .val (.int p3), .val (.int p4), .val (.long vq), .second, .val (.int (Int32.ofNat oo)), .val (.int (own_byte p4)), .val (.ref b2), .unset, .unset, .unset] [])) _
    refine XS.aload X9.here hx rfl (hb hby at_70) rfl rfl ?_
    show Steps p.tables e below (T9.setTop (mkF m 72 #[.val (.long q1), .second, .val (.int p2), .val (.int p3), .val (.int p4), .val (.long vq), .second, .val (.int (Int32.ofNat oo)), .val (.int (own_byte p4)), .val (.ref b2), .unset, .unset, .unset] [(.ref b2)])) _
    refine XS.bipush X9.here hx rfl (hb hby at_72) ?_
    show Steps p.tables e below (T9.setTop (mkF m 74 #[.val (.long q1), .second, .val (.int p2), .val (.int p3), .val (.int p4), .val (.long vq), .second, .val (.int (Int32.ofNat oo)), .val (.int (own_byte p4)), .val (.ref b2), .unset, .unset, .unset] [(.int (7 : Int32)), (.ref b2)])) _
    refine XS.iload X9.here hx rfl (hb hby at_74) rfl ?_
    show Steps p.tables e below (T9.setTop (mkF m 76 #[.val (.long q1), .second, .val (.int p2), .val (.int p3), .val (.int p4), .val (.long vq), .second, .val (.int (Int32.ofNat oo)), .val (.int (own_byte p4)), .val (.ref b2), .unset, .unset, .unset] [(.int (own_byte p4)), (.int (7 : Int32)), (.ref b2)])) _
    refine st10 _ ?_
    show Steps p.tables e below (T10.setTop (mkF m 77 #[.val (.long q1), .second, .val (.int p2), .val (.int p3), .val (.int p4), .val (.long vq), .second, .val (.int (Int32.ofNat oo)), .val (.int (own_byte p4)), .val (.ref b2), .unset, .unset, .unset] [])) _
    refine XS.aload X10.here hx rfl (hb hby at_77) rfl rfl ?_
    show Steps p.tables e below (T10.setTop (mkF m 79 #[.val (.long q1), .second, .val (.int p2), .val (.int p3), .val (.int p4), .val (.long vq), .second, .val (.int (Int32.ofNat oo)), .val (.int (own_byte p4)), .val (.ref b2), .unset, .unset, .unset] [(.ref b2)])) _
    refine XS.bipush X10.here hx rfl (hb hby at_79) ?_
    show Steps p.tables e below (T10.setTop (mkF m 81 #[.val (.long q1), .second, .val (.int p2), .val (.int p3), .val (.int p4), .val (.long vq), .second, .val (.int (Int32.ofNat oo)), .val (.int (own_byte p4)), .val (.ref b2), .unset, .unset, .unset] [(.int (8 : Int32)), (.ref b2)])) _
    refine XS.iload X10.here hx rfl (hb hby at_81) rfl ?_
    show Steps p.tables e below (T10.setTop (mkF m 83 #[.val (.long q1), .second, .val (.int p2), .val (.int p3), .val (.int p4), .val (.long vq), .second, .val (.int (Int32.ofNat oo)), .val (.int (own_byte p4)), .val (.ref b2), .unset, .unset, .unset] [(.int (own_byte p4)), (.int (8 : Int32)), (.ref b2)])) _
    refine st11 _ ?_
    show Steps p.tables e below (T11.setTop (mkF m 84 #[.val (.long q1), .second, .val (.int p2), .val (.int p3), .val (.int p4), .val (.long vq), .second, .val (.int (Int32.ofNat oo)), .val (.int (own_byte p4)), .val (.ref b2), .unset, .unset, .unset] [])) _
    refine XS.aload X11.here hx rfl (hb hby at_84) rfl rfl ?_
    show Steps p.tables e below (T11.setTop (mkF m 86 #[.val (.long q1), .second, .val (.int p2), .val (.int p3), .val (.int p4), .val (.long vq), .second, .val (.int (Int32.ofNat oo)), .val (.int (own_byte p4)), .val (.ref b2), .unset, .unset, .unset] [(.ref b2)])) _
    refine XS.bipush X11.here hx rfl (hb hby at_86) ?_
    show Steps p.tables e below (T11.setTop (mkF m 88 #[.val (.long q1), .second, .val (.int p2), .val (.int p3), .val (.int p4), .val (.long vq), .second, .val (.int (Int32.ofNat oo)), .val (.int (own_byte p4)), .val (.ref b2), .unset, .unset, .unset] [(.int (9 : Int32)), (.ref b2)])) _
    refine XS.iload X11.here hx rfl (hb hby at_88) rfl ?_
    show Steps p.tables e below (T11.setTop (mkF m 90 #[.val (.long q1), .second, .val (.int p2), .val (.int p3), .val (.int p4), .val (.long vq), .second, .val (.int (Int32.ofNat oo)), .val (.int (own_byte p4)), .val (.ref b2), .unset, .unset, .unset] [(.int (own_byte p4)), (.int (9 : Int32)), (.ref b2)])) _
    refine st12 _ ?_
    show Steps p.tables e below (T12.setTop (mkF m 91 #[.val (.long q1), .second, .val (.int p2), .val (.int p3), .val (.int p4), .val (.long vq), .second, .val (.int (Int32.ofNat oo)), .val (.int (own_byte p4)), .val (.ref b2), .unset, .unset, .unset] [])) _
    refine XS.aload X12.here hx rfl (hb hby at_91) rfl rfl ?_
    show Steps p.tables e below (T12.setTop (mkF m 93 #[.val (.long q1), .second, .val (.int p2), .val (.int p3), .val (.int p4), .val (.long vq), .second, .val (.int (Int32.ofNat oo)), .val (.int (own_byte p4)), .val (.ref b2), .unset, .unset, .unset] [(.ref b2)])) _
    refine XS.bipush X12.here hx rfl (hb hby at_93) ?_
    show Steps p.tables e below (T12.setTop (mkF m 95 #[.val (.long q1), .second, .val (.int p2), .val (.int p3), .val (.int p4), .val (.long vq), .second, .val (.int (Int32.ofNat oo)), .val (.int (own_byte p4)), .val (.ref b2), .unset, .unset, .unset] [(.int (10 : Int32)), (.ref b2)])) _
    refine XS.iload X12.here hx rfl (hb hby at_95) rfl ?_
    show Steps p.tables e below (T12.setTop (mkF m 97 #[.val (.long q1), .second, .val (.int p2), .val (.int p3), .val (.int p4), .val (.long vq), .second, .val (.int (Int32.ofNat oo)), .val (.int (own_byte p4)), .val (.ref b2), .unset, .unset, .unset] [(.int (own_byte p4)), (.int (10 : Int32)), (.ref b2)])) _
    refine st13 _ ?_
    show Steps p.tables e below (T13.setTop (mkF m 98 #[.val (.long q1), .second, .val (.int p2), .val (.int p3), .val (.int p4), .val (.long vq), .second, .val (.int (Int32.ofNat oo)), .val (.int (own_byte p4)), .val (.ref b2), .unset, .unset, .unset] [])) _
    refine XS.aload X13.here hx rfl (hb hby at_98) rfl rfl ?_
    show Steps p.tables e below (T13.setTop (mkF m 100 #[.val (.long q1), .second, .val (.int p2), .val (.int p3), .val (.int p4), .val (.long vq), .second, .val (.int (Int32.ofNat oo)), .val (.int (own_byte p4)), .val (.ref b2), .unset, .unset, .unset] [(.ref b2)])) _
    refine XS.bipush X13.here hx rfl (hb hby at_100) ?_
    show Steps p.tables e below (T13.setTop (mkF m 102 #[.val (.long q1), .second, .val (.int p2), .val (.int p3), .val (.int p4), .val (.long vq), .second, .val (.int (Int32.ofNat oo)), .val (.int (own_byte p4)), .val (.ref b2), .unset, .unset, .unset] [(.int (11 : Int32)), (.ref b2)])) _
    refine XS.iload X13.here hx rfl (hb hby at_102) rfl ?_
    show Steps p.tables e below (T13.setTop (mkF m 104 #[.val (.long q1), .second, .val (.int p2), .val (.int p3), .val (.int p4), .val (.long vq), .second, .val (.int (Int32.ofNat oo)), .val (.int (own_byte p4)), .val (.ref b2), .unset, .unset, .unset] [(.int (own_byte p4)), (.int (11 : Int32)), (.ref b2)])) _
    refine st14 _ ?_
    show Steps p.tables e below (T14.setTop (mkF m 105 #[.val (.long q1), .second, .val (.int p2), .val (.int p3), .val (.int p4), .val (.long vq), .second, .val (.int (Int32.ofNat oo)), .val (.int (own_byte p4)), .val (.ref b2), .unset, .unset, .unset] [])) _
    refine XS.aload X14.here hx rfl (hb hby at_105) rfl rfl ?_
    show Steps p.tables e below (T14.setTop (mkF m 107 #[.val (.long q1), .second, .val (.int p2), .val (.int p3), .val (.int p4), .val (.long vq), .second, .val (.int (Int32.ofNat oo)), .val (.int (own_byte p4)), .val (.ref b2), .unset, .unset, .unset] [(.ref b2)])) _
    refine XS.bipush X14.here hx rfl (hb hby at_107) ?_
    show Steps p.tables e below (T14.setTop (mkF m 109 #[.val (.long q1), .second, .val (.int p2), .val (.int p3), .val (.int p4), .val (.long vq), .second, .val (.int (Int32.ofNat oo)), .val (.int (own_byte p4)), .val (.ref b2), .unset, .unset, .unset] [(.int (12 : Int32)), (.ref b2)])) _
    refine XS.iload X14.here hx rfl (hb hby at_109) rfl ?_
    show Steps p.tables e below (T14.setTop (mkF m 111 #[.val (.long q1), .second, .val (.int p2), .val (.int p3), .val (.int p4), .val (.long vq), .second, .val (.int (Int32.ofNat oo)), .val (.int (own_byte p4)), .val (.ref b2), .unset, .unset, .unset] [(.int (own_byte p4)), (.int (12 : Int32)), (.ref b2)])) _
    refine st15 _ ?_
    show Steps p.tables e below (T15.setTop (mkF m 112 #[.val (.long q1), .second, .val (.int p2), .val (.int p3), .val (.int p4), .val (.long vq), .second, .val (.int (Int32.ofNat oo)), .val (.int (own_byte p4)), .val (.ref b2), .unset, .unset, .unset] [])) _
    refine XS.aload X15.here hx rfl (hb hby at_112) rfl rfl ?_
    show Steps p.tables e below (T15.setTop (mkF m 114 #[.val (.long q1), .second, .val (.int p2), .val (.int p3), .val (.int p4), .val (.long vq), .second, .val (.int (Int32.ofNat oo)), .val (.int (own_byte p4)), .val (.ref b2), .unset, .unset, .unset] [(.ref b2)])) _
    refine XS.iload X15.here hx rfl (hb hby at_114) rfl ?_
    show Steps p.tables e below (T15.setTop (mkF m 116 #[.val (.long q1), .second, .val (.int p2), .val (.int p3), .val (.int p4), .val (.long vq), .second, .val (.int (Int32.ofNat oo)), .val (.int (own_byte p4)), .val (.ref b2), .unset, .unset, .unset] [(.int (Int32.ofNat oo)), (.ref b2)])) _
    refine XS.lload X15.here hx rfl (hb hby at_116) rfl ?_
    show Steps p.tables e below (T15.setTop (mkF m 118 #[.val (.long q1), .second, .val (.int p2), .val (.int p3), .val (.int p4), .val (.long vq), .second, .val (.int (Int32.ofNat oo)), .val (.int (own_byte p4)), .val (.ref b2), .unset, .unset, .unset] [(.long vq), (.int (Int32.ofNat oo)), (.ref b2)])) _
    refine st20 _ ?_
    show Steps p.tables e below (T20.setTop (mkF m 121 #[.val (.long q1), .second, .val (.int p2), .val (.int p3), .val (.int p4), .val (.long vq), .second, .val (.int (Int32.ofNat oo)), .val (.int (own_byte p4)), .val (.ref b2), .unset, .unset, .unset] [(.int (Int32.ofNat Pn.2))])) _
    refine XS.istore X20.here hx rfl (hb hby at_121) rfl (l' := #[.val (.long q1), .second, .val (.int p2), .val (.int p3), .val (.int p4), .val (.long vq), .second, .val (.int (Int32.ofNat oo)), .val (.int (own_byte p4)), .val (.ref b2), .val (.int (Int32.ofNat Pn.2)), .unset, .unset]) rfl ?_
    show Steps p.tables e below (T20.setTop (mkF m 123 #[.val (.long q1), .second, .val (.int p2), .val (.int p3), .val (.int p4), .val (.long vq), .second, .val (.int (Int32.ofNat oo)), .val (.int (own_byte p4)), .val (.ref b2), .val (.int (Int32.ofNat Pn.2)), .unset, .unset] [])) _
    refine XS.lload X20.here hx rfl (hb hby at_123) rfl ?_
    show Steps p.tables e below (T20.setTop (mkF m 125 #[.val (.long q1), .second, .val (.int p2), .val (.int p3), .val (.int p4), .val (.long vq), .second, .val (.int (Int32.ofNat oo)), .val (.int (own_byte p4)), .val (.ref b2), .val (.int (Int32.ofNat Pn.2)), .unset, .unset] [(.long vq)])) _
    refine st21 _ ?_
    show Steps p.tables e below (T21.setTop (mkF m 128 #[.val (.long q1), .second, .val (.int p2), .val (.int p3), .val (.int p4), .val (.long vq), .second, .val (.int (Int32.ofNat oo)), .val (.int (own_byte p4)), .val (.ref b2), .val (.int (Int32.ofNat Pn.2)), .unset, .unset] [(.int ln)])) _
    refine XS.istore X21.here hx rfl (hb hby at_128) rfl (l' := #[.val (.long q1), .second, .val (.int p2), .val (.int p3), .val (.int p4), .val (.long vq), .second, .val (.int (Int32.ofNat oo)), .val (.int (own_byte p4)), .val (.ref b2), .val (.int (Int32.ofNat Pn.2)), .val (.int ln), .unset]) rfl ?_
    show Steps p.tables e below (T21.setTop (mkF m 130 #[.val (.long q1), .second, .val (.int p2), .val (.int p3), .val (.int p4), .val (.long vq), .second, .val (.int (Int32.ofNat oo)), .val (.int (own_byte p4)), .val (.ref b2), .val (.int (Int32.ofNat Pn.2)), .val (.int ln), .unset] [])) _
    refine XS.iload X21.here hx rfl (hb hby at_130) rfl ?_
    show Steps p.tables e below (T21.setTop (mkF m 132 #[.val (.long q1), .second, .val (.int p2), .val (.int p3), .val (.int p4), .val (.long vq), .second, .val (.int (Int32.ofNat oo)), .val (.int (own_byte p4)), .val (.ref b2), .val (.int (Int32.ofNat Pn.2)), .val (.int ln), .unset] [(.int (Int32.ofNat Pn.2))])) _
    refine XS.iload X21.here hx rfl (hb hby at_132) rfl ?_
    show Steps p.tables e below (T21.setTop (mkF m 134 #[.val (.long q1), .second, .val (.int p2), .val (.int p3), .val (.int p4), .val (.long vq), .second, .val (.int (Int32.ofNat oo)), .val (.int (own_byte p4)), .val (.ref b2), .val (.int (Int32.ofNat Pn.2)), .val (.int ln), .unset] [(.int (Int32.ofNat oo)), (.int (Int32.ofNat Pn.2))])) _
    refine XS.iload X21.here hx rfl (hb hby at_134) rfl ?_
    show Steps p.tables e below (T21.setTop (mkF m 136 #[.val (.long q1), .second, .val (.int p2), .val (.int p3), .val (.int p4), .val (.long vq), .second, .val (.int (Int32.ofNat oo)), .val (.int (own_byte p4)), .val (.ref b2), .val (.int (Int32.ofNat Pn.2)), .val (.int ln), .unset] [(.int ln), (.int (Int32.ofNat oo)), (.int (Int32.ofNat Pn.2))])) _
    refine XS.iadd X21.here hx rfl (hb hby at_136) rfl ?_
    show Steps p.tables e below (T21.setTop (mkF m 137 #[.val (.long q1), .second, .val (.int p2), .val (.int p3), .val (.int p4), .val (.long vq), .second, .val (.int (Int32.ofNat oo)), .val (.int (own_byte p4)), .val (.ref b2), .val (.int (Int32.ofNat Pn.2)), .val (.int ln), .unset] [(.int ((Int32.ofNat oo) + ln)), (.int (Int32.ofNat Pn.2))])) _
    refine XS.icmpNo X21.here hx rfl (hb hby at_137) rfl (teq lw1).2 ?_
    show Steps p.tables e below (T21.setTop (mkF m 140 #[.val (.long q1), .second, .val (.int p2), .val (.int p3), .val (.int p4), .val (.long vq), .second, .val (.int (Int32.ofNat oo)), .val (.int (own_byte p4)), .val (.ref b2), .val (.int (Int32.ofNat Pn.2)), .val (.int ln), .unset] [])) _
    refine XS.iconst X21.here hx rfl (hb hby at_140) ?_
    show Steps p.tables e below (T21.setTop (mkF m 141 #[.val (.long q1), .second, .val (.int p2), .val (.int p3), .val (.int p4), .val (.long vq), .second, .val (.int (Int32.ofNat oo)), .val (.int (own_byte p4)), .val (.ref b2), .val (.int (Int32.ofNat Pn.2)), .val (.int ln), .unset] [(.int (1 : Int32))])) _
    refine XS.goto X21.here hx rfl (pc0 := 141) (pc' := 145) rfl (hb hby at_141) (by decide) (by decide) ?_
    show Steps p.tables e below (T21.setTop (mkF m 145 #[.val (.long q1), .second, .val (.int p2), .val (.int p3), .val (.int p4), .val (.long vq), .second, .val (.int (Int32.ofNat oo)), .val (.int (own_byte p4)), .val (.ref b2), .val (.int (Int32.ofNat Pn.2)), .val (.int ln), .unset] [(.int (1 : Int32))])) _
    refine XS.istore X21.here hx rfl (hb hby at_145) rfl (l' := #[.val (.long q1), .second, .val (.int p2), .val (.int p3), .val (.int p4), .val (.long vq), .second, .val (.int (Int32.ofNat oo)), .val (.int (own_byte p4)), .val (.ref b2), .val (.int (Int32.ofNat Pn.2)), .val (.int ln), .val (.int (1 : Int32))]) rfl ?_
    show Steps p.tables e below (T21.setTop (mkF m 147 #[.val (.long q1), .second, .val (.int p2), .val (.int p3), .val (.int p4), .val (.long vq), .second, .val (.int (Int32.ofNat oo)), .val (.int (own_byte p4)), .val (.ref b2), .val (.int (Int32.ofNat Pn.2)), .val (.int ln), .val (.int (1 : Int32))] [])) _
    refine XS.iload X21.here hx rfl (hb hby at_147) rfl ?_
    show Steps p.tables e below (T21.setTop (mkF m 149 #[.val (.long q1), .second, .val (.int p2), .val (.int p3), .val (.int p4), .val (.long vq), .second, .val (.int (Int32.ofNat oo)), .val (.int (own_byte p4)), .val (.ref b2), .val (.int (Int32.ofNat Pn.2)), .val (.int ln), .val (.int (1 : Int32))] [(.int (1 : Int32))])) _
    refine XS.ifNo X21.here hx rfl (hb hby at_149) rfl ((if0 _ _).trans (feq (by decide)).1) ?_
    show Steps p.tables e below (T21.setTop (mkF m 152 #[.val (.long q1), .second, .val (.int p2), .val (.int p3), .val (.int p4), .val (.long vq), .second, .val (.int (Int32.ofNat oo)), .val (.int (own_byte p4)), .val (.ref b2), .val (.int (Int32.ofNat Pn.2)), .val (.int ln), .val (.int (1 : Int32))] [])) _
    refine XS.aload X21.here hx rfl (hb hby at_152) rfl rfl ?_
    show Steps p.tables e below (T21.setTop (mkF m 154 #[.val (.long q1), .second, .val (.int p2), .val (.int p3), .val (.int p4), .val (.long vq), .second, .val (.int (Int32.ofNat oo)), .val (.int (own_byte p4)), .val (.ref b2), .val (.int (Int32.ofNat Pn.2)), .val (.int ln), .val (.int (1 : Int32))] [(.ref b2)])) _
    refine XS.iconst X21.here hx rfl (hb hby at_154) ?_
    show Steps p.tables e below (T21.setTop (mkF m 155 #[.val (.long q1), .second, .val (.int p2), .val (.int p3), .val (.int p4), .val (.long vq), .second, .val (.int (Int32.ofNat oo)), .val (.int (own_byte p4)), .val (.ref b2), .val (.int (Int32.ofNat Pn.2)), .val (.int ln), .val (.int (1 : Int32))] [(.int (0 : Int32)), (.ref b2)])) _
    refine XS.iload X21.here hx rfl (hb hby at_155) rfl ?_
    show Steps p.tables e below (T21.setTop (mkF m 157 #[.val (.long q1), .second, .val (.int p2), .val (.int p3), .val (.int p4), .val (.long vq), .second, .val (.int (Int32.ofNat oo)), .val (.int (own_byte p4)), .val (.ref b2), .val (.int (Int32.ofNat Pn.2)), .val (.int ln), .val (.int (1 : Int32))] [(.int (Int32.ofNat oo)), (.int (0 : Int32)), (.ref b2)])) _
    refine XS.iload X21.here hx rfl (hb hby at_157) rfl ?_
    show Steps p.tables e below (T21.setTop (mkF m 159 #[.val (.long q1), .second, .val (.int p2), .val (.int p3), .val (.int p4), .val (.long vq), .second, .val (.int (Int32.ofNat oo)), .val (.int (own_byte p4)), .val (.ref b2), .val (.int (Int32.ofNat Pn.2)), .val (.int ln), .val (.int (1 : Int32))] [(.int ln), (.int (Int32.ofNat oo)), (.int (0 : Int32)), (.ref b2)])) _
    refine XS.lload X21.here hx rfl (hb hby at_159) rfl ?_
    show Steps p.tables e below (T21.setTop (mkF m 161 #[.val (.long q1), .second, .val (.int p2), .val (.int p3), .val (.int p4), .val (.long vq), .second, .val (.int (Int32.ofNat oo)), .val (.int (own_byte p4)), .val (.ref b2), .val (.int (Int32.ofNat Pn.2)), .val (.int ln), .val (.int (1 : Int32))] [(.long vq), (.int ln), (.int (Int32.ofNat oo)), (.int (0 : Int32)), (.ref b2)])) _
    refine XS.iload X21.here hx rfl (hb hby at_161) rfl ?_
    show Steps p.tables e below (T21.setTop (mkF m 163 #[.val (.long q1), .second, .val (.int p2), .val (.int p3), .val (.int p4), .val (.long vq), .second, .val (.int (Int32.ofNat oo)), .val (.int (own_byte p4)), .val (.ref b2), .val (.int (Int32.ofNat Pn.2)), .val (.int ln), .val (.int (1 : Int32))] [(.int (own_byte p4)), (.long vq), (.int ln), (.int (Int32.ofNat oo)), (.int (0 : Int32)), (.ref b2)])) _
    refine st22 _ ?_
    show Steps p.tables e below (T22.setTop (mkF m 166 #[.val (.long q1), .second, .val (.int p2), .val (.int p3), .val (.int p4), .val (.long vq), .second, .val (.int (Int32.ofNat oo)), .val (.int (own_byte p4)), .val (.ref b2), .val (.int (Int32.ofNat Pn.2)), .val (.int ln), .val (.int (1 : Int32))] [(.int (1 : Int32))])) _
    refine XS.ifNo X22.here hx rfl (hb hby at_166) rfl ((if0 _ _).trans (feq (by decide)).1) ?_
    show Steps p.tables e below (T22.setTop (mkF m 169 #[.val (.long q1), .second, .val (.int p2), .val (.int p3), .val (.int p4), .val (.long vq), .second, .val (.int (Int32.ofNat oo)), .val (.int (own_byte p4)), .val (.ref b2), .val (.int (Int32.ofNat Pn.2)), .val (.int ln), .val (.int (1 : Int32))] [])) _
    refine XS.iconst X22.here hx rfl (hb hby at_169) ?_
    show Steps p.tables e below (T22.setTop (mkF m 170 #[.val (.long q1), .second, .val (.int p2), .val (.int p3), .val (.int p4), .val (.long vq), .second, .val (.int (Int32.ofNat oo)), .val (.int (own_byte p4)), .val (.ref b2), .val (.int (Int32.ofNat Pn.2)), .val (.int ln), .val (.int (1 : Int32))] [(.int (1 : Int32))])) _
    refine XS.goto X22.here hx rfl (pc0 := 170) (pc' := 174) rfl (hb hby at_170) (by decide) (by decide) ?_
    show Steps p.tables e below (T22.setTop (mkF m 174 #[.val (.long q1), .second, .val (.int p2), .val (.int p3), .val (.int p4), .val (.long vq), .second, .val (.int (Int32.ofNat oo)), .val (.int (own_byte p4)), .val (.ref b2), .val (.int (Int32.ofNat Pn.2)), .val (.int ln), .val (.int (1 : Int32))] [(.int (1 : Int32))])) _
    refine XS.istore X22.here hx rfl (hb hby at_174) rfl (l' := #[.val (.long q1), .second, .val (.int p2), .val (.int p3), .val (.int p4), .val (.long vq), .second, .val (.int (Int32.ofNat oo)), .val (.int (own_byte p4)), .val (.ref b2), .val (.int (Int32.ofNat Pn.2)), .val (.int ln), .val (.int (1 : Int32))]) rfl ?_
    show Steps p.tables e below (T22.setTop (mkF m 176 #[.val (.long q1), .second, .val (.int p2), .val (.int p3), .val (.int p4), .val (.long vq), .second, .val (.int (Int32.ofNat oo)), .val (.int (own_byte p4)), .val (.ref b2), .val (.int (Int32.ofNat Pn.2)), .val (.int ln), .val (.int (1 : Int32))] [])) _
    refine XS.iload X22.here hx rfl (hb hby at_176) rfl ?_
    show Steps p.tables e below (T22.setTop (mkF m 178 #[.val (.long q1), .second, .val (.int p2), .val (.int p3), .val (.int p4), .val (.long vq), .second, .val (.int (Int32.ofNat oo)), .val (.int (own_byte p4)), .val (.ref b2), .val (.int (Int32.ofNat Pn.2)), .val (.int ln), .val (.int (1 : Int32))] [(.int (1 : Int32))])) _
    refine XS.ifNo X22.here hx rfl (hb hby at_178) rfl ((if0 _ _).trans (feq (by decide)).1) ?_
    show Steps p.tables e below (T22.setTop (mkF m 181 #[.val (.long q1), .second, .val (.int p2), .val (.int p3), .val (.int p4), .val (.long vq), .second, .val (.int (Int32.ofNat oo)), .val (.int (own_byte p4)), .val (.ref b2), .val (.int (Int32.ofNat Pn.2)), .val (.int ln), .val (.int (1 : Int32))] [])) _
    refine XS.aload X22.here hx rfl (hb hby at_181) rfl rfl ?_
    show Steps p.tables e below (T22.setTop (mkF m 183 #[.val (.long q1), .second, .val (.int p2), .val (.int p3), .val (.int p4), .val (.long vq), .second, .val (.int (Int32.ofNat oo)), .val (.int (own_byte p4)), .val (.ref b2), .val (.int (Int32.ofNat Pn.2)), .val (.int ln), .val (.int (1 : Int32))] [(.ref b2)])) _
    refine XS.iconst X22.here hx rfl (hb hby at_183) ?_
    show Steps p.tables e below (T22.setTop (mkF m 184 #[.val (.long q1), .second, .val (.int p2), .val (.int p3), .val (.int p4), .val (.long vq), .second, .val (.int (Int32.ofNat oo)), .val (.int (own_byte p4)), .val (.ref b2), .val (.int (Int32.ofNat Pn.2)), .val (.int ln), .val (.int (1 : Int32))] [(.int (1 : Int32)), (.ref b2)])) _
    refine XS.iload X22.here hx rfl (hb hby at_184) rfl ?_
    show Steps p.tables e below (T22.setTop (mkF m 186 #[.val (.long q1), .second, .val (.int p2), .val (.int p3), .val (.int p4), .val (.long vq), .second, .val (.int (Int32.ofNat oo)), .val (.int (own_byte p4)), .val (.ref b2), .val (.int (Int32.ofNat Pn.2)), .val (.int ln), .val (.int (1 : Int32))] [(.int (Int32.ofNat oo)), (.int (1 : Int32)), (.ref b2)])) _
    refine XS.iload X22.here hx rfl (hb hby at_186) rfl ?_
    show Steps p.tables e below (T22.setTop (mkF m 188 #[.val (.long q1), .second, .val (.int p2), .val (.int p3), .val (.int p4), .val (.long vq), .second, .val (.int (Int32.ofNat oo)), .val (.int (own_byte p4)), .val (.ref b2), .val (.int (Int32.ofNat Pn.2)), .val (.int ln), .val (.int (1 : Int32))] [(.int ln), (.int (Int32.ofNat oo)), (.int (1 : Int32)), (.ref b2)])) _
    refine XS.lload X22.here hx rfl (hb hby at_188) rfl ?_
    show Steps p.tables e below (T22.setTop (mkF m 190 #[.val (.long q1), .second, .val (.int p2), .val (.int p3), .val (.int p4), .val (.long vq), .second, .val (.int (Int32.ofNat oo)), .val (.int (own_byte p4)), .val (.ref b2), .val (.int (Int32.ofNat Pn.2)), .val (.int ln), .val (.int (1 : Int32))] [(.long vq), (.int ln), (.int (Int32.ofNat oo)), (.int (1 : Int32)), (.ref b2)])) _
    refine XS.iload X22.here hx rfl (hb hby at_190) rfl ?_
    show Steps p.tables e below (T22.setTop (mkF m 192 #[.val (.long q1), .second, .val (.int p2), .val (.int p3), .val (.int p4), .val (.long vq), .second, .val (.int (Int32.ofNat oo)), .val (.int (own_byte p4)), .val (.ref b2), .val (.int (Int32.ofNat Pn.2)), .val (.int ln), .val (.int (1 : Int32))] [(.int (own_byte p4)), (.long vq), (.int ln), (.int (Int32.ofNat oo)), (.int (1 : Int32)), (.ref b2)])) _
    refine st23 _ ?_
    show Steps p.tables e below (T23.setTop (mkF m 195 #[.val (.long q1), .second, .val (.int p2), .val (.int p3), .val (.int p4), .val (.long vq), .second, .val (.int (Int32.ofNat oo)), .val (.int (own_byte p4)), .val (.ref b2), .val (.int (Int32.ofNat Pn.2)), .val (.int ln), .val (.int (1 : Int32))] [(.int (1 : Int32))])) _
    refine XS.ifNo X23.here hx rfl (hb hby at_195) rfl ((if0 _ _).trans (feq (by decide)).1) ?_
    show Steps p.tables e below (T23.setTop (mkF m 198 #[.val (.long q1), .second, .val (.int p2), .val (.int p3), .val (.int p4), .val (.long vq), .second, .val (.int (Int32.ofNat oo)), .val (.int (own_byte p4)), .val (.ref b2), .val (.int (Int32.ofNat Pn.2)), .val (.int ln), .val (.int (1 : Int32))] [])) _
    refine XS.iconst X23.here hx rfl (hb hby at_198) ?_
    show Steps p.tables e below (T23.setTop (mkF m 199 #[.val (.long q1), .second, .val (.int p2), .val (.int p3), .val (.int p4), .val (.long vq), .second, .val (.int (Int32.ofNat oo)), .val (.int (own_byte p4)), .val (.ref b2), .val (.int (Int32.ofNat Pn.2)), .val (.int ln), .val (.int (1 : Int32))] [(.int (1 : Int32))])) _
    refine XS.goto X23.here hx rfl (pc0 := 199) (pc' := 203) rfl (hb hby at_199) (by decide) (by decide) ?_
    show Steps p.tables e below (T23.setTop (mkF m 203 #[.val (.long q1), .second, .val (.int p2), .val (.int p3), .val (.int p4), .val (.long vq), .second, .val (.int (Int32.ofNat oo)), .val (.int (own_byte p4)), .val (.ref b2), .val (.int (Int32.ofNat Pn.2)), .val (.int ln), .val (.int (1 : Int32))] [(.int (1 : Int32))])) _
    refine XS.istore X23.here hx rfl (hb hby at_203) rfl (l' := #[.val (.long q1), .second, .val (.int p2), .val (.int p3), .val (.int p4), .val (.long vq), .second, .val (.int (Int32.ofNat oo)), .val (.int (own_byte p4)), .val (.ref b2), .val (.int (Int32.ofNat Pn.2)), .val (.int ln), .val (.int (1 : Int32))]) rfl ?_
    show Steps p.tables e below (T23.setTop (mkF m 205 #[.val (.long q1), .second, .val (.int p2), .val (.int p3), .val (.int p4), .val (.long vq), .second, .val (.int (Int32.ofNat oo)), .val (.int (own_byte p4)), .val (.ref b2), .val (.int (Int32.ofNat Pn.2)), .val (.int ln), .val (.int (1 : Int32))] [])) _
    refine XS.iload X23.here hx rfl (hb hby at_205) rfl ?_
    show Steps p.tables e below (T23.setTop (mkF m 207 #[.val (.long q1), .second, .val (.int p2), .val (.int p3), .val (.int p4), .val (.long vq), .second, .val (.int (Int32.ofNat oo)), .val (.int (own_byte p4)), .val (.ref b2), .val (.int (Int32.ofNat Pn.2)), .val (.int ln), .val (.int (1 : Int32))] [(.int (1 : Int32))])) _
    refine XS.ifNo X23.here hx rfl (hb hby at_207) rfl ((if0 _ _).trans (feq (by decide)).1) ?_
    show Steps p.tables e below (T23.setTop (mkF m 210 #[.val (.long q1), .second, .val (.int p2), .val (.int p3), .val (.int p4), .val (.long vq), .second, .val (.int (Int32.ofNat oo)), .val (.int (own_byte p4)), .val (.ref b2), .val (.int (Int32.ofNat Pn.2)), .val (.int ln), .val (.int (1 : Int32))] [])) _
    refine XS.aload X23.here hx rfl (hb hby at_210) rfl rfl ?_
    show Steps p.tables e below (T23.setTop (mkF m 212 #[.val (.long q1), .second, .val (.int p2), .val (.int p3), .val (.int p4), .val (.long vq), .second, .val (.int (Int32.ofNat oo)), .val (.int (own_byte p4)), .val (.ref b2), .val (.int (Int32.ofNat Pn.2)), .val (.int ln), .val (.int (1 : Int32))] [(.ref b2)])) _
    refine XS.iconst X23.here hx rfl (hb hby at_212) ?_
    show Steps p.tables e below (T23.setTop (mkF m 213 #[.val (.long q1), .second, .val (.int p2), .val (.int p3), .val (.int p4), .val (.long vq), .second, .val (.int (Int32.ofNat oo)), .val (.int (own_byte p4)), .val (.ref b2), .val (.int (Int32.ofNat Pn.2)), .val (.int ln), .val (.int (1 : Int32))] [(.int (2 : Int32)), (.ref b2)])) _
    refine XS.iload X23.here hx rfl (hb hby at_213) rfl ?_
    show Steps p.tables e below (T23.setTop (mkF m 215 #[.val (.long q1), .second, .val (.int p2), .val (.int p3), .val (.int p4), .val (.long vq), .second, .val (.int (Int32.ofNat oo)), .val (.int (own_byte p4)), .val (.ref b2), .val (.int (Int32.ofNat Pn.2)), .val (.int ln), .val (.int (1 : Int32))] [(.int (Int32.ofNat oo)), (.int (2 : Int32)), (.ref b2)])) _
    refine XS.iload X23.here hx rfl (hb hby at_215) rfl ?_
    show Steps p.tables e below (T23.setTop (mkF m 217 #[.val (.long q1), .second, .val (.int p2), .val (.int p3), .val (.int p4), .val (.long vq), .second, .val (.int (Int32.ofNat oo)), .val (.int (own_byte p4)), .val (.ref b2), .val (.int (Int32.ofNat Pn.2)), .val (.int ln), .val (.int (1 : Int32))] [(.int ln), (.int (Int32.ofNat oo)), (.int (2 : Int32)), (.ref b2)])) _
    refine XS.lload X23.here hx rfl (hb hby at_217) rfl ?_
    show Steps p.tables e below (T23.setTop (mkF m 219 #[.val (.long q1), .second, .val (.int p2), .val (.int p3), .val (.int p4), .val (.long vq), .second, .val (.int (Int32.ofNat oo)), .val (.int (own_byte p4)), .val (.ref b2), .val (.int (Int32.ofNat Pn.2)), .val (.int ln), .val (.int (1 : Int32))] [(.long vq), (.int ln), (.int (Int32.ofNat oo)), (.int (2 : Int32)), (.ref b2)])) _
    refine XS.iload X23.here hx rfl (hb hby at_219) rfl ?_
    show Steps p.tables e below (T23.setTop (mkF m 221 #[.val (.long q1), .second, .val (.int p2), .val (.int p3), .val (.int p4), .val (.long vq), .second, .val (.int (Int32.ofNat oo)), .val (.int (own_byte p4)), .val (.ref b2), .val (.int (Int32.ofNat Pn.2)), .val (.int ln), .val (.int (1 : Int32))] [(.int (own_byte p4)), (.long vq), (.int ln), (.int (Int32.ofNat oo)), (.int (2 : Int32)), (.ref b2)])) _
    refine st24 _ ?_
    show Steps p.tables e below (T24.setTop (mkF m 224 #[.val (.long q1), .second, .val (.int p2), .val (.int p3), .val (.int p4), .val (.long vq), .second, .val (.int (Int32.ofNat oo)), .val (.int (own_byte p4)), .val (.ref b2), .val (.int (Int32.ofNat Pn.2)), .val (.int ln), .val (.int (1 : Int32))] [(.int (1 : Int32))])) _
    refine XS.ifNo X24.here hx rfl (hb hby at_224) rfl ((if0 _ _).trans (feq (by decide)).1) ?_
    show Steps p.tables e below (T24.setTop (mkF m 227 #[.val (.long q1), .second, .val (.int p2), .val (.int p3), .val (.int p4), .val (.long vq), .second, .val (.int (Int32.ofNat oo)), .val (.int (own_byte p4)), .val (.ref b2), .val (.int (Int32.ofNat Pn.2)), .val (.int ln), .val (.int (1 : Int32))] [])) _
    refine XS.iconst X24.here hx rfl (hb hby at_227) ?_
    show Steps p.tables e below (T24.setTop (mkF m 228 #[.val (.long q1), .second, .val (.int p2), .val (.int p3), .val (.int p4), .val (.long vq), .second, .val (.int (Int32.ofNat oo)), .val (.int (own_byte p4)), .val (.ref b2), .val (.int (Int32.ofNat Pn.2)), .val (.int ln), .val (.int (1 : Int32))] [(.int (1 : Int32))])) _
    refine XS.goto X24.here hx rfl (pc0 := 228) (pc' := 232) rfl (hb hby at_228) (by decide) (by decide) ?_
    show Steps p.tables e below (T24.setTop (mkF m 232 #[.val (.long q1), .second, .val (.int p2), .val (.int p3), .val (.int p4), .val (.long vq), .second, .val (.int (Int32.ofNat oo)), .val (.int (own_byte p4)), .val (.ref b2), .val (.int (Int32.ofNat Pn.2)), .val (.int ln), .val (.int (1 : Int32))] [(.int (1 : Int32))])) _
    refine XS.istore X24.here hx rfl (hb hby at_232) rfl (l' := #[.val (.long q1), .second, .val (.int p2), .val (.int p3), .val (.int p4), .val (.long vq), .second, .val (.int (Int32.ofNat oo)), .val (.int (own_byte p4)), .val (.ref b2), .val (.int (Int32.ofNat Pn.2)), .val (.int ln), .val (.int (1 : Int32))]) rfl ?_
    show Steps p.tables e below (T24.setTop (mkF m 234 #[.val (.long q1), .second, .val (.int p2), .val (.int p3), .val (.int p4), .val (.long vq), .second, .val (.int (Int32.ofNat oo)), .val (.int (own_byte p4)), .val (.ref b2), .val (.int (Int32.ofNat Pn.2)), .val (.int ln), .val (.int (1 : Int32))] [])) _
    refine XS.iload X24.here hx rfl (hb hby at_234) rfl ?_
    show Steps p.tables e below (T24.setTop (mkF m 236 #[.val (.long q1), .second, .val (.int p2), .val (.int p3), .val (.int p4), .val (.long vq), .second, .val (.int (Int32.ofNat oo)), .val (.int (own_byte p4)), .val (.ref b2), .val (.int (Int32.ofNat Pn.2)), .val (.int ln), .val (.int (1 : Int32))] [(.int (1 : Int32))])) _
    refine XS.ifNo X24.here hx rfl (hb hby at_236) rfl ((if0 _ _).trans (feq (by decide)).1) ?_
    show Steps p.tables e below (T24.setTop (mkF m 239 #[.val (.long q1), .second, .val (.int p2), .val (.int p3), .val (.int p4), .val (.long vq), .second, .val (.int (Int32.ofNat oo)), .val (.int (own_byte p4)), .val (.ref b2), .val (.int (Int32.ofNat Pn.2)), .val (.int ln), .val (.int (1 : Int32))] [])) _
    refine XS.aload X24.here hx rfl (hb hby at_239) rfl rfl ?_
    show Steps p.tables e below (T24.setTop (mkF m 241 #[.val (.long q1), .second, .val (.int p2), .val (.int p3), .val (.int p4), .val (.long vq), .second, .val (.int (Int32.ofNat oo)), .val (.int (own_byte p4)), .val (.ref b2), .val (.int (Int32.ofNat Pn.2)), .val (.int ln), .val (.int (1 : Int32))] [(.ref b2)])) _
    refine XS.iconst X24.here hx rfl (hb hby at_241) ?_
    show Steps p.tables e below (T24.setTop (mkF m 242 #[.val (.long q1), .second, .val (.int p2), .val (.int p3), .val (.int p4), .val (.long vq), .second, .val (.int (Int32.ofNat oo)), .val (.int (own_byte p4)), .val (.ref b2), .val (.int (Int32.ofNat Pn.2)), .val (.int ln), .val (.int (1 : Int32))] [(.int (3 : Int32)), (.ref b2)])) _
    refine XS.iload X24.here hx rfl (hb hby at_242) rfl ?_
    show Steps p.tables e below (T24.setTop (mkF m 244 #[.val (.long q1), .second, .val (.int p2), .val (.int p3), .val (.int p4), .val (.long vq), .second, .val (.int (Int32.ofNat oo)), .val (.int (own_byte p4)), .val (.ref b2), .val (.int (Int32.ofNat Pn.2)), .val (.int ln), .val (.int (1 : Int32))] [(.int (Int32.ofNat oo)), (.int (3 : Int32)), (.ref b2)])) _
    refine XS.iload X24.here hx rfl (hb hby at_244) rfl ?_
    show Steps p.tables e below (T24.setTop (mkF m 246 #[.val (.long q1), .second, .val (.int p2), .val (.int p3), .val (.int p4), .val (.long vq), .second, .val (.int (Int32.ofNat oo)), .val (.int (own_byte p4)), .val (.ref b2), .val (.int (Int32.ofNat Pn.2)), .val (.int ln), .val (.int (1 : Int32))] [(.int ln), (.int (Int32.ofNat oo)), (.int (3 : Int32)), (.ref b2)])) _
    refine XS.lload X24.here hx rfl (hb hby at_246) rfl ?_
    show Steps p.tables e below (T24.setTop (mkF m 248 #[.val (.long q1), .second, .val (.int p2), .val (.int p3), .val (.int p4), .val (.long vq), .second, .val (.int (Int32.ofNat oo)), .val (.int (own_byte p4)), .val (.ref b2), .val (.int (Int32.ofNat Pn.2)), .val (.int ln), .val (.int (1 : Int32))] [(.long vq), (.int ln), (.int (Int32.ofNat oo)), (.int (3 : Int32)), (.ref b2)])) _
    refine XS.iload X24.here hx rfl (hb hby at_248) rfl ?_
    show Steps p.tables e below (T24.setTop (mkF m 250 #[.val (.long q1), .second, .val (.int p2), .val (.int p3), .val (.int p4), .val (.long vq), .second, .val (.int (Int32.ofNat oo)), .val (.int (own_byte p4)), .val (.ref b2), .val (.int (Int32.ofNat Pn.2)), .val (.int ln), .val (.int (1 : Int32))] [(.int (own_byte p4)), (.long vq), (.int ln), (.int (Int32.ofNat oo)), (.int (3 : Int32)), (.ref b2)])) _
    refine st25 _ ?_
    show Steps p.tables e below (T25.setTop (mkF m 253 #[.val (.long q1), .second, .val (.int p2), .val (.int p3), .val (.int p4), .val (.long vq), .second, .val (.int (Int32.ofNat oo)), .val (.int (own_byte p4)), .val (.ref b2), .val (.int (Int32.ofNat Pn.2)), .val (.int ln), .val (.int (1 : Int32))] [(.int (1 : Int32))])) _
    refine XS.ifNo X25.here hx rfl (hb hby at_253) rfl ((if0 _ _).trans (feq (by decide)).1) ?_
    show Steps p.tables e below (T25.setTop (mkF m 256 #[.val (.long q1), .second, .val (.int p2), .val (.int p3), .val (.int p4), .val (.long vq), .second, .val (.int (Int32.ofNat oo)), .val (.int (own_byte p4)), .val (.ref b2), .val (.int (Int32.ofNat Pn.2)), .val (.int ln), .val (.int (1 : Int32))] [])) _
    refine XS.iconst X25.here hx rfl (hb hby at_256) ?_
    show Steps p.tables e below (T25.setTop (mkF m 257 #[.val (.long q1), .second, .val (.int p2), .val (.int p3), .val (.int p4), .val (.long vq), .second, .val (.int (Int32.ofNat oo)), .val (.int (own_byte p4)), .val (.ref b2), .val (.int (Int32.ofNat Pn.2)), .val (.int ln), .val (.int (1 : Int32))] [(.int (1 : Int32))])) _
    refine XS.goto X25.here hx rfl (pc0 := 257) (pc' := 261) rfl (hb hby at_257) (by decide) (by decide) ?_
    show Steps p.tables e below (T25.setTop (mkF m 261 #[.val (.long q1), .second, .val (.int p2), .val (.int p3), .val (.int p4), .val (.long vq), .second, .val (.int (Int32.ofNat oo)), .val (.int (own_byte p4)), .val (.ref b2), .val (.int (Int32.ofNat Pn.2)), .val (.int ln), .val (.int (1 : Int32))] [(.int (1 : Int32))])) _
    refine XS.istore X25.here hx rfl (hb hby at_261) rfl (l' := #[.val (.long q1), .second, .val (.int p2), .val (.int p3), .val (.int p4), .val (.long vq), .second, .val (.int (Int32.ofNat oo)), .val (.int (own_byte p4)), .val (.ref b2), .val (.int (Int32.ofNat Pn.2)), .val (.int ln), .val (.int (1 : Int32))]) rfl ?_
    show Steps p.tables e below (T25.setTop (mkF m 263 #[.val (.long q1), .second, .val (.int p2), .val (.int p3), .val (.int p4), .val (.long vq), .second, .val (.int (Int32.ofNat oo)), .val (.int (own_byte p4)), .val (.ref b2), .val (.int (Int32.ofNat Pn.2)), .val (.int ln), .val (.int (1 : Int32))] [])) _
    refine XS.iload X25.here hx rfl (hb hby at_263) rfl ?_
    show Steps p.tables e below (T25.setTop (mkF m 265 #[.val (.long q1), .second, .val (.int p2), .val (.int p3), .val (.int p4), .val (.long vq), .second, .val (.int (Int32.ofNat oo)), .val (.int (own_byte p4)), .val (.ref b2), .val (.int (Int32.ofNat Pn.2)), .val (.int ln), .val (.int (1 : Int32))] [(.int (1 : Int32))])) _
    refine XS.ifNo X25.here hx rfl (hb hby at_265) rfl ((if0 _ _).trans (feq (by decide)).1) ?_
    show Steps p.tables e below (T25.setTop (mkF m 268 #[.val (.long q1), .second, .val (.int p2), .val (.int p3), .val (.int p4), .val (.long vq), .second, .val (.int (Int32.ofNat oo)), .val (.int (own_byte p4)), .val (.ref b2), .val (.int (Int32.ofNat Pn.2)), .val (.int ln), .val (.int (1 : Int32))] [])) _
    refine XS.aload X25.here hx rfl (hb hby at_268) rfl rfl ?_
    show Steps p.tables e below (T25.setTop (mkF m 270 #[.val (.long q1), .second, .val (.int p2), .val (.int p3), .val (.int p4), .val (.long vq), .second, .val (.int (Int32.ofNat oo)), .val (.int (own_byte p4)), .val (.ref b2), .val (.int (Int32.ofNat Pn.2)), .val (.int ln), .val (.int (1 : Int32))] [(.ref b2)])) _
    refine XS.iconst X25.here hx rfl (hb hby at_270) ?_
    show Steps p.tables e below (T25.setTop (mkF m 271 #[.val (.long q1), .second, .val (.int p2), .val (.int p3), .val (.int p4), .val (.long vq), .second, .val (.int (Int32.ofNat oo)), .val (.int (own_byte p4)), .val (.ref b2), .val (.int (Int32.ofNat Pn.2)), .val (.int ln), .val (.int (1 : Int32))] [(.int (4 : Int32)), (.ref b2)])) _
    refine XS.iload X25.here hx rfl (hb hby at_271) rfl ?_
    show Steps p.tables e below (T25.setTop (mkF m 273 #[.val (.long q1), .second, .val (.int p2), .val (.int p3), .val (.int p4), .val (.long vq), .second, .val (.int (Int32.ofNat oo)), .val (.int (own_byte p4)), .val (.ref b2), .val (.int (Int32.ofNat Pn.2)), .val (.int ln), .val (.int (1 : Int32))] [(.int (Int32.ofNat oo)), (.int (4 : Int32)), (.ref b2)])) _
    refine XS.iload X25.here hx rfl (hb hby at_273) rfl ?_
    show Steps p.tables e below (T25.setTop (mkF m 275 #[.val (.long q1), .second, .val (.int p2), .val (.int p3), .val (.int p4), .val (.long vq), .second, .val (.int (Int32.ofNat oo)), .val (.int (own_byte p4)), .val (.ref b2), .val (.int (Int32.ofNat Pn.2)), .val (.int ln), .val (.int (1 : Int32))] [(.int ln), (.int (Int32.ofNat oo)), (.int (4 : Int32)), (.ref b2)])) _
    refine XS.lload X25.here hx rfl (hb hby at_275) rfl ?_
    show Steps p.tables e below (T25.setTop (mkF m 277 #[.val (.long q1), .second, .val (.int p2), .val (.int p3), .val (.int p4), .val (.long vq), .second, .val (.int (Int32.ofNat oo)), .val (.int (own_byte p4)), .val (.ref b2), .val (.int (Int32.ofNat Pn.2)), .val (.int ln), .val (.int (1 : Int32))] [(.long vq), (.int ln), (.int (Int32.ofNat oo)), (.int (4 : Int32)), (.ref b2)])) _
    refine XS.iload X25.here hx rfl (hb hby at_277) rfl ?_
    show Steps p.tables e below (T25.setTop (mkF m 279 #[.val (.long q1), .second, .val (.int p2), .val (.int p3), .val (.int p4), .val (.long vq), .second, .val (.int (Int32.ofNat oo)), .val (.int (own_byte p4)), .val (.ref b2), .val (.int (Int32.ofNat Pn.2)), .val (.int ln), .val (.int (1 : Int32))] [(.int (own_byte p4)), (.long vq), (.int ln), (.int (Int32.ofNat oo)), (.int (4 : Int32)), (.ref b2)])) _
    refine st26 _ ?_
    show Steps p.tables e below (T26.setTop (mkF m 282 #[.val (.long q1), .second, .val (.int p2), .val (.int p3), .val (.int p4), .val (.long vq), .second, .val (.int (Int32.ofNat oo)), .val (.int (own_byte p4)), .val (.ref b2), .val (.int (Int32.ofNat Pn.2)), .val (.int ln), .val (.int (1 : Int32))] [(.int (1 : Int32))])) _
    refine XS.ifNo X26.here hx rfl (hb hby at_282) rfl ((if0 _ _).trans (feq (by decide)).1) ?_
    show Steps p.tables e below (T26.setTop (mkF m 285 #[.val (.long q1), .second, .val (.int p2), .val (.int p3), .val (.int p4), .val (.long vq), .second, .val (.int (Int32.ofNat oo)), .val (.int (own_byte p4)), .val (.ref b2), .val (.int (Int32.ofNat Pn.2)), .val (.int ln), .val (.int (1 : Int32))] [])) _
    refine XS.iconst X26.here hx rfl (hb hby at_285) ?_
    show Steps p.tables e below (T26.setTop (mkF m 286 #[.val (.long q1), .second, .val (.int p2), .val (.int p3), .val (.int p4), .val (.long vq), .second, .val (.int (Int32.ofNat oo)), .val (.int (own_byte p4)), .val (.ref b2), .val (.int (Int32.ofNat Pn.2)), .val (.int ln), .val (.int (1 : Int32))] [(.int (1 : Int32))])) _
    refine XS.goto X26.here hx rfl (pc0 := 286) (pc' := 290) rfl (hb hby at_286) (by decide) (by decide) ?_
    show Steps p.tables e below (T26.setTop (mkF m 290 #[.val (.long q1), .second, .val (.int p2), .val (.int p3), .val (.int p4), .val (.long vq), .second, .val (.int (Int32.ofNat oo)), .val (.int (own_byte p4)), .val (.ref b2), .val (.int (Int32.ofNat Pn.2)), .val (.int ln), .val (.int (1 : Int32))] [(.int (1 : Int32))])) _
    refine XS.istore X26.here hx rfl (hb hby at_290) rfl (l' := #[.val (.long q1), .second, .val (.int p2), .val (.int p3), .val (.int p4), .val (.long vq), .second, .val (.int (Int32.ofNat oo)), .val (.int (own_byte p4)), .val (.ref b2), .val (.int (Int32.ofNat Pn.2)), .val (.int ln), .val (.int (1 : Int32))]) rfl ?_
    show Steps p.tables e below (T26.setTop (mkF m 292 #[.val (.long q1), .second, .val (.int p2), .val (.int p3), .val (.int p4), .val (.long vq), .second, .val (.int (Int32.ofNat oo)), .val (.int (own_byte p4)), .val (.ref b2), .val (.int (Int32.ofNat Pn.2)), .val (.int ln), .val (.int (1 : Int32))] [])) _
    refine XS.iload X26.here hx rfl (hb hby at_292) rfl ?_
    show Steps p.tables e below (T26.setTop (mkF m 294 #[.val (.long q1), .second, .val (.int p2), .val (.int p3), .val (.int p4), .val (.long vq), .second, .val (.int (Int32.ofNat oo)), .val (.int (own_byte p4)), .val (.ref b2), .val (.int (Int32.ofNat Pn.2)), .val (.int ln), .val (.int (1 : Int32))] [(.int (1 : Int32))])) _
    refine XS.ifNo X26.here hx rfl (hb hby at_294) rfl ((if0 _ _).trans (feq (by decide)).1) ?_
    show Steps p.tables e below (T26.setTop (mkF m 297 #[.val (.long q1), .second, .val (.int p2), .val (.int p3), .val (.int p4), .val (.long vq), .second, .val (.int (Int32.ofNat oo)), .val (.int (own_byte p4)), .val (.ref b2), .val (.int (Int32.ofNat Pn.2)), .val (.int ln), .val (.int (1 : Int32))] [])) _
    refine XS.aload X26.here hx rfl (hb hby at_297) rfl rfl ?_
    show Steps p.tables e below (T26.setTop (mkF m 299 #[.val (.long q1), .second, .val (.int p2), .val (.int p3), .val (.int p4), .val (.long vq), .second, .val (.int (Int32.ofNat oo)), .val (.int (own_byte p4)), .val (.ref b2), .val (.int (Int32.ofNat Pn.2)), .val (.int ln), .val (.int (1 : Int32))] [(.ref b2)])) _
    refine XS.iconst X26.here hx rfl (hb hby at_299) ?_
    show Steps p.tables e below (T26.setTop (mkF m 300 #[.val (.long q1), .second, .val (.int p2), .val (.int p3), .val (.int p4), .val (.long vq), .second, .val (.int (Int32.ofNat oo)), .val (.int (own_byte p4)), .val (.ref b2), .val (.int (Int32.ofNat Pn.2)), .val (.int ln), .val (.int (1 : Int32))] [(.int (5 : Int32)), (.ref b2)])) _
    refine XS.iload X26.here hx rfl (hb hby at_300) rfl ?_
    show Steps p.tables e below (T26.setTop (mkF m 302 #[.val (.long q1), .second, .val (.int p2), .val (.int p3), .val (.int p4), .val (.long vq), .second, .val (.int (Int32.ofNat oo)), .val (.int (own_byte p4)), .val (.ref b2), .val (.int (Int32.ofNat Pn.2)), .val (.int ln), .val (.int (1 : Int32))] [(.int (Int32.ofNat oo)), (.int (5 : Int32)), (.ref b2)])) _
    refine XS.iload X26.here hx rfl (hb hby at_302) rfl ?_
    show Steps p.tables e below (T26.setTop (mkF m 304 #[.val (.long q1), .second, .val (.int p2), .val (.int p3), .val (.int p4), .val (.long vq), .second, .val (.int (Int32.ofNat oo)), .val (.int (own_byte p4)), .val (.ref b2), .val (.int (Int32.ofNat Pn.2)), .val (.int ln), .val (.int (1 : Int32))] [(.int ln), (.int (Int32.ofNat oo)), (.int (5 : Int32)), (.ref b2)])) _
    refine XS.lload X26.here hx rfl (hb hby at_304) rfl ?_
    show Steps p.tables e below (T26.setTop (mkF m 306 #[.val (.long q1), .second, .val (.int p2), .val (.int p3), .val (.int p4), .val (.long vq), .second, .val (.int (Int32.ofNat oo)), .val (.int (own_byte p4)), .val (.ref b2), .val (.int (Int32.ofNat Pn.2)), .val (.int ln), .val (.int (1 : Int32))] [(.long vq), (.int ln), (.int (Int32.ofNat oo)), (.int (5 : Int32)), (.ref b2)])) _
    refine XS.iload X26.here hx rfl (hb hby at_306) rfl ?_
    show Steps p.tables e below (T26.setTop (mkF m 308 #[.val (.long q1), .second, .val (.int p2), .val (.int p3), .val (.int p4), .val (.long vq), .second, .val (.int (Int32.ofNat oo)), .val (.int (own_byte p4)), .val (.ref b2), .val (.int (Int32.ofNat Pn.2)), .val (.int ln), .val (.int (1 : Int32))] [(.int (own_byte p4)), (.long vq), (.int ln), (.int (Int32.ofNat oo)), (.int (5 : Int32)), (.ref b2)])) _
    refine st27 _ ?_
    show Steps p.tables e below (T27.setTop (mkF m 311 #[.val (.long q1), .second, .val (.int p2), .val (.int p3), .val (.int p4), .val (.long vq), .second, .val (.int (Int32.ofNat oo)), .val (.int (own_byte p4)), .val (.ref b2), .val (.int (Int32.ofNat Pn.2)), .val (.int ln), .val (.int (1 : Int32))] [(.int (1 : Int32))])) _
    refine XS.ifNo X27.here hx rfl (hb hby at_311) rfl ((if0 _ _).trans (feq (by decide)).1) ?_
    show Steps p.tables e below (T27.setTop (mkF m 314 #[.val (.long q1), .second, .val (.int p2), .val (.int p3), .val (.int p4), .val (.long vq), .second, .val (.int (Int32.ofNat oo)), .val (.int (own_byte p4)), .val (.ref b2), .val (.int (Int32.ofNat Pn.2)), .val (.int ln), .val (.int (1 : Int32))] [])) _
    refine XS.iconst X27.here hx rfl (hb hby at_314) ?_
    show Steps p.tables e below (T27.setTop (mkF m 315 #[.val (.long q1), .second, .val (.int p2), .val (.int p3), .val (.int p4), .val (.long vq), .second, .val (.int (Int32.ofNat oo)), .val (.int (own_byte p4)), .val (.ref b2), .val (.int (Int32.ofNat Pn.2)), .val (.int ln), .val (.int (1 : Int32))] [(.int (1 : Int32))])) _
    refine XS.goto X27.here hx rfl (pc0 := 315) (pc' := 319) rfl (hb hby at_315) (by decide) (by decide) ?_
    show Steps p.tables e below (T27.setTop (mkF m 319 #[.val (.long q1), .second, .val (.int p2), .val (.int p3), .val (.int p4), .val (.long vq), .second, .val (.int (Int32.ofNat oo)), .val (.int (own_byte p4)), .val (.ref b2), .val (.int (Int32.ofNat Pn.2)), .val (.int ln), .val (.int (1 : Int32))] [(.int (1 : Int32))])) _
    refine XS.istore X27.here hx rfl (hb hby at_319) rfl (l' := #[.val (.long q1), .second, .val (.int p2), .val (.int p3), .val (.int p4), .val (.long vq), .second, .val (.int (Int32.ofNat oo)), .val (.int (own_byte p4)), .val (.ref b2), .val (.int (Int32.ofNat Pn.2)), .val (.int ln), .val (.int (1 : Int32))]) rfl ?_
    show Steps p.tables e below (T27.setTop (mkF m 321 #[.val (.long q1), .second, .val (.int p2), .val (.int p3), .val (.int p4), .val (.long vq), .second, .val (.int (Int32.ofNat oo)), .val (.int (own_byte p4)), .val (.ref b2), .val (.int (Int32.ofNat Pn.2)), .val (.int ln), .val (.int (1 : Int32))] [])) _
    refine XS.iload X27.here hx rfl (hb hby at_321) rfl ?_
    show Steps p.tables e below (T27.setTop (mkF m 323 #[.val (.long q1), .second, .val (.int p2), .val (.int p3), .val (.int p4), .val (.long vq), .second, .val (.int (Int32.ofNat oo)), .val (.int (own_byte p4)), .val (.ref b2), .val (.int (Int32.ofNat Pn.2)), .val (.int ln), .val (.int (1 : Int32))] [(.int (1 : Int32))])) _
    refine XS.ifNo X27.here hx rfl (hb hby at_323) rfl ((if0 _ _).trans (feq (by decide)).1) ?_
    show Steps p.tables e below (T27.setTop (mkF m 326 #[.val (.long q1), .second, .val (.int p2), .val (.int p3), .val (.int p4), .val (.long vq), .second, .val (.int (Int32.ofNat oo)), .val (.int (own_byte p4)), .val (.ref b2), .val (.int (Int32.ofNat Pn.2)), .val (.int ln), .val (.int (1 : Int32))] [])) _
    refine XS.aload X27.here hx rfl (hb hby at_326) rfl rfl ?_
    show Steps p.tables e below (T27.setTop (mkF m 328 #[.val (.long q1), .second, .val (.int p2), .val (.int p3), .val (.int p4), .val (.long vq), .second, .val (.int (Int32.ofNat oo)), .val (.int (own_byte p4)), .val (.ref b2), .val (.int (Int32.ofNat Pn.2)), .val (.int ln), .val (.int (1 : Int32))] [(.ref b2)])) _
    refine XS.bipush X27.here hx rfl (hb hby at_328) ?_
    show Steps p.tables e below (T27.setTop (mkF m 330 #[.val (.long q1), .second, .val (.int p2), .val (.int p3), .val (.int p4), .val (.long vq), .second, .val (.int (Int32.ofNat oo)), .val (.int (own_byte p4)), .val (.ref b2), .val (.int (Int32.ofNat Pn.2)), .val (.int ln), .val (.int (1 : Int32))] [(.int (6 : Int32)), (.ref b2)])) _
    refine XS.iload X27.here hx rfl (hb hby at_330) rfl ?_
    show Steps p.tables e below (T27.setTop (mkF m 332 #[.val (.long q1), .second, .val (.int p2), .val (.int p3), .val (.int p4), .val (.long vq), .second, .val (.int (Int32.ofNat oo)), .val (.int (own_byte p4)), .val (.ref b2), .val (.int (Int32.ofNat Pn.2)), .val (.int ln), .val (.int (1 : Int32))] [(.int (Int32.ofNat oo)), (.int (6 : Int32)), (.ref b2)])) _
    refine XS.iload X27.here hx rfl (hb hby at_332) rfl ?_
    show Steps p.tables e below (T27.setTop (mkF m 334 #[.val (.long q1), .second, .val (.int p2), .val (.int p3), .val (.int p4), .val (.long vq), .second, .val (.int (Int32.ofNat oo)), .val (.int (own_byte p4)), .val (.ref b2), .val (.int (Int32.ofNat Pn.2)), .val (.int ln), .val (.int (1 : Int32))] [(.int ln), (.int (Int32.ofNat oo)), (.int (6 : Int32)), (.ref b2)])) _
    refine XS.lload X27.here hx rfl (hb hby at_334) rfl ?_
    show Steps p.tables e below (T27.setTop (mkF m 336 #[.val (.long q1), .second, .val (.int p2), .val (.int p3), .val (.int p4), .val (.long vq), .second, .val (.int (Int32.ofNat oo)), .val (.int (own_byte p4)), .val (.ref b2), .val (.int (Int32.ofNat Pn.2)), .val (.int ln), .val (.int (1 : Int32))] [(.long vq), (.int ln), (.int (Int32.ofNat oo)), (.int (6 : Int32)), (.ref b2)])) _
    refine XS.iload X27.here hx rfl (hb hby at_336) rfl ?_
    show Steps p.tables e below (T27.setTop (mkF m 338 #[.val (.long q1), .second, .val (.int p2), .val (.int p3), .val (.int p4), .val (.long vq), .second, .val (.int (Int32.ofNat oo)), .val (.int (own_byte p4)), .val (.ref b2), .val (.int (Int32.ofNat Pn.2)), .val (.int ln), .val (.int (1 : Int32))] [(.int (own_byte p4)), (.long vq), (.int ln), (.int (Int32.ofNat oo)), (.int (6 : Int32)), (.ref b2)])) _
    refine st28 _ ?_
    show Steps p.tables e below (T28.setTop (mkF m 341 #[.val (.long q1), .second, .val (.int p2), .val (.int p3), .val (.int p4), .val (.long vq), .second, .val (.int (Int32.ofNat oo)), .val (.int (own_byte p4)), .val (.ref b2), .val (.int (Int32.ofNat Pn.2)), .val (.int ln), .val (.int (1 : Int32))] [(.int (1 : Int32))])) _
    refine XS.ifNo X28.here hx rfl (hb hby at_341) rfl ((if0 _ _).trans (feq (by decide)).1) ?_
    show Steps p.tables e below (T28.setTop (mkF m 344 #[.val (.long q1), .second, .val (.int p2), .val (.int p3), .val (.int p4), .val (.long vq), .second, .val (.int (Int32.ofNat oo)), .val (.int (own_byte p4)), .val (.ref b2), .val (.int (Int32.ofNat Pn.2)), .val (.int ln), .val (.int (1 : Int32))] [])) _
    refine XS.iconst X28.here hx rfl (hb hby at_344) ?_
    show Steps p.tables e below (T28.setTop (mkF m 345 #[.val (.long q1), .second, .val (.int p2), .val (.int p3), .val (.int p4), .val (.long vq), .second, .val (.int (Int32.ofNat oo)), .val (.int (own_byte p4)), .val (.ref b2), .val (.int (Int32.ofNat Pn.2)), .val (.int ln), .val (.int (1 : Int32))] [(.int (1 : Int32))])) _
    refine XS.goto X28.here hx rfl (pc0 := 345) (pc' := 349) rfl (hb hby at_345) (by decide) (by decide) ?_
    show Steps p.tables e below (T28.setTop (mkF m 349 #[.val (.long q1), .second, .val (.int p2), .val (.int p3), .val (.int p4), .val (.long vq), .second, .val (.int (Int32.ofNat oo)), .val (.int (own_byte p4)), .val (.ref b2), .val (.int (Int32.ofNat Pn.2)), .val (.int ln), .val (.int (1 : Int32))] [(.int (1 : Int32))])) _
    refine XS.istore X28.here hx rfl (hb hby at_349) rfl (l' := #[.val (.long q1), .second, .val (.int p2), .val (.int p3), .val (.int p4), .val (.long vq), .second, .val (.int (Int32.ofNat oo)), .val (.int (own_byte p4)), .val (.ref b2), .val (.int (Int32.ofNat Pn.2)), .val (.int ln), .val (.int (1 : Int32))]) rfl ?_
    show Steps p.tables e below (T28.setTop (mkF m 351 #[.val (.long q1), .second, .val (.int p2), .val (.int p3), .val (.int p4), .val (.long vq), .second, .val (.int (Int32.ofNat oo)), .val (.int (own_byte p4)), .val (.ref b2), .val (.int (Int32.ofNat Pn.2)), .val (.int ln), .val (.int (1 : Int32))] [])) _
    refine XS.iload X28.here hx rfl (hb hby at_351) rfl ?_
    show Steps p.tables e below (T28.setTop (mkF m 353 #[.val (.long q1), .second, .val (.int p2), .val (.int p3), .val (.int p4), .val (.long vq), .second, .val (.int (Int32.ofNat oo)), .val (.int (own_byte p4)), .val (.ref b2), .val (.int (Int32.ofNat Pn.2)), .val (.int ln), .val (.int (1 : Int32))] [(.int (1 : Int32))])) _
    refine XS.ifNo X28.here hx rfl (hb hby at_353) rfl ((if0 _ _).trans (feq (by decide)).1) ?_
    show Steps p.tables e below (T28.setTop (mkF m 356 #[.val (.long q1), .second, .val (.int p2), .val (.int p3), .val (.int p4), .val (.long vq), .second, .val (.int (Int32.ofNat oo)), .val (.int (own_byte p4)), .val (.ref b2), .val (.int (Int32.ofNat Pn.2)), .val (.int ln), .val (.int (1 : Int32))] [])) _
    refine XS.aload X28.here hx rfl (hb hby at_356) rfl rfl ?_
    show Steps p.tables e below (T28.setTop (mkF m 358 #[.val (.long q1), .second, .val (.int p2), .val (.int p3), .val (.int p4), .val (.long vq), .second, .val (.int (Int32.ofNat oo)), .val (.int (own_byte p4)), .val (.ref b2), .val (.int (Int32.ofNat Pn.2)), .val (.int ln), .val (.int (1 : Int32))] [(.ref b2)])) _
    refine XS.bipush X28.here hx rfl (hb hby at_358) ?_
    show Steps p.tables e below (T28.setTop (mkF m 360 #[.val (.long q1), .second, .val (.int p2), .val (.int p3), .val (.int p4), .val (.long vq), .second, .val (.int (Int32.ofNat oo)), .val (.int (own_byte p4)), .val (.ref b2), .val (.int (Int32.ofNat Pn.2)), .val (.int ln), .val (.int (1 : Int32))] [(.int (7 : Int32)), (.ref b2)])) _
    refine XS.iload X28.here hx rfl (hb hby at_360) rfl ?_
    show Steps p.tables e below (T28.setTop (mkF m 362 #[.val (.long q1), .second, .val (.int p2), .val (.int p3), .val (.int p4), .val (.long vq), .second, .val (.int (Int32.ofNat oo)), .val (.int (own_byte p4)), .val (.ref b2), .val (.int (Int32.ofNat Pn.2)), .val (.int ln), .val (.int (1 : Int32))] [(.int (Int32.ofNat oo)), (.int (7 : Int32)), (.ref b2)])) _
    refine XS.iload X28.here hx rfl (hb hby at_362) rfl ?_
    show Steps p.tables e below (T28.setTop (mkF m 364 #[.val (.long q1), .second, .val (.int p2), .val (.int p3), .val (.int p4), .val (.long vq), .second, .val (.int (Int32.ofNat oo)), .val (.int (own_byte p4)), .val (.ref b2), .val (.int (Int32.ofNat Pn.2)), .val (.int ln), .val (.int (1 : Int32))] [(.int ln), (.int (Int32.ofNat oo)), (.int (7 : Int32)), (.ref b2)])) _
    refine XS.lload X28.here hx rfl (hb hby at_364) rfl ?_
    show Steps p.tables e below (T28.setTop (mkF m 366 #[.val (.long q1), .second, .val (.int p2), .val (.int p3), .val (.int p4), .val (.long vq), .second, .val (.int (Int32.ofNat oo)), .val (.int (own_byte p4)), .val (.ref b2), .val (.int (Int32.ofNat Pn.2)), .val (.int ln), .val (.int (1 : Int32))] [(.long vq), (.int ln), (.int (Int32.ofNat oo)), (.int (7 : Int32)), (.ref b2)])) _
    refine XS.iload X28.here hx rfl (hb hby at_366) rfl ?_
    show Steps p.tables e below (T28.setTop (mkF m 368 #[.val (.long q1), .second, .val (.int p2), .val (.int p3), .val (.int p4), .val (.long vq), .second, .val (.int (Int32.ofNat oo)), .val (.int (own_byte p4)), .val (.ref b2), .val (.int (Int32.ofNat Pn.2)), .val (.int ln), .val (.int (1 : Int32))] [(.int (own_byte p4)), (.long vq), (.int ln), (.int (Int32.ofNat oo)), (.int (7 : Int32)), (.ref b2)])) _
    refine st29 _ ?_
    show Steps p.tables e below (T29.setTop (mkF m 371 #[.val (.long q1), .second, .val (.int p2), .val (.int p3), .val (.int p4), .val (.long vq), .second, .val (.int (Int32.ofNat oo)), .val (.int (own_byte p4)), .val (.ref b2), .val (.int (Int32.ofNat Pn.2)), .val (.int ln), .val (.int (1 : Int32))] [(.int (1 : Int32))])) _
    refine XS.ifNo X29.here hx rfl (hb hby at_371) rfl ((if0 _ _).trans (feq (by decide)).1) ?_
    show Steps p.tables e below (T29.setTop (mkF m 374 #[.val (.long q1), .second, .val (.int p2), .val (.int p3), .val (.int p4), .val (.long vq), .second, .val (.int (Int32.ofNat oo)), .val (.int (own_byte p4)), .val (.ref b2), .val (.int (Int32.ofNat Pn.2)), .val (.int ln), .val (.int (1 : Int32))] [])) _
    refine XS.iconst X29.here hx rfl (hb hby at_374) ?_
    show Steps p.tables e below (T29.setTop (mkF m 375 #[.val (.long q1), .second, .val (.int p2), .val (.int p3), .val (.int p4), .val (.long vq), .second, .val (.int (Int32.ofNat oo)), .val (.int (own_byte p4)), .val (.ref b2), .val (.int (Int32.ofNat Pn.2)), .val (.int ln), .val (.int (1 : Int32))] [(.int (1 : Int32))])) _
    refine XS.goto X29.here hx rfl (pc0 := 375) (pc' := 379) rfl (hb hby at_375) (by decide) (by decide) ?_
    show Steps p.tables e below (T29.setTop (mkF m 379 #[.val (.long q1), .second, .val (.int p2), .val (.int p3), .val (.int p4), .val (.long vq), .second, .val (.int (Int32.ofNat oo)), .val (.int (own_byte p4)), .val (.ref b2), .val (.int (Int32.ofNat Pn.2)), .val (.int ln), .val (.int (1 : Int32))] [(.int (1 : Int32))])) _
    refine XS.istore X29.here hx rfl (hb hby at_379) rfl (l' := #[.val (.long q1), .second, .val (.int p2), .val (.int p3), .val (.int p4), .val (.long vq), .second, .val (.int (Int32.ofNat oo)), .val (.int (own_byte p4)), .val (.ref b2), .val (.int (Int32.ofNat Pn.2)), .val (.int ln), .val (.int (1 : Int32))]) rfl ?_
    show Steps p.tables e below (T29.setTop (mkF m 381 #[.val (.long q1), .second, .val (.int p2), .val (.int p3), .val (.int p4), .val (.long vq), .second, .val (.int (Int32.ofNat oo)), .val (.int (own_byte p4)), .val (.ref b2), .val (.int (Int32.ofNat Pn.2)), .val (.int ln), .val (.int (1 : Int32))] [])) _
    refine XS.iload X29.here hx rfl (hb hby at_381) rfl ?_
    show Steps p.tables e below (T29.setTop (mkF m 383 #[.val (.long q1), .second, .val (.int p2), .val (.int p3), .val (.int p4), .val (.long vq), .second, .val (.int (Int32.ofNat oo)), .val (.int (own_byte p4)), .val (.ref b2), .val (.int (Int32.ofNat Pn.2)), .val (.int ln), .val (.int (1 : Int32))] [(.int (1 : Int32))])) _
    refine XS.ifNo X29.here hx rfl (hb hby at_383) rfl ((if0 _ _).trans (feq (by decide)).1) ?_
    show Steps p.tables e below (T29.setTop (mkF m 386 #[.val (.long q1), .second, .val (.int p2), .val (.int p3), .val (.int p4), .val (.long vq), .second, .val (.int (Int32.ofNat oo)), .val (.int (own_byte p4)), .val (.ref b2), .val (.int (Int32.ofNat Pn.2)), .val (.int ln), .val (.int (1 : Int32))] [])) _
    refine XS.aload X29.here hx rfl (hb hby at_386) rfl rfl ?_
    show Steps p.tables e below (T29.setTop (mkF m 388 #[.val (.long q1), .second, .val (.int p2), .val (.int p3), .val (.int p4), .val (.long vq), .second, .val (.int (Int32.ofNat oo)), .val (.int (own_byte p4)), .val (.ref b2), .val (.int (Int32.ofNat Pn.2)), .val (.int ln), .val (.int (1 : Int32))] [(.ref b2)])) _
    refine XS.bipush X29.here hx rfl (hb hby at_388) ?_
    show Steps p.tables e below (T29.setTop (mkF m 390 #[.val (.long q1), .second, .val (.int p2), .val (.int p3), .val (.int p4), .val (.long vq), .second, .val (.int (Int32.ofNat oo)), .val (.int (own_byte p4)), .val (.ref b2), .val (.int (Int32.ofNat Pn.2)), .val (.int ln), .val (.int (1 : Int32))] [(.int (8 : Int32)), (.ref b2)])) _
    refine XS.iload X29.here hx rfl (hb hby at_390) rfl ?_
    show Steps p.tables e below (T29.setTop (mkF m 392 #[.val (.long q1), .second, .val (.int p2), .val (.int p3), .val (.int p4), .val (.long vq), .second, .val (.int (Int32.ofNat oo)), .val (.int (own_byte p4)), .val (.ref b2), .val (.int (Int32.ofNat Pn.2)), .val (.int ln), .val (.int (1 : Int32))] [(.int (Int32.ofNat oo)), (.int (8 : Int32)), (.ref b2)])) _
    refine XS.iload X29.here hx rfl (hb hby at_392) rfl ?_
    show Steps p.tables e below (T29.setTop (mkF m 394 #[.val (.long q1), .second, .val (.int p2), .val (.int p3), .val (.int p4), .val (.long vq), .second, .val (.int (Int32.ofNat oo)), .val (.int (own_byte p4)), .val (.ref b2), .val (.int (Int32.ofNat Pn.2)), .val (.int ln), .val (.int (1 : Int32))] [(.int ln), (.int (Int32.ofNat oo)), (.int (8 : Int32)), (.ref b2)])) _
    refine XS.lload X29.here hx rfl (hb hby at_394) rfl ?_
    show Steps p.tables e below (T29.setTop (mkF m 396 #[.val (.long q1), .second, .val (.int p2), .val (.int p3), .val (.int p4), .val (.long vq), .second, .val (.int (Int32.ofNat oo)), .val (.int (own_byte p4)), .val (.ref b2), .val (.int (Int32.ofNat Pn.2)), .val (.int ln), .val (.int (1 : Int32))] [(.long vq), (.int ln), (.int (Int32.ofNat oo)), (.int (8 : Int32)), (.ref b2)])) _
    refine XS.iload X29.here hx rfl (hb hby at_396) rfl ?_
    show Steps p.tables e below (T29.setTop (mkF m 398 #[.val (.long q1), .second, .val (.int p2), .val (.int p3), .val (.int p4), .val (.long vq), .second, .val (.int (Int32.ofNat oo)), .val (.int (own_byte p4)), .val (.ref b2), .val (.int (Int32.ofNat Pn.2)), .val (.int ln), .val (.int (1 : Int32))] [(.int (own_byte p4)), (.long vq), (.int ln), (.int (Int32.ofNat oo)), (.int (8 : Int32)), (.ref b2)])) _
    refine st30 _ ?_
    show Steps p.tables e below (T30.setTop (mkF m 401 #[.val (.long q1), .second, .val (.int p2), .val (.int p3), .val (.int p4), .val (.long vq), .second, .val (.int (Int32.ofNat oo)), .val (.int (own_byte p4)), .val (.ref b2), .val (.int (Int32.ofNat Pn.2)), .val (.int ln), .val (.int (1 : Int32))] [(.int (1 : Int32))])) _
    refine XS.ifNo X30.here hx rfl (hb hby at_401) rfl ((if0 _ _).trans (feq (by decide)).1) ?_
    show Steps p.tables e below (T30.setTop (mkF m 404 #[.val (.long q1), .second, .val (.int p2), .val (.int p3), .val (.int p4), .val (.long vq), .second, .val (.int (Int32.ofNat oo)), .val (.int (own_byte p4)), .val (.ref b2), .val (.int (Int32.ofNat Pn.2)), .val (.int ln), .val (.int (1 : Int32))] [])) _
    refine XS.iconst X30.here hx rfl (hb hby at_404) ?_
    show Steps p.tables e below (T30.setTop (mkF m 405 #[.val (.long q1), .second, .val (.int p2), .val (.int p3), .val (.int p4), .val (.long vq), .second, .val (.int (Int32.ofNat oo)), .val (.int (own_byte p4)), .val (.ref b2), .val (.int (Int32.ofNat Pn.2)), .val (.int ln), .val (.int (1 : Int32))] [(.int (1 : Int32))])) _
    refine XS.goto X30.here hx rfl (pc0 := 405) (pc' := 409) rfl (hb hby at_405) (by decide) (by decide) ?_
    show Steps p.tables e below (T30.setTop (mkF m 409 #[.val (.long q1), .second, .val (.int p2), .val (.int p3), .val (.int p4), .val (.long vq), .second, .val (.int (Int32.ofNat oo)), .val (.int (own_byte p4)), .val (.ref b2), .val (.int (Int32.ofNat Pn.2)), .val (.int ln), .val (.int (1 : Int32))] [(.int (1 : Int32))])) _
    refine XS.istore X30.here hx rfl (hb hby at_409) rfl (l' := #[.val (.long q1), .second, .val (.int p2), .val (.int p3), .val (.int p4), .val (.long vq), .second, .val (.int (Int32.ofNat oo)), .val (.int (own_byte p4)), .val (.ref b2), .val (.int (Int32.ofNat Pn.2)), .val (.int ln), .val (.int (1 : Int32))]) rfl ?_
    show Steps p.tables e below (T30.setTop (mkF m 411 #[.val (.long q1), .second, .val (.int p2), .val (.int p3), .val (.int p4), .val (.long vq), .second, .val (.int (Int32.ofNat oo)), .val (.int (own_byte p4)), .val (.ref b2), .val (.int (Int32.ofNat Pn.2)), .val (.int ln), .val (.int (1 : Int32))] [])) _
    refine XS.iload X30.here hx rfl (hb hby at_411) rfl ?_
    show Steps p.tables e below (T30.setTop (mkF m 413 #[.val (.long q1), .second, .val (.int p2), .val (.int p3), .val (.int p4), .val (.long vq), .second, .val (.int (Int32.ofNat oo)), .val (.int (own_byte p4)), .val (.ref b2), .val (.int (Int32.ofNat Pn.2)), .val (.int ln), .val (.int (1 : Int32))] [(.int (1 : Int32))])) _
    refine XS.ifNo X30.here hx rfl (hb hby at_413) rfl ((if0 _ _).trans (feq (by decide)).1) ?_
    show Steps p.tables e below (T30.setTop (mkF m 416 #[.val (.long q1), .second, .val (.int p2), .val (.int p3), .val (.int p4), .val (.long vq), .second, .val (.int (Int32.ofNat oo)), .val (.int (own_byte p4)), .val (.ref b2), .val (.int (Int32.ofNat Pn.2)), .val (.int ln), .val (.int (1 : Int32))] [])) _
    refine XS.aload X30.here hx rfl (hb hby at_416) rfl rfl ?_
    show Steps p.tables e below (T30.setTop (mkF m 418 #[.val (.long q1), .second, .val (.int p2), .val (.int p3), .val (.int p4), .val (.long vq), .second, .val (.int (Int32.ofNat oo)), .val (.int (own_byte p4)), .val (.ref b2), .val (.int (Int32.ofNat Pn.2)), .val (.int ln), .val (.int (1 : Int32))] [(.ref b2)])) _
    refine XS.bipush X30.here hx rfl (hb hby at_418) ?_
    show Steps p.tables e below (T30.setTop (mkF m 420 #[.val (.long q1), .second, .val (.int p2), .val (.int p3), .val (.int p4), .val (.long vq), .second, .val (.int (Int32.ofNat oo)), .val (.int (own_byte p4)), .val (.ref b2), .val (.int (Int32.ofNat Pn.2)), .val (.int ln), .val (.int (1 : Int32))] [(.int (9 : Int32)), (.ref b2)])) _
    refine XS.iload X30.here hx rfl (hb hby at_420) rfl ?_
    show Steps p.tables e below (T30.setTop (mkF m 422 #[.val (.long q1), .second, .val (.int p2), .val (.int p3), .val (.int p4), .val (.long vq), .second, .val (.int (Int32.ofNat oo)), .val (.int (own_byte p4)), .val (.ref b2), .val (.int (Int32.ofNat Pn.2)), .val (.int ln), .val (.int (1 : Int32))] [(.int (Int32.ofNat oo)), (.int (9 : Int32)), (.ref b2)])) _
    refine XS.iload X30.here hx rfl (hb hby at_422) rfl ?_
    show Steps p.tables e below (T30.setTop (mkF m 424 #[.val (.long q1), .second, .val (.int p2), .val (.int p3), .val (.int p4), .val (.long vq), .second, .val (.int (Int32.ofNat oo)), .val (.int (own_byte p4)), .val (.ref b2), .val (.int (Int32.ofNat Pn.2)), .val (.int ln), .val (.int (1 : Int32))] [(.int ln), (.int (Int32.ofNat oo)), (.int (9 : Int32)), (.ref b2)])) _
    refine XS.lload X30.here hx rfl (hb hby at_424) rfl ?_
    show Steps p.tables e below (T30.setTop (mkF m 426 #[.val (.long q1), .second, .val (.int p2), .val (.int p3), .val (.int p4), .val (.long vq), .second, .val (.int (Int32.ofNat oo)), .val (.int (own_byte p4)), .val (.ref b2), .val (.int (Int32.ofNat Pn.2)), .val (.int ln), .val (.int (1 : Int32))] [(.long vq), (.int ln), (.int (Int32.ofNat oo)), (.int (9 : Int32)), (.ref b2)])) _
    refine XS.iload X30.here hx rfl (hb hby at_426) rfl ?_
    show Steps p.tables e below (T30.setTop (mkF m 428 #[.val (.long q1), .second, .val (.int p2), .val (.int p3), .val (.int p4), .val (.long vq), .second, .val (.int (Int32.ofNat oo)), .val (.int (own_byte p4)), .val (.ref b2), .val (.int (Int32.ofNat Pn.2)), .val (.int ln), .val (.int (1 : Int32))] [(.int (own_byte p4)), (.long vq), (.int ln), (.int (Int32.ofNat oo)), (.int (9 : Int32)), (.ref b2)])) _
    refine st31 _ ?_
    show Steps p.tables e below (T31.setTop (mkF m 431 #[.val (.long q1), .second, .val (.int p2), .val (.int p3), .val (.int p4), .val (.long vq), .second, .val (.int (Int32.ofNat oo)), .val (.int (own_byte p4)), .val (.ref b2), .val (.int (Int32.ofNat Pn.2)), .val (.int ln), .val (.int (1 : Int32))] [(.int (1 : Int32))])) _
    refine XS.ifNo X31.here hx rfl (hb hby at_431) rfl ((if0 _ _).trans (feq (by decide)).1) ?_
    show Steps p.tables e below (T31.setTop (mkF m 434 #[.val (.long q1), .second, .val (.int p2), .val (.int p3), .val (.int p4), .val (.long vq), .second, .val (.int (Int32.ofNat oo)), .val (.int (own_byte p4)), .val (.ref b2), .val (.int (Int32.ofNat Pn.2)), .val (.int ln), .val (.int (1 : Int32))] [])) _
    refine XS.iconst X31.here hx rfl (hb hby at_434) ?_
    show Steps p.tables e below (T31.setTop (mkF m 435 #[.val (.long q1), .second, .val (.int p2), .val (.int p3), .val (.int p4), .val (.long vq), .second, .val (.int (Int32.ofNat oo)), .val (.int (own_byte p4)), .val (.ref b2), .val (.int (Int32.ofNat Pn.2)), .val (.int ln), .val (.int (1 : Int32))] [(.int (1 : Int32))])) _
    refine XS.goto X31.here hx rfl (pc0 := 435) (pc' := 439) rfl (hb hby at_435) (by decide) (by decide) ?_
    show Steps p.tables e below (T31.setTop (mkF m 439 #[.val (.long q1), .second, .val (.int p2), .val (.int p3), .val (.int p4), .val (.long vq), .second, .val (.int (Int32.ofNat oo)), .val (.int (own_byte p4)), .val (.ref b2), .val (.int (Int32.ofNat Pn.2)), .val (.int ln), .val (.int (1 : Int32))] [(.int (1 : Int32))])) _
    refine XS.istore X31.here hx rfl (hb hby at_439) rfl (l' := #[.val (.long q1), .second, .val (.int p2), .val (.int p3), .val (.int p4), .val (.long vq), .second, .val (.int (Int32.ofNat oo)), .val (.int (own_byte p4)), .val (.ref b2), .val (.int (Int32.ofNat Pn.2)), .val (.int ln), .val (.int (1 : Int32))]) rfl ?_
    show Steps p.tables e below (T31.setTop (mkF m 441 #[.val (.long q1), .second, .val (.int p2), .val (.int p3), .val (.int p4), .val (.long vq), .second, .val (.int (Int32.ofNat oo)), .val (.int (own_byte p4)), .val (.ref b2), .val (.int (Int32.ofNat Pn.2)), .val (.int ln), .val (.int (1 : Int32))] [])) _
    refine XS.iload X31.here hx rfl (hb hby at_441) rfl ?_
    show Steps p.tables e below (T31.setTop (mkF m 443 #[.val (.long q1), .second, .val (.int p2), .val (.int p3), .val (.int p4), .val (.long vq), .second, .val (.int (Int32.ofNat oo)), .val (.int (own_byte p4)), .val (.ref b2), .val (.int (Int32.ofNat Pn.2)), .val (.int ln), .val (.int (1 : Int32))] [(.int (1 : Int32))])) _
    refine XS.ifNo X31.here hx rfl (hb hby at_443) rfl ((if0 _ _).trans (feq (by decide)).1) ?_
    show Steps p.tables e below (T31.setTop (mkF m 446 #[.val (.long q1), .second, .val (.int p2), .val (.int p3), .val (.int p4), .val (.long vq), .second, .val (.int (Int32.ofNat oo)), .val (.int (own_byte p4)), .val (.ref b2), .val (.int (Int32.ofNat Pn.2)), .val (.int ln), .val (.int (1 : Int32))] [])) _
    refine XS.aload X31.here hx rfl (hb hby at_446) rfl rfl ?_
    show Steps p.tables e below (T31.setTop (mkF m 448 #[.val (.long q1), .second, .val (.int p2), .val (.int p3), .val (.int p4), .val (.long vq), .second, .val (.int (Int32.ofNat oo)), .val (.int (own_byte p4)), .val (.ref b2), .val (.int (Int32.ofNat Pn.2)), .val (.int ln), .val (.int (1 : Int32))] [(.ref b2)])) _
    refine XS.bipush X31.here hx rfl (hb hby at_448) ?_
    show Steps p.tables e below (T31.setTop (mkF m 450 #[.val (.long q1), .second, .val (.int p2), .val (.int p3), .val (.int p4), .val (.long vq), .second, .val (.int (Int32.ofNat oo)), .val (.int (own_byte p4)), .val (.ref b2), .val (.int (Int32.ofNat Pn.2)), .val (.int ln), .val (.int (1 : Int32))] [(.int (10 : Int32)), (.ref b2)])) _
    refine XS.iload X31.here hx rfl (hb hby at_450) rfl ?_
    show Steps p.tables e below (T31.setTop (mkF m 452 #[.val (.long q1), .second, .val (.int p2), .val (.int p3), .val (.int p4), .val (.long vq), .second, .val (.int (Int32.ofNat oo)), .val (.int (own_byte p4)), .val (.ref b2), .val (.int (Int32.ofNat Pn.2)), .val (.int ln), .val (.int (1 : Int32))] [(.int (Int32.ofNat oo)), (.int (10 : Int32)), (.ref b2)])) _
    refine XS.iload X31.here hx rfl (hb hby at_452) rfl ?_
    show Steps p.tables e below (T31.setTop (mkF m 454 #[.val (.long q1), .second, .val (.int p2), .val (.int p3), .val (.int p4), .val (.long vq), .second, .val (.int (Int32.ofNat oo)), .val (.int (own_byte p4)), .val (.ref b2), .val (.int (Int32.ofNat Pn.2)), .val (.int ln), .val (.int (1 : Int32))] [(.int ln), (.int (Int32.ofNat oo)), (.int (10 : Int32)), (.ref b2)])) _
    refine XS.lload X31.here hx rfl (hb hby at_454) rfl ?_
    show Steps p.tables e below (T31.setTop (mkF m 456 #[.val (.long q1), .second, .val (.int p2), .val (.int p3), .val (.int p4), .val (.long vq), .second, .val (.int (Int32.ofNat oo)), .val (.int (own_byte p4)), .val (.ref b2), .val (.int (Int32.ofNat Pn.2)), .val (.int ln), .val (.int (1 : Int32))] [(.long vq), (.int ln), (.int (Int32.ofNat oo)), (.int (10 : Int32)), (.ref b2)])) _
    refine XS.iload X31.here hx rfl (hb hby at_456) rfl ?_
    show Steps p.tables e below (T31.setTop (mkF m 458 #[.val (.long q1), .second, .val (.int p2), .val (.int p3), .val (.int p4), .val (.long vq), .second, .val (.int (Int32.ofNat oo)), .val (.int (own_byte p4)), .val (.ref b2), .val (.int (Int32.ofNat Pn.2)), .val (.int ln), .val (.int (1 : Int32))] [(.int (own_byte p4)), (.long vq), (.int ln), (.int (Int32.ofNat oo)), (.int (10 : Int32)), (.ref b2)])) _
    refine st32 _ ?_
    show Steps p.tables e below (T32.setTop (mkF m 461 #[.val (.long q1), .second, .val (.int p2), .val (.int p3), .val (.int p4), .val (.long vq), .second, .val (.int (Int32.ofNat oo)), .val (.int (own_byte p4)), .val (.ref b2), .val (.int (Int32.ofNat Pn.2)), .val (.int ln), .val (.int (1 : Int32))] [(.int (1 : Int32))])) _
    refine XS.ifNo X32.here hx rfl (hb hby at_461) rfl ((if0 _ _).trans (feq (by decide)).1) ?_
    show Steps p.tables e below (T32.setTop (mkF m 464 #[.val (.long q1), .second, .val (.int p2), .val (.int p3), .val (.int p4), .val (.long vq), .second, .val (.int (Int32.ofNat oo)), .val (.int (own_byte p4)), .val (.ref b2), .val (.int (Int32.ofNat Pn.2)), .val (.int ln), .val (.int (1 : Int32))] [])) _
    refine XS.iconst X32.here hx rfl (hb hby at_464) ?_
    show Steps p.tables e below (T32.setTop (mkF m 465 #[.val (.long q1), .second, .val (.int p2), .val (.int p3), .val (.int p4), .val (.long vq), .second, .val (.int (Int32.ofNat oo)), .val (.int (own_byte p4)), .val (.ref b2), .val (.int (Int32.ofNat Pn.2)), .val (.int ln), .val (.int (1 : Int32))] [(.int (1 : Int32))])) _
    refine XS.goto X32.here hx rfl (pc0 := 465) (pc' := 469) rfl (hb hby at_465) (by decide) (by decide) ?_
    show Steps p.tables e below (T32.setTop (mkF m 469 #[.val (.long q1), .second, .val (.int p2), .val (.int p3), .val (.int p4), .val (.long vq), .second, .val (.int (Int32.ofNat oo)), .val (.int (own_byte p4)), .val (.ref b2), .val (.int (Int32.ofNat Pn.2)), .val (.int ln), .val (.int (1 : Int32))] [(.int (1 : Int32))])) _
    refine XS.istore X32.here hx rfl (hb hby at_469) rfl (l' := #[.val (.long q1), .second, .val (.int p2), .val (.int p3), .val (.int p4), .val (.long vq), .second, .val (.int (Int32.ofNat oo)), .val (.int (own_byte p4)), .val (.ref b2), .val (.int (Int32.ofNat Pn.2)), .val (.int ln), .val (.int (1 : Int32))]) rfl ?_
    show Steps p.tables e below (T32.setTop (mkF m 471 #[.val (.long q1), .second, .val (.int p2), .val (.int p3), .val (.int p4), .val (.long vq), .second, .val (.int (Int32.ofNat oo)), .val (.int (own_byte p4)), .val (.ref b2), .val (.int (Int32.ofNat Pn.2)), .val (.int ln), .val (.int (1 : Int32))] [])) _
    refine XS.iload X32.here hx rfl (hb hby at_471) rfl ?_
    show Steps p.tables e below (T32.setTop (mkF m 473 #[.val (.long q1), .second, .val (.int p2), .val (.int p3), .val (.int p4), .val (.long vq), .second, .val (.int (Int32.ofNat oo)), .val (.int (own_byte p4)), .val (.ref b2), .val (.int (Int32.ofNat Pn.2)), .val (.int ln), .val (.int (1 : Int32))] [(.int (1 : Int32))])) _
    refine XS.ifNo X32.here hx rfl (hb hby at_473) rfl ((if0 _ _).trans (feq (by decide)).1) ?_
    show Steps p.tables e below (T32.setTop (mkF m 476 #[.val (.long q1), .second, .val (.int p2), .val (.int p3), .val (.int p4), .val (.long vq), .second, .val (.int (Int32.ofNat oo)), .val (.int (own_byte p4)), .val (.ref b2), .val (.int (Int32.ofNat Pn.2)), .val (.int ln), .val (.int (1 : Int32))] [])) _
    refine XS.aload X32.here hx rfl (hb hby at_476) rfl rfl ?_
    show Steps p.tables e below (T32.setTop (mkF m 478 #[.val (.long q1), .second, .val (.int p2), .val (.int p3), .val (.int p4), .val (.long vq), .second, .val (.int (Int32.ofNat oo)), .val (.int (own_byte p4)), .val (.ref b2), .val (.int (Int32.ofNat Pn.2)), .val (.int ln), .val (.int (1 : Int32))] [(.ref b2)])) _
    refine XS.bipush X32.here hx rfl (hb hby at_478) ?_
    show Steps p.tables e below (T32.setTop (mkF m 480 #[.val (.long q1), .second, .val (.int p2), .val (.int p3), .val (.int p4), .val (.long vq), .second, .val (.int (Int32.ofNat oo)), .val (.int (own_byte p4)), .val (.ref b2), .val (.int (Int32.ofNat Pn.2)), .val (.int ln), .val (.int (1 : Int32))] [(.int (11 : Int32)), (.ref b2)])) _
    refine XS.iload X32.here hx rfl (hb hby at_480) rfl ?_
    show Steps p.tables e below (T32.setTop (mkF m 482 #[.val (.long q1), .second, .val (.int p2), .val (.int p3), .val (.int p4), .val (.long vq), .second, .val (.int (Int32.ofNat oo)), .val (.int (own_byte p4)), .val (.ref b2), .val (.int (Int32.ofNat Pn.2)), .val (.int ln), .val (.int (1 : Int32))] [(.int (Int32.ofNat oo)), (.int (11 : Int32)), (.ref b2)])) _
    refine XS.iload X32.here hx rfl (hb hby at_482) rfl ?_
    show Steps p.tables e below (T32.setTop (mkF m 484 #[.val (.long q1), .second, .val (.int p2), .val (.int p3), .val (.int p4), .val (.long vq), .second, .val (.int (Int32.ofNat oo)), .val (.int (own_byte p4)), .val (.ref b2), .val (.int (Int32.ofNat Pn.2)), .val (.int ln), .val (.int (1 : Int32))] [(.int ln), (.int (Int32.ofNat oo)), (.int (11 : Int32)), (.ref b2)])) _
    refine XS.lload X32.here hx rfl (hb hby at_484) rfl ?_
    show Steps p.tables e below (T32.setTop (mkF m 486 #[.val (.long q1), .second, .val (.int p2), .val (.int p3), .val (.int p4), .val (.long vq), .second, .val (.int (Int32.ofNat oo)), .val (.int (own_byte p4)), .val (.ref b2), .val (.int (Int32.ofNat Pn.2)), .val (.int ln), .val (.int (1 : Int32))] [(.long vq), (.int ln), (.int (Int32.ofNat oo)), (.int (11 : Int32)), (.ref b2)])) _
    refine XS.iload X32.here hx rfl (hb hby at_486) rfl ?_
    show Steps p.tables e below (T32.setTop (mkF m 488 #[.val (.long q1), .second, .val (.int p2), .val (.int p3), .val (.int p4), .val (.long vq), .second, .val (.int (Int32.ofNat oo)), .val (.int (own_byte p4)), .val (.ref b2), .val (.int (Int32.ofNat Pn.2)), .val (.int ln), .val (.int (1 : Int32))] [(.int (own_byte p4)), (.long vq), (.int ln), (.int (Int32.ofNat oo)), (.int (11 : Int32)), (.ref b2)])) _
    refine st33 _ ?_
    show Steps p.tables e below (T33.setTop (mkF m 491 #[.val (.long q1), .second, .val (.int p2), .val (.int p3), .val (.int p4), .val (.long vq), .second, .val (.int (Int32.ofNat oo)), .val (.int (own_byte p4)), .val (.ref b2), .val (.int (Int32.ofNat Pn.2)), .val (.int ln), .val (.int (1 : Int32))] [(.int (1 : Int32))])) _
    refine XS.ifNo X33.here hx rfl (hb hby at_491) rfl ((if0 _ _).trans (feq (by decide)).1) ?_
    show Steps p.tables e below (T33.setTop (mkF m 494 #[.val (.long q1), .second, .val (.int p2), .val (.int p3), .val (.int p4), .val (.long vq), .second, .val (.int (Int32.ofNat oo)), .val (.int (own_byte p4)), .val (.ref b2), .val (.int (Int32.ofNat Pn.2)), .val (.int ln), .val (.int (1 : Int32))] [])) _
    refine XS.iconst X33.here hx rfl (hb hby at_494) ?_
    show Steps p.tables e below (T33.setTop (mkF m 495 #[.val (.long q1), .second, .val (.int p2), .val (.int p3), .val (.int p4), .val (.long vq), .second, .val (.int (Int32.ofNat oo)), .val (.int (own_byte p4)), .val (.ref b2), .val (.int (Int32.ofNat Pn.2)), .val (.int ln), .val (.int (1 : Int32))] [(.int (1 : Int32))])) _
    refine XS.goto X33.here hx rfl (pc0 := 495) (pc' := 499) rfl (hb hby at_495) (by decide) (by decide) ?_
    show Steps p.tables e below (T33.setTop (mkF m 499 #[.val (.long q1), .second, .val (.int p2), .val (.int p3), .val (.int p4), .val (.long vq), .second, .val (.int (Int32.ofNat oo)), .val (.int (own_byte p4)), .val (.ref b2), .val (.int (Int32.ofNat Pn.2)), .val (.int ln), .val (.int (1 : Int32))] [(.int (1 : Int32))])) _
    refine XS.istore X33.here hx rfl (hb hby at_499) rfl (l' := #[.val (.long q1), .second, .val (.int p2), .val (.int p3), .val (.int p4), .val (.long vq), .second, .val (.int (Int32.ofNat oo)), .val (.int (own_byte p4)), .val (.ref b2), .val (.int (Int32.ofNat Pn.2)), .val (.int ln), .val (.int (1 : Int32))]) rfl ?_
    show Steps p.tables e below (T33.setTop (mkF m 501 #[.val (.long q1), .second, .val (.int p2), .val (.int p3), .val (.int p4), .val (.long vq), .second, .val (.int (Int32.ofNat oo)), .val (.int (own_byte p4)), .val (.ref b2), .val (.int (Int32.ofNat Pn.2)), .val (.int ln), .val (.int (1 : Int32))] [])) _
    refine XS.iload X33.here hx rfl (hb hby at_501) rfl ?_
    show Steps p.tables e below (T33.setTop (mkF m 503 #[.val (.long q1), .second, .val (.int p2), .val (.int p3), .val (.int p4), .val (.long vq), .second, .val (.int (Int32.ofNat oo)), .val (.int (own_byte p4)), .val (.ref b2), .val (.int (Int32.ofNat Pn.2)), .val (.int ln), .val (.int (1 : Int32))] [(.int (1 : Int32))])) _
    refine XS.ifNo X33.here hx rfl (hb hby at_503) rfl ((if0 _ _).trans (feq (by decide)).1) ?_
    show Steps p.tables e below (T33.setTop (mkF m 506 #[.val (.long q1), .second, .val (.int p2), .val (.int p3), .val (.int p4), .val (.long vq), .second, .val (.int (Int32.ofNat oo)), .val (.int (own_byte p4)), .val (.ref b2), .val (.int (Int32.ofNat Pn.2)), .val (.int ln), .val (.int (1 : Int32))] [])) _
    refine XS.aload X33.here hx rfl (hb hby at_506) rfl rfl ?_
    show Steps p.tables e below (T33.setTop (mkF m 508 #[.val (.long q1), .second, .val (.int p2), .val (.int p3), .val (.int p4), .val (.long vq), .second, .val (.int (Int32.ofNat oo)), .val (.int (own_byte p4)), .val (.ref b2), .val (.int (Int32.ofNat Pn.2)), .val (.int ln), .val (.int (1 : Int32))] [(.ref b2)])) _
    refine XS.bipush X33.here hx rfl (hb hby at_508) ?_
    show Steps p.tables e below (T33.setTop (mkF m 510 #[.val (.long q1), .second, .val (.int p2), .val (.int p3), .val (.int p4), .val (.long vq), .second, .val (.int (Int32.ofNat oo)), .val (.int (own_byte p4)), .val (.ref b2), .val (.int (Int32.ofNat Pn.2)), .val (.int ln), .val (.int (1 : Int32))] [(.int (12 : Int32)), (.ref b2)])) _
    refine XS.iload X33.here hx rfl (hb hby at_510) rfl ?_
    show Steps p.tables e below (T33.setTop (mkF m 512 #[.val (.long q1), .second, .val (.int p2), .val (.int p3), .val (.int p4), .val (.long vq), .second, .val (.int (Int32.ofNat oo)), .val (.int (own_byte p4)), .val (.ref b2), .val (.int (Int32.ofNat Pn.2)), .val (.int ln), .val (.int (1 : Int32))] [(.int (Int32.ofNat oo)), (.int (12 : Int32)), (.ref b2)])) _
    refine XS.iload X33.here hx rfl (hb hby at_512) rfl ?_
    show Steps p.tables e below (T33.setTop (mkF m 514 #[.val (.long q1), .second, .val (.int p2), .val (.int p3), .val (.int p4), .val (.long vq), .second, .val (.int (Int32.ofNat oo)), .val (.int (own_byte p4)), .val (.ref b2), .val (.int (Int32.ofNat Pn.2)), .val (.int ln), .val (.int (1 : Int32))] [(.int ln), (.int (Int32.ofNat oo)), (.int (12 : Int32)), (.ref b2)])) _
    refine XS.lload X33.here hx rfl (hb hby at_514) rfl ?_
    show Steps p.tables e below (T33.setTop (mkF m 516 #[.val (.long q1), .second, .val (.int p2), .val (.int p3), .val (.int p4), .val (.long vq), .second, .val (.int (Int32.ofNat oo)), .val (.int (own_byte p4)), .val (.ref b2), .val (.int (Int32.ofNat Pn.2)), .val (.int ln), .val (.int (1 : Int32))] [(.long vq), (.int ln), (.int (Int32.ofNat oo)), (.int (12 : Int32)), (.ref b2)])) _
    refine XS.iload X33.here hx rfl (hb hby at_516) rfl ?_
    show Steps p.tables e below (T33.setTop (mkF m 518 #[.val (.long q1), .second, .val (.int p2), .val (.int p3), .val (.int p4), .val (.long vq), .second, .val (.int (Int32.ofNat oo)), .val (.int (own_byte p4)), .val (.ref b2), .val (.int (Int32.ofNat Pn.2)), .val (.int ln), .val (.int (1 : Int32))] [(.int (own_byte p4)), (.long vq), (.int ln), (.int (Int32.ofNat oo)), (.int (12 : Int32)), (.ref b2)])) _
    refine st34 _ ?_
    show Steps p.tables e below (T34.setTop (mkF m 521 #[.val (.long q1), .second, .val (.int p2), .val (.int p3), .val (.int p4), .val (.long vq), .second, .val (.int (Int32.ofNat oo)), .val (.int (own_byte p4)), .val (.ref b2), .val (.int (Int32.ofNat Pn.2)), .val (.int ln), .val (.int (1 : Int32))] [(.int (1 : Int32))])) _
    refine XS.ifNo X34.here hx rfl (hb hby at_521) rfl ((if0 _ _).trans (feq (by decide)).1) ?_
    show Steps p.tables e below (T34.setTop (mkF m 524 #[.val (.long q1), .second, .val (.int p2), .val (.int p3), .val (.int p4), .val (.long vq), .second, .val (.int (Int32.ofNat oo)), .val (.int (own_byte p4)), .val (.ref b2), .val (.int (Int32.ofNat Pn.2)), .val (.int ln), .val (.int (1 : Int32))] [])) _
    refine XS.iconst X34.here hx rfl (hb hby at_524) ?_
    show Steps p.tables e below (T34.setTop (mkF m 525 #[.val (.long q1), .second, .val (.int p2), .val (.int p3), .val (.int p4), .val (.long vq), .second, .val (.int (Int32.ofNat oo)), .val (.int (own_byte p4)), .val (.ref b2), .val (.int (Int32.ofNat Pn.2)), .val (.int ln), .val (.int (1 : Int32))] [(.int (1 : Int32))])) _
    refine XS.goto X34.here hx rfl (pc0 := 525) (pc' := 529) rfl (hb hby at_525) (by decide) (by decide) ?_
    show Steps p.tables e below (T34.setTop (mkF m 529 #[.val (.long q1), .second, .val (.int p2), .val (.int p3), .val (.int p4), .val (.long vq), .second, .val (.int (Int32.ofNat oo)), .val (.int (own_byte p4)), .val (.ref b2), .val (.int (Int32.ofNat Pn.2)), .val (.int ln), .val (.int (1 : Int32))] [(.int (1 : Int32))])) _
    refine XS.istore X34.here hx rfl (hb hby at_529) rfl (l' := #[.val (.long q1), .second, .val (.int p2), .val (.int p3), .val (.int p4), .val (.long vq), .second, .val (.int (Int32.ofNat oo)), .val (.int (own_byte p4)), .val (.ref b2), .val (.int (Int32.ofNat Pn.2)), .val (.int ln), .val (.int (1 : Int32))]) rfl ?_
    show Steps p.tables e below (T34.setTop (mkF m 531 #[.val (.long q1), .second, .val (.int p2), .val (.int p3), .val (.int p4), .val (.long vq), .second, .val (.int (Int32.ofNat oo)), .val (.int (own_byte p4)), .val (.ref b2), .val (.int (Int32.ofNat Pn.2)), .val (.int ln), .val (.int (1 : Int32))] [])) _
    refine XS.iload X34.here hx rfl (hb hby at_531) rfl ?_
    show Steps p.tables e below (T34.setTop (mkF m 533 #[.val (.long q1), .second, .val (.int p2), .val (.int p3), .val (.int p4), .val (.long vq), .second, .val (.int (Int32.ofNat oo)), .val (.int (own_byte p4)), .val (.ref b2), .val (.int (Int32.ofNat Pn.2)), .val (.int ln), .val (.int (1 : Int32))] [(.int (1 : Int32))])) _
    exact retN X34 hx (t := .boolean) Bd.returns (by simp) (hb hby at_533) hr
  · show Q0 Z q1 p2 p3 p4 h0 n0 _ T34.heap _
    exact ⟨rfl, N34⟩
set_option maxRecDepth 65536 in
set_option maxHeartbeats 40000000 in
theorem comes_1 {Post : Tables → Env → Array Value → State → Outcome → State → Prop} (hpost : ∀ tb e args s v u, (limb_1_1.after args s (.returned v) u = true ∧ limb_1_2.after args s (.returned v) u = true ∧ True) → FrameEnd s (.returned v) u (Jvm.fieldLocs frame_1_writes args s ++ Jvm.arrayLocs frame_1_arrays args s ++ Jvm.staticLocs frame_1_statics s) 16 128 → Post tb e args s (.returned v) u) :
    ArmFor flags0 classFile x code maxLocals ret World_1 tables_1 room_1 Calls_1 rest_1 Pre_1 Post := by
  intro l hfl _ _ p e ha hc hk s m args below hf hA hF happ hP
  obtain ⟨hcalls, hrest, hpre⟩ := hP
  obtain ⟨-, -, -, hnamed, -, -, -, hat⟩ := (Spec.applies_iff hf).mp happ
  obtain ⟨hg, hn⟩ := and_e (Cond.before_iff.mp (show (Jvm.Cond.and given_1 narrow_1).before args s = true from hpre))
  obtain ⟨g1, k1⟩ := and_e hg
  obtain ⟨g2, k2⟩ := and_e k1
  obtain ⟨g3, k3⟩ := and_e k2
  obtain ⟨g4, g5⟩ := and_e k3
  obtain ⟨w0, w1, w2, w3, rfl⟩ : ∃ w0 w1 w2 w3 : Value, args = #[w0, w1, w2, w3] := by
    have hs : args.size = 4 := by simpa [Cond.value, given_1] using g1
    obtain ⟨L⟩ := args
    match L, hs with
    | [w0, w1, w2, w3], _ => exact ⟨w0, w1, w2, w3, rfl⟩
  have hw := fun d (hd : d ∈ tables_1) => atoms_spec (ws := Jvm.Cond.code x code maxLocals ret :: tables_1) hat d (List.mem_cons_of_mem _ hd)
  have hfit : Fit s := fun {y c} hc i hi => by
    obtain ⟨ha, rfl⟩ := Array.getElem?_eq_some_iff.mp hc
    have q := List.all_eq_true.mp ((Array.all_eq_true_iff_forall_mem.mp hF) _ (Array.getElem_mem ha)) i (List.mem_range.mpr hi)
    simpa [Array.getElem?_eq_getElem hi] using q
  obtain ⟨i0, ei0⟩ := isL_v g2
  obtain rfl : w0 = (.long i0) := Option.some.inj ei0
  obtain ⟨i1, ei1⟩ := is_v g3
  obtain rfl : w1 = (.int i1) := Option.some.inj ei1
  obtain ⟨i2, ei2⟩ := is_v g4
  obtain rfl : w2 = (.int i2) := Option.some.inj ei2
  obtain ⟨i3, ei3⟩ := is_v g5
  obtain rfl : w3 = (.int i3) := Option.some.inj ei3
  obtain ⟨n, o, h1, h2, h3, _, L, rfl, ⟨rfl, N⟩, hq⟩ := rm0 l s _ hw tables_1 i0 i1 i2 i3 s.heap s.heap.size (Nat.le_refl _) p e ha hc hk s m _ below hf ((Spec.applies_iff_loose hf).mp happ).1 ⟨rfl, State.Warmed39.refl s, rfl⟩ trivial
  refine ⟨n, _, h1, h2, h3, hpost _ _ _ _ _ _ ⟨Cond.after_iff.mpr rfl, Cond.after_iff.mpr (eq_i res_at (Term.int_eval (1)) rfl), trivial⟩ ⟨hq.1, hq.2.1, (hq.2.2.sift fun y hy => Or.inr (N y hy)).mono (by decide) (by decide)⟩⟩
theorem main_1_1 : Claimed_1_1 := comes_1 fun _ _ _ _ _ _ h hF => ⟨h.1, hF⟩
theorem main_1_2 : Claimed_1_2 := comes_1 fun _ _ _ _ _ _ h hF => ⟨h.2.1, hF⟩
end Jvm.Pilot.@@N@@
namespace Jvm.Pilot.@@N@@
open Jvm Jvm.ClassFile Sem Op Lib Jvm.Free Jvm.Stand Jvm.Pilot.@@N@@.Jvm.D
/-! MADE BY PROGRAM (witnessworld.py) out of the Statement's table words and the real class files: 9 classes; the members and pool entries that the words name. The judged class is class 1, her method 1. -/
namespace start1
open Jvm.ClassFile
def u (s : String) : CpInfo := .utf8 (stringToUtf16 s)
/-- a pool by its gaps: so many unusable entries, then the entry; so many at the end -/
def gap : Nat → List CpInfo → List CpInfo
  | 0, r => r
  | n + 1, r => .unusable :: gap n r
def poolList (es : List (Nat × CpInfo)) (last : Nat) : List CpInfo := es.foldr (fun e r => gap e.1 (e.2 :: r)) (gap last [])
def pool (es : List (Nat × CpInfo)) (last : Nat) : Array CpInfo := ⟨poolList es last⟩
def fileOf (pool : Array CpInfo) (this : Nat) (attrs : Array Attribute := #[]) (ms : Array MethodInfo := #[]) (fl : Nat := 33) (sup : Nat := 0) (ifs : Array Nat := #[]) (fds : Array FieldInfo := #[]) : ClassFile where
  minorVersion := 0
  majorVersion := 65
  constantPool := pool
  accessFlags := fl
  thisClass := this
  superClass := sup
  interfaces := ifs
  fields := fds
  methods := ms
  attributes := attrs
def plain (name : String) (sup : Option ClassId) : Class where
  name := name
  kind := .ordinary
  loader := none
  accessFlags := 33
  super := sup
  interfaces := #[]
  cf := none
  fields := #[]
  methods := #[]
  instanceTypes := #[]
  staticTypes := #[]
  resolved := #[]
  callSites := []
  init := .initialized
  statics := none
  mirror := none

def pool0 : Array CpInfo := pool [(5, u "<init>"), (0, u "()V"), (1, .class_ 10), (1, u "java/lang/Object")] 113

def k0m0 : Method := { name := "<init>", desc := "()V", sig := { parameters := [], returnType := none }, accessFlags := 1, code := none }
/-- java/lang/Object -/
def k0 : Class := { plain "java/lang/Object" none with
  accessFlags := 33
  interfaces := #[]
  cf := some (fileOf pool0 8 #[] #[{ accessFlags := 1, nameIndex := 5, descriptorIndex := 6, attributes := #[] }] 33 0 #[] #[])
  fields := #[]
  methods := #[k0m0]
  instanceTypes := #[]
  staticTypes := #[]
  resolved := Array.replicate 124 none
  statics := none }

def pool1 : Array CpInfo := pool [(2, .class_ 4), (1, u "java/lang/Object"), (0, u "<init>"), (0, u "()V"), (0, .integer 2147483647), (0, .methodref 9 10), (0, .class_ 11), (0, .nameAndType 12 13), (0, u "com/example/termweave/termweave/index/IndexFormat"), (0, u "putVarLong"), (0, u "([BIJ)I"), (0, .methodref 15 16), (0, .class_ 17), (0, .nameAndType 18 19), (0, u "com/example/termweave/termweave/index/IndexFormatPutVarLongPinLaw"), (0, u "len"), (0, u "(J)I"), (0, .methodref 15 21), (0, .nameAndType 22 23), (0, u "at"), (0, u "([BIIIJB)Z"), (0, .long 127), (3, u "law"), (0, u "(JIII)Z")] 5

def k1m0 : Method := { name := "<init>", desc := "()V", sig := { parameters := [], returnType := none }, accessFlags := 2, code := none }
def k1c1 : Code := { maxStack := 7, maxLocals := 13, code := code, exceptionTable := #[], attributes := #[] }
def k1m1 : Method := { name := "law", desc := "(JIII)Z", sig := { parameters := [.long, .int, .int, .int], returnType := some .boolean }, accessFlags := 9, code := some k1c1 }
def k1c2 : Code := { maxStack := 5, maxLocals := 3, code := method_3_code, exceptionTable := #[], attributes := #[] }
def k1m2 : Method := { name := "len", desc := "(J)I", sig := { parameters := [.long], returnType := some .int }, accessFlags := 10, code := some k1c2 }
def k1c3 : Code := { maxStack := 4, maxLocals := 10, code := method_4_code, exceptionTable := #[], attributes := #[] }
def k1m3 : Method := { name := "at", desc := "([BIIIJB)Z", sig := { parameters := [(.array .byte), .int, .int, .int, .long, .byte], returnType := some .boolean }, accessFlags := 10, code := some k1c3 }
/-- com/example/termweave/termweave/index/IndexFormatPutVarLongPinLaw -/
def k1 : Class := { plain "com/example/termweave/termweave/index/IndexFormatPutVarLongPinLaw" (some 0) with
  accessFlags := 49
  interfaces := #[]
  cf := some (fileOf pool1 15 #[] #[{ accessFlags := 2, nameIndex := 5, descriptorIndex := 6, attributes := #[] }, { accessFlags := 9, nameIndex := 28, descriptorIndex := 29, attributes := #[] }, { accessFlags := 10, nameIndex := 18, descriptorIndex := 19, attributes := #[] }, { accessFlags := 10, nameIndex := 22, descriptorIndex := 23, attributes := #[] }] 49 2 #[] #[])
  fields := #[]
  methods := #[k1m0, k1m1, k1m2, k1m3]
  instanceTypes := #[]
  staticTypes := #[]
  resolved := Array.replicate 35 none
  statics := none }

def pool2 : Array CpInfo := pool [(1, .class_ 2), (0, u "com/example/termweave/termweave/index/IndexFormat"), (3, .class_ 8), (1, u "java/lang/Object"), (0, u "<init>"), (0, u "()V"), (2, u "NAMES"), (0, u "Ljava/util/Set;"), (40, .class_ 57), (1, u "com/example/termweave/termweave/index/IndexFormat$1"), (52, .long 18446744073709551488), (1, .long 127), (1, .long 128), (137, u "MAGIC"), (0, u "[B"), (2, u "HEADER_BYTES"), (0, u "I"), (2, u "TRAILER_BYTES"), (0, u "FILE_NAME"), (0, u "Ljava/lang/String;"), (1, u "PARTIAL_NAME"), (0, u "PARTS_NAME"), (0, u "RUNS_NAME"), (0, u "LOCK_NAME"), (0, u "CHANGED_NAME"), (0, u "BASE_PREFIX"), (2, u "VERSION"), (1, u "LINES_VERSION"), (1, u "RECORDS_VERSION"), (1, u "READ_ALONE"), (1, u "UPDATE"), (1, u "HELD_POSITIONS"), (1, u "GROUP_LINES"), (1, u "TRAILER_NUMBERS_BYTES"), (1, u "BLOCK_BYTES"), (1, u "DOCUMENT_MIN_BYTES"), (1, u "GROUP_WORDS"), (0, u "MOST_GROUP_WORDS"), (1, u "TABLE_ENTRY_BYTES"), (1, u "REST_BITS"), (1, u "SHORT_REST"), (1, u "MOST_VARINT_BYTES"), (12, u "putVarLong"), (0, u "([BIJ)I")] 50

def k2m0 : Method := { name := "<init>", desc := "()V", sig := { parameters := [], returnType := none }, accessFlags := 2, code := none }
def k2c1 : Code := { maxStack := 6, maxLocals := 7, code := prog_86_method_8_code, exceptionTable := #[], attributes := #[] }
def k2m1 : Method := { name := "putVarLong", desc := "([BIJ)I", sig := { parameters := [(.array .byte), .int, .long], returnType := some .int }, accessFlags := 8, code := some k2c1 }
/-- com/example/termweave/termweave/index/IndexFormat -/
def k2 : Class := { plain "com/example/termweave/termweave/index/IndexFormat" (some 0) with
  accessFlags := 48
  interfaces := #[]
  cf := some (fileOf pool2 1 #[.nestMembers #[55]] #[{ accessFlags := 2, nameIndex := 9, descriptorIndex := 10, attributes := #[] }, { accessFlags := 8, nameIndex := 314, descriptorIndex := 315, attributes := #[] }] 48 6 #[] #[{ accessFlags := 24, nameIndex := 261, descriptorIndex := 262, attributes := #[] }, { accessFlags := 24, nameIndex := 264, descriptorIndex := 262, attributes := #[] }, { accessFlags := 24, nameIndex := 265, descriptorIndex := 262, attributes := #[] }, { accessFlags := 24, nameIndex := 266, descriptorIndex := 262, attributes := #[] }, { accessFlags := 24, nameIndex := 267, descriptorIndex := 262, attributes := #[] }, { accessFlags := 24, nameIndex := 268, descriptorIndex := 262, attributes := #[] }, { accessFlags := 24, nameIndex := 269, descriptorIndex := 262, attributes := #[] }, { accessFlags := 26, nameIndex := 13, descriptorIndex := 14, attributes := #[] }, { accessFlags := 24, nameIndex := 272, descriptorIndex := 257, attributes := #[] }, { accessFlags := 24, nameIndex := 274, descriptorIndex := 257, attributes := #[] }, { accessFlags := 24, nameIndex := 276, descriptorIndex := 257, attributes := #[] }, { accessFlags := 24, nameIndex := 278, descriptorIndex := 257, attributes := #[] }, { accessFlags := 24, nameIndex := 280, descriptorIndex := 257, attributes := #[] }, { accessFlags := 24, nameIndex := 282, descriptorIndex := 257, attributes := #[] }, { accessFlags := 24, nameIndex := 284, descriptorIndex := 257, attributes := #[] }, { accessFlags := 24, nameIndex := 252, descriptorIndex := 253, attributes := #[] }, { accessFlags := 24, nameIndex := 256, descriptorIndex := 257, attributes := #[] }, { accessFlags := 24, nameIndex := 286, descriptorIndex := 257, attributes := #[] }, { accessFlags := 24, nameIndex := 260, descriptorIndex := 257, attributes := #[] }, { accessFlags := 24, nameIndex := 288, descriptorIndex := 257, attributes := #[] }, { accessFlags := 24, nameIndex := 290, descriptorIndex := 257, attributes := #[] }, { accessFlags := 24, nameIndex := 292, descriptorIndex := 257, attributes := #[] }, { accessFlags := 24, nameIndex := 293, descriptorIndex := 257, attributes := #[] }, { accessFlags := 24, nameIndex := 295, descriptorIndex := 257, attributes := #[] }, { accessFlags := 24, nameIndex := 297, descriptorIndex := 257, attributes := #[] }, { accessFlags := 24, nameIndex := 299, descriptorIndex := 257, attributes := #[] }, { accessFlags := 24, nameIndex := 301, descriptorIndex := 257, attributes := #[] }])
  fields := #[{ name := "FILE_NAME", type := (.object "java/lang/String"), accessFlags := 24, slot := 0, constantValue := 0 }, { name := "PARTIAL_NAME", type := (.object "java/lang/String"), accessFlags := 24, slot := 1, constantValue := 0 }, { name := "PARTS_NAME", type := (.object "java/lang/String"), accessFlags := 24, slot := 2, constantValue := 0 }, { name := "RUNS_NAME", type := (.object "java/lang/String"), accessFlags := 24, slot := 3, constantValue := 0 }, { name := "LOCK_NAME", type := (.object "java/lang/String"), accessFlags := 24, slot := 4, constantValue := 0 }, { name := "CHANGED_NAME", type := (.object "java/lang/String"), accessFlags := 24, slot := 5, constantValue := 0 }, { name := "BASE_PREFIX", type := (.object "java/lang/String"), accessFlags := 24, slot := 6, constantValue := 0 }, { name := "NAMES", type := (.object "java/util/Set"), accessFlags := 26, slot := 7, constantValue := 0 }, { name := "VERSION", type := .int, accessFlags := 24, slot := 8, constantValue := 0 }, { name := "LINES_VERSION", type := .int, accessFlags := 24, slot := 9, constantValue := 0 }, { name := "RECORDS_VERSION", type := .int, accessFlags := 24, slot := 10, constantValue := 0 }, { name := "READ_ALONE", type := .int, accessFlags := 24, slot := 11, constantValue := 0 }, { name := "UPDATE", type := .int, accessFlags := 24, slot := 12, constantValue := 0 }, { name := "HELD_POSITIONS", type := .int, accessFlags := 24, slot := 13, constantValue := 0 }, { name := "GROUP_LINES", type := .int, accessFlags := 24, slot := 14, constantValue := 0 }, { name := "MAGIC", type := (.array .byte), accessFlags := 24, slot := 15, constantValue := 0 }, { name := "HEADER_BYTES", type := .int, accessFlags := 24, slot := 16, constantValue := 0 }, { name := "TRAILER_NUMBERS_BYTES", type := .int, accessFlags := 24, slot := 17, constantValue := 0 }, { name := "TRAILER_BYTES", type := .int, accessFlags := 24, slot := 18, constantValue := 0 }, { name := "BLOCK_BYTES", type := .int, accessFlags := 24, slot := 19, constantValue := 0 }, { name := "DOCUMENT_MIN_BYTES", type := .int, accessFlags := 24, slot := 20, constantValue := 0 }, { name := "GROUP_WORDS", type := .int, accessFlags := 24, slot := 21, constantValue := 0 }, { name := "MOST_GROUP_WORDS", type := .int, accessFlags := 24, slot := 22, constantValue := 0 }, { name := "TABLE_ENTRY_BYTES", type := .int, accessFlags := 24, slot := 23, constantValue := 0 }, { name := "REST_BITS", type := .int, accessFlags := 24, slot := 24, constantValue := 0 }, { name := "SHORT_REST", type := .int, accessFlags := 24, slot := 25, constantValue := 0 }, { name := "MOST_VARINT_BYTES", type := .int, accessFlags := 24, slot := 26, constantValue := 0 }]
  methods := #[k2m0, k2m1]
  instanceTypes := #[]
  staticTypes := #[(.object "java/lang/String"), (.object "java/lang/String"), (.object "java/lang/String"), (.object "java/lang/String"), (.object "java/lang/String"), (.object "java/lang/String"), (.object "java/lang/String"), (.object "java/util/Set"), .int, .int, .int, .int, .int, .int, .int, (.array .byte), .int, .int, .int, .int, .int, .int, .int, .int, .int, .int, .int]
  resolved := Array.replicate 366 none
  statics := none }

def pool3 : Array CpInfo := pool [(1, u "java/lang/Cloneable"), (0, .class_ 1), (0, u "java/lang/Object"), (0, .class_ 3)] 3

/-- java/lang/Cloneable -/
def k3 : Class := { plain "java/lang/Cloneable" (some 0) with
  accessFlags := 1537
  interfaces := #[]
  cf := some (fileOf pool3 2 #[] #[] 1537 4 #[] #[])
  fields := #[]
  methods := #[]
  instanceTypes := #[]
  staticTypes := #[]
  resolved := Array.replicate 8 none
  statics := none }

def pool4 : Array CpInfo := pool [(1, u "java/io/Serializable"), (0, .class_ 1), (0, u "java/lang/Object"), (0, .class_ 3)] 3

/-- java/io/Serializable -/
def k4 : Class := { plain "java/io/Serializable" (some 0) with
  accessFlags := 1537
  interfaces := #[]
  cf := some (fileOf pool4 2 #[] #[] 1537 4 #[] #[])
  fields := #[]
  methods := #[]
  instanceTypes := #[]
  staticTypes := #[]
  resolved := Array.replicate 8 none
  statics := none }

/-- the primitive byte -/
def k5 : Class := { plain "byte" none with kind := .primitive 'B', accessFlags := 0x411 }
/-- [B -/
def k6 : Class := { plain "[B" (some 0) with kind := .array 5 .byte, interfaces := #[3, 4], accessFlags := 1041 }

/-- the primitive int -/
def k7 : Class := { plain "int" none with kind := .primitive 'I', accessFlags := 0x411 }
/-- [I -/
def k8 : Class := { plain "[I" (some 0) with kind := .array 7 .int, interfaces := #[3, 4], accessFlags := 1041 }

def heap : Heap := #[]
def classes : Array Class := #[k0, k1, k2, k3, k4, k5, k6, k7, k8]
def interned : List (Array UInt16 × Addr) := []
def slotsUsed : Nat := 0
def theMethod : MethodId := ⟨1, 1⟩
def args0 : Array Value := #[.long 300, .int 0, .int 1, .int 7]
def aboutOver (below : List Frame) : State where
  vm := { classes := classes, interned := interned.toArray }
  heap := heap
  slotsUsed := slotsUsed
  threads := #[{ frames := .invoking theMethod args0 :: below }]
def below0 : List Frame := [.native { method := ⟨0, 0⟩, args := #[] }]
def about1 : State := aboutOver below0
def p0 : Program := .bare "" "" ""
def e0 : Env := launch0.env 0 0 0
theorem w_frames : about1.frames = Frame.invoking theMethod args0 :: below0 := rfl
set_option maxRecDepth 65536 in
theorem w_args : argsFit about1.vm theMethod args0 = true := by decide +kernel
set_option maxRecDepth 65536 in
theorem w_heap : heapFits about1 = true := by decide +kernel
set_option maxRecDepth 65536 in
theorem w_runnable : about1.curStatus? = some .runnable := by decide +kernel
set_option maxRecDepth 65536 in
theorem w_alone : about1.alone = true := by decide +kernel
set_option maxRecDepth 65536 in
theorem w_named : about1.methodNamed? x = some theMethod := by decide +kernel
set_option maxRecDepth 65536 in
theorem w_hears : about1.hears theMethod below0 = true := by decide +kernel
set_option maxRecDepth 65536 in
theorem w_ripe : about1.ripe theMethod args0 below0 = true := by decide +kernel
theorem w_running : about1.status = .running := rfl
set_option maxRecDepth 65536 in
theorem w_room : about1.hasRoom e0.platform room_1 = true :=
  launch0.hasRoom_least _ room_1 (by decide +kernel) (by decide +kernel) (by decide +kernel) (by decide +kernel) (by decide +kernel) (by decide +kernel)
theorem allAtoms_all (ts : List Jvm.Cond) (a : Array Jvm.Value) (st : Jvm.State) : (allAtoms ts).before a st = ts.all (fun c => c.before a st) := by
  induction ts with
  | nil => rfl
  | cons c t ih =>
    show (Jvm.Cond.and c (allAtoms t)).before a st = _
    rw [Jvm.Cond.before_and, ih, List.all_cons]
def words1 : List Jvm.Cond := Jvm.Cond.code x code maxLocals ret :: tables_1
/-- a 'code' word, met by the world's own term for the bytes: nothing is compared byte by byte -/
theorem code_word {y : MethodName} {bytes : ByteArray} {mx : Nat} {rt : Option FieldType} {a : Array Value} {s : State} {m : MethodId} {meth : Method} {c : Code} (h1 : s.methodNamed? y = some m) (h2 : s.vm.method? m = some meth) (h3 : meth.code = some c) (h4 : c.code = bytes)
    (h5 : (c.maxLocals == mx && c.exceptionTable.isEmpty && decide (c.maxStack ≤ mostOperands) && decide (meth.sig.returnType = rt) && !meth.locks && decide (parseMethodDescriptor y.desc = some meth.sig)) = true) : (Jvm.Cond.code y bytes mx rt).before a s = true := by
  simp only [Bool.and_eq_true, beq_iff_eq, Bool.not_eq_true', decide_eq_true_eq] at h5
  obtain ⟨⟨⟨⟨⟨g1, g2⟩, g3⟩, g4⟩, g5⟩, g6⟩ := h5
  simp [Cond.before, Cond.holds, Cond.value, h1, h2, h3, h4, g1, g2, g3, g4, g5, g6]
def isCode : Jvm.Cond → Bool
  | .code _ _ _ _ => true
  | _ => false
theorem all_split {L : List Jvm.Cond} {P : Jvm.Cond → Bool} (h1 : L.all (fun c => isCode c || P c) = true) (h2 : ∀ c ∈ L.filter isCode, P c = true) : L.all P = true := by
  refine List.all_eq_true.mpr fun c hc => ?_
  have h := List.all_eq_true.mp h1 c hc
  rcases Bool.eq_false_or_eq_true (isCode c) with hi | hi
  · exact h2 c (List.mem_filter.mpr ⟨hc, hi⟩)
  · simpa [hi] using h
set_option maxRecDepth 65536 in
theorem w_c0 : (Jvm.Cond.code x code maxLocals ret).before args0 about1 = true := code_word (m := ⟨1, 1⟩) (meth := k1m1) (c := k1c1) (by decide +kernel) rfl rfl rfl (by decide +kernel)
set_option maxRecDepth 65536 in
theorem w_c1 : (Jvm.Cond.code ({ cls := "com/example/termweave/termweave/index/IndexFormat", name := "putVarLong", desc := "([BIJ)I" } : Jvm.MethodName) prog_86_method_8_code (7 : Nat) (Option.some Jvm.ClassFile.FieldType.int)).before args0 about1 = true := code_word (m := ⟨2, 1⟩) (meth := k2m1) (c := k2c1) (by decide +kernel) rfl rfl rfl (by decide +kernel)
set_option maxRecDepth 65536 in
theorem w_c2 : (Jvm.Cond.code ({ cls := "com/example/termweave/termweave/index/IndexFormatPutVarLongPinLaw", name := "len", desc := "(J)I" } : Jvm.MethodName) method_3_code (3 : Nat) (Option.some Jvm.ClassFile.FieldType.int)).before args0 about1 = true := code_word (m := ⟨1, 2⟩) (meth := k1m2) (c := k1c2) (by decide +kernel) rfl rfl rfl (by decide +kernel)
set_option maxRecDepth 65536 in
theorem w_c3 : (Jvm.Cond.code ({ cls := "com/example/termweave/termweave/index/IndexFormatPutVarLongPinLaw", name := "at", desc := "([BIIIJB)Z" } : Jvm.MethodName) method_4_code (10 : Nat) (Option.some Jvm.ClassFile.FieldType.boolean)).before args0 about1 = true := code_word (m := ⟨1, 3⟩) (meth := k1m3) (c := k1c3) (by decide +kernel) rfl rfl rfl (by decide +kernel)
def codes1 : List Jvm.Cond := [Jvm.Cond.code x code maxLocals ret, Jvm.Cond.code ({ cls := "com/example/termweave/termweave/index/IndexFormat", name := "putVarLong", desc := "([BIJ)I" } : Jvm.MethodName) prog_86_method_8_code (7 : Nat) (Option.some Jvm.ClassFile.FieldType.int), Jvm.Cond.code ({ cls := "com/example/termweave/termweave/index/IndexFormatPutVarLongPinLaw", name := "len", desc := "(J)I" } : Jvm.MethodName) method_3_code (3 : Nat) (Option.some Jvm.ClassFile.FieldType.int), Jvm.Cond.code ({ cls := "com/example/termweave/termweave/index/IndexFormatPutVarLongPinLaw", name := "at", desc := "([BIIIJB)Z" } : Jvm.MethodName) method_4_code (10 : Nat) (Option.some Jvm.ClassFile.FieldType.boolean)]
set_option maxRecDepth 65536 in
theorem codes_eq : words1.filter isCode = codes1 := rfl
theorem w_codes : ∀ c ∈ words1.filter isCode, c.before args0 about1 = true := by
  rw [codes_eq]
  intro c hc
  simp only [codes1, List.mem_cons, List.not_mem_nil, or_false] at hc
  rcases hc with rfl | rfl | rfl | rfl
  · exact w_c0
  · exact w_c1
  · exact w_c2
  · exact w_c3
set_option maxRecDepth 65536 in
theorem w_t1 : words1.all (fun c => isCode c || c.before args0 about1) = true := by decide +kernel
theorem w_tables : (allAtoms (Jvm.Cond.code x code maxLocals ret :: tables_1)).before args0 about1 = true := by
  rw [allAtoms_all]
  show words1.all (fun c => c.before args0 about1) = true
  refine all_split ?_ w_codes
  rw [w_t1]
set_option maxRecDepth 65536 in
theorem w_case : (Jvm.Cond.and given_1 narrow_1).before args0 about1 = true := by decide +kernel
theorem w_applies : (headSpec (Jvm.Cond.code x code maxLocals ret :: tables_1) room_1).applies x e0.platform about1 = true :=
  (Spec.applies_iff w_frames).mpr ⟨w_running, w_runnable, w_alone, w_named, w_hears, w_ripe, w_room, w_tables⟩
theorem atStart : AtStart classFile x code maxLocals ret World_1 tables_1 room_1 Calls_1 rest_1 Pre_1 launch0 p0 e0 about1 theMethod args0 below0 :=
  ⟨lists_1, trivial, launch0.admits_env _ _ _, launch0.least_env, fairChoices_fair.cas, fairChoices_fair.clock, w_frames, w_args, w_heap, w_applies, trivial, trivial, w_case⟩
end start1
theorem witness_1 : WitnessClaimed_1 := ⟨start1.p0, start1.e0, start1.about1, start1.theMethod, start1.args0, start1.below0, start1.atStart⟩
end Jvm.Pilot.@@N@@
