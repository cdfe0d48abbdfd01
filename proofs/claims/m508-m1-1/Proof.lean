import JvmDerived
import JvmDerived.Pilot.@@N@@Statement
import JvmDerived.Pilot.@@N@@Code
set_option linter.unusedVariables false
set_option linter.unusedSimpArgs false
namespace Jvm.RoadKit
open Sem ClassFile Op Lib Jvm.Stand Jvm.Free Jvm.LawKit
section New
variable {p : Program} {l : Launch} {e : Env} {R : Room} {s : State} {m : MethodId} {args : Array Value} {below : List Frame} {meth : Method} {c : Code} {T : State} {locs : List Loc} {cells slots : Nat}
theorem retI (X : Stand p l e R s m args below meth c T locs cells slots) (hx : p.tables.exec = Jvm.exec) {pc : Nat} {Ls : Array Slot} {z : Int32} {rest : List Value} (hret : meth.sig.returnType = some .int) (hd : decode c.code pc = .ok (.ireturn, 1)) {fs : List Frame}
    (hl : ∀ (f : JFrame) (acts : List Action), f.method = m → f.locked = none → f.entered = [] → (doReturn e (T.setTop f) acts (some (.int z))).1 = T.setFrames fs) : Steps p.tables e below (T.setTop (mkF m pc Ls (.int z :: rest))) (T.setFrames fs) := by
  have hm' : T.vm.method? m = some meth := X.method'
  have hn : narrow .int (.int z) = .int z := rfl
  show Steps p.tables e below (T.setTop { method := m, pc := pc, locals := Ls, stack := _ :: rest, locked := none }) _
  jvm_step X.here [X.here.top, hx, hd, hm', hret, hn]
  first | (intro acts; rw [hl _ acts rfl rfl rfl]) | rw [hl _ _ rfl rfl rfl]
  exact Steps.refl _
end New
end Jvm.RoadKit
@@BLOCK:NumsL.lean.txt@@
namespace Jvm.Pilot.@@N@@
open Jvm Jvm.ClassFile Sem Op Lib Jvm.Free Jvm.Stand Jvm.LawKit Jvm.RoadKit Bundle Jvm.Pilot.@@N@@.Jvm.D
/-! own: an array by its places -/
def own_A (Z : State) (h : Heap) (a : Addr) (ty : FieldType) (N : Nat) (f : Nat → Value) : Prop := ∃ c : Cell, Arr Z h a c ty ∧ c.slots.size = N ∧ ∀ j, j < N → c.slots[j]? = some (f j)
def own_set (f : Nat → Value) (j : Nat) (v : Value) : Nat → Value := fun i => if i = j then v else f i
section OwnArr
variable {Z : State} {h h' : Heap} {a b : Addr} {ty : FieldType} {N : Nat} {f g : Nat → Value}
theorem own_A.ext (A : own_A Z h a ty N f) (E : Ext h h') : own_A Z h' a ty N f := by obtain ⟨c, x, r⟩ := A; exact ⟨c, x.ext E, r⟩
theorem own_A.other {sl : Nat} {v : Value} (A : own_A Z h b ty N f) (W : Wr h h' a sl v) (q : b ≠ a) : own_A Z h' b ty N f := by obtain ⟨c, x, r⟩ := A; exact ⟨c, x.other W q, r⟩
theorem own_A.keep {ws : List Addr} (A : own_A Z h a ty N f) (K : Keep h h' ws) (q : a ∉ ws) : own_A Z h' a ty N f := by obtain ⟨c, x, r⟩ := A; exact ⟨c, ⟨K.2.1 a c x.1 q, x.2⟩, r⟩
theorem own_A.lt (A : own_A Z h a ty N f) : a < h.size := by obtain ⟨c, x, -⟩ := A; exact x.lt
theorem own_A.congr (A : own_A Z h a ty N f) (q : ∀ j, j < N → f j = g j) : own_A Z h a ty N g := by obtain ⟨c, x, s, H⟩ := A; exact ⟨c, x, s, fun j hj => by rw [H j hj, q j hj]⟩
theorem own_A.new {k : ClassId} {z : Int32} (x : Arr Z h a (newA k ty z) ty) (hz : z.toNatClampNeg = N) : own_A Z h a ty N (fun _ => defaultValue ty) := ⟨_, x, by rw [sz_new]; exact hz, fun j hj => by rw [← hz] at hj; simp [newA, hj]⟩
theorem own_A.set {n : Nat} {v : Value} (A : own_A Z h a ty N f) (W : Wr h h' a n v) (hn : n < N) : own_A Z h' a ty N (own_set f n v) := by
  obtain ⟨c, x, s, H⟩ := A
  refine ⟨_, x.same W, by rw [sz_set]; exact s, fun j hj => ?_⟩
  show (c.slots.setIfInBounds n v)[j]? = _
  by_cases q : j = n
  · subst q; simp [own_set, s, hn]
  · rw [Array.getElem?_setIfInBounds_ne (fun z => q z.symm), H j hj, own_set, if_neg q]
theorem own_natC (n : Nat) (hn : n < 2 ^ 31) : (Int32.ofNat n).toNatClampNeg = n := by
  rw [Int32.toNatClampNeg, Int32.toInt_ofNat_of_lt hn]; rfl
theorem own_in {c : Cell} {n : Nat} (s : c.slots.size = N) (hn : n < N) (hN : N < 2 ^ 31) : ¬ (Int32.ofNat n < 0 ∨ c.slots.size ≤ (Int32.ofNat n).toNatClampNeg) := by
  rw [own_natC n (by omega), s, Int32.lt_iff_toInt_lt, Int32.toInt_ofNat_of_lt (by omega)]
  simp only [Int32.toInt_zero]
  omega
end OwnArr
/-! own: a forest over four vertices, and labels -/
def own_seti (f : Nat → Int32) (j : Nat) (v : Int32) : Nat → Int32 := fun i => if i = j then v else f i
/-- the forest p with labels: roots hold a negative number (at least -B), the others a vertex of the same label, nearer by d; two roots have two labels -/
def own_I (B : Int) (p lab : Nat → Int32) (d : Nat → Nat) : Prop :=
  (∀ i, i < 4 → (p i).toInt < 4 ∧ -B ≤ (p i).toInt) ∧ (∀ i, i < 4 → 0 ≤ (p i).toInt → d (p i).toInt.toNat < d i ∧ lab (p i).toInt.toNat = lab i) ∧
  ∀ i j, i < 4 → j < 4 → (p i).toInt < 0 → (p j).toInt < 0 → lab i = lab j → i = j
def own_same (p p' : Nat → Int32) : Prop := ∀ i, i < 4 → (p i).toInt < 0 → p' i = p i
def own_merge (lab : Nat → Int32) (x y : Nat) : Nat → Int32 := fun i => if lab i = lab y then lab x else lab i
theorem own_val {B : Int} {p lab : Nat → Int32} {d : Nat → Nat} (h : own_I B p lab d) {c : Nat} (hc : c < 4) (hp : ¬ (p c).toInt < 0) : ∃ u, u < 4 ∧ p c = Int32.ofNat u ∧ d u < d c ∧ lab u = lab c := by
  have h1 := h.1 c hc
  obtain ⟨h2, h3⟩ := h.2.1 c hc (by omega)
  refine ⟨(p c).toInt.toNat, by omega, Int32.toInt_inj.mp ?_, h2, h3⟩
  rw [Int32.toInt_ofNat_of_lt (by omega)]
  omega
theorem own_neg (x : Int32) : x < 0 ↔ x.toInt < 0 := by rw [Int32.lt_iff_toInt_lt, Int32.toInt_zero]
theorem own_ofNeg (u : Nat) (hu : u < 4) : ¬ (Int32.ofNat u < 0) := by
  rw [own_neg, Int32.toInt_ofNat_of_lt (by omega)]; omega
theorem own_toNat (u : Nat) (hu : u < 4) : (Int32.ofNat u).toInt = u := Int32.toInt_ofNat_of_lt (by omega)
/-- the path halved at c -/
theorem own_half {B : Int} (hB : 0 ≤ B) {p lab : Nat → Int32} {d : Nat → Nat} (h : own_I B p lab d) {c u w : Nat} (hc : c < 4) (hu : u < 4) (hw : w < 4) (e1 : p c = Int32.ofNat u) (e2 : p u = Int32.ofNat w) (d1 : d u < d c) (d2 : d w < d u) (l1 : lab u = lab c) (l2 : lab w = lab u) :
    own_I B (own_seti p c (Int32.ofNat w)) lab d ∧ own_same p (own_seti p c (Int32.ofNat w)) := by
  have tw := own_toNat w hw
  have tu := own_toNat u hu
  refine ⟨⟨fun i hi => ?_, fun i hi q => ?_, fun i j hi hj q1 q2 q3 => ?_⟩, fun i hi q => ?_⟩
  · by_cases z : i = c
    · rw [own_seti, if_pos z, tw]; omega
    · rw [own_seti, if_neg z]; exact h.1 i hi
  · by_cases z : i = c
    · rw [own_seti, if_pos z, tw, z] at *
      rw [Int.toNat_natCast]
      exact ⟨by omega, l2.trans l1⟩
    · rw [own_seti, if_neg z] at q ⊢; exact h.2.1 i hi q
  · have z1 : i ≠ c := fun z => by rw [own_seti, if_pos z, tw] at q1; omega
    have z2 : j ≠ c := fun z => by rw [own_seti, if_pos z, tw] at q2; omega
    rw [own_seti, if_neg z1] at q1
    rw [own_seti, if_neg z2] at q2
    exact h.2.2 i j hi hj q1 q2 q3
  · have z : i ≠ c := fun z => by rw [z, e1, tu] at q; omega
    rw [own_seti, if_neg z]
theorem own_same.trans {p q r : Nat → Int32} (h1 : own_same p q) (h2 : own_same q r) : own_same p r := fun i hi z => by
  have e := h1 i hi z
  rw [h2 i hi (by rw [e]; exact z), e]
/-- two roots joined: s goes under t -/
theorem own_link {B : Int} (hB : B ≤ 1000) {p lab : Nat → Int32} {d : Nat → Nat} (h : own_I B p lab d) {t s x y : Nat} (ht : t < 4) (hs : s < 4) (hne : t ≠ s) (pt : (p t).toInt < 0) (ps : (p s).toInt < 0)
    (hl : (lab t = lab x ∧ lab s = lab y) ∨ (lab t = lab y ∧ lab s = lab x)) :
    own_I (2 * B) (own_seti (own_seti p t (p t + p s)) s (Int32.ofNat t)) (own_merge lab x y) (fun i => if lab i = lab s then d i + d t + 1 else d i) := by
  have tt := own_toNat t ht
  have bt := h.1 t ht
  have bs := h.1 s hs
  have sum : (p t + p s).toInt = (p t).toInt + (p s).toInt := Jvm.Kit.i32_add (by omega) (by omega)
  have lne : lab t ≠ lab s := fun z => hne (h.2.2 t s ht hs pt ps z)
  have vs : own_seti (own_seti p t (p t + p s)) s (Int32.ofNat t) s = Int32.ofNat t := by rw [own_seti, if_pos rfl]
  have vt : own_seti (own_seti p t (p t + p s)) s (Int32.ofNat t) t = p t + p s := by rw [own_seti, if_neg hne, own_seti, if_pos rfl]
  have vo : ∀ i, i ≠ s → i ≠ t → own_seti (own_seti p t (p t + p s)) s (Int32.ofNat t) i = p i := fun i h1 h2 => by rw [own_seti, if_neg h1, own_seti, if_neg h2]
  have mst : own_merge lab x y t = own_merge lab x y s ∧ own_merge lab x y t = lab x := by
    unfold own_merge
    rcases hl with ⟨a, b⟩ | ⟨a, b⟩
    · rw [a, b, if_pos rfl]
      by_cases q : lab x = lab y
      · rw [if_pos q]; exact ⟨rfl, rfl⟩
      · rw [if_neg q]; exact ⟨rfl, rfl⟩
    · rw [a, b, if_pos rfl]
      by_cases q : lab x = lab y
      · rw [if_pos q]; exact ⟨rfl, rfl⟩
      · rw [if_neg q]; exact ⟨rfl, rfl⟩
  generalize hP : own_seti (own_seti p t (p t + p s)) s (Int32.ofNat t) = P at *
  have other : ∀ j, j < 4 → j ≠ s → j ≠ t → (P j).toInt < 0 → own_merge lab x y j = lab j ∧ lab j ≠ lab t ∧ lab j ≠ lab s := fun j hj h1 h2 q => by
    rw [vo j h1 h2] at q
    have a1 : lab j ≠ lab t := fun z => h2 (h.2.2 j t hj ht q pt z)
    have a2 : lab j ≠ lab s := fun z => h1 (h.2.2 j s hj hs q ps z)
    refine ⟨?_, a1, a2⟩
    rw [own_merge, if_neg]
    rcases hl with ⟨a, b⟩ | ⟨a, b⟩
    · rw [← b]; exact a2
    · rw [← a]; exact a1
  have xin : lab x = lab t ∨ lab x = lab s := by
    rcases hl with ⟨a, b⟩ | ⟨a, b⟩
    · exact Or.inl a.symm
    · exact Or.inr b.symm
  refine ⟨fun i hi => ?_, fun i hi q => ?_, fun i j hi hj q1 q2 q3 => ?_⟩
  · by_cases z1 : i = s
    · subst z1; rw [vs, tt]; omega
    · by_cases z2 : i = t
      · subst z2; rw [vt, sum]; omega
      · rw [vo i z1 z2]; have := h.1 i hi; omega
  · by_cases z1 : i = s
    · subst z1
      rw [vs, tt, Int.toNat_natCast]
      refine ⟨?_, mst.1⟩
      simp only [if_true]
      rw [if_neg lne]; omega
    · by_cases z2 : i = t
      · subst z2; rw [vt, sum] at q; omega
      · rw [vo i z1 z2] at q ⊢
        obtain ⟨g1, g2⟩ := h.2.1 i hi q
        refine ⟨?_, by rw [own_merge, own_merge, g2]⟩
        simp only [g2]
        by_cases z : lab i = lab s
        · rw [if_pos z, if_pos z]; omega
        · rw [if_neg z, if_neg z]; omega
  · have ns : ∀ i, i = s → ¬ (P i).toInt < 0 := fun i z q => by rw [z, vs, tt] at q; omega
    have i1 : i ≠ s := fun z => ns i z q1
    have j1 : j ≠ s := fun z => ns j z q2
    by_cases i2 : i = t
    · by_cases j2 : j = t
      · rw [i2, j2]
      · obtain ⟨a1, a2, a3⟩ := other j hj j1 j2 q2
        rw [i2, mst.2, a1] at q3
        rcases xin with z | z
        · exact absurd (q3.symm.trans z) a2
        · exact absurd (q3.symm.trans z) a3
    · obtain ⟨a1, a2, a3⟩ := other i hi i1 i2 q1
      by_cases j2 : j = t
      · rw [j2, mst.2, a1] at q3
        rcases xin with z | z
        · exact absurd (q3.trans z) a2
        · exact absurd (q3.trans z) a3
      · obtain ⟨b1, b2, b3⟩ := other j hj j1 j2 q2
        rw [a1, b1] at q3
        rw [vo i i1 i2] at q1
        rw [vo j j1 j2] at q2
        exact h.2.2 i j hi hj q1 q2 q3
/-- x and y had one root: nothing is to be done -/
theorem own_one {B : Int} (hB : 0 ≤ B) {p lab : Nat → Int32} {d : Nat → Nat} (h : own_I B p lab d) {x y : Nat} (e : lab x = lab y) : own_I (2 * B) p (own_merge lab x y) d := by
  have q : own_merge lab x y = lab := by
    funext i
    rw [own_merge]
    by_cases z : lab i = lab y
    · rw [if_pos z, e, z]
    · rw [if_neg z]
  rw [q]
  exact ⟨fun i hi => by have := h.1 i hi; omega, h.2⟩
theorem own_init : own_I 1 (fun j => if j < 4 then -1 else 0) (fun j => Int32.ofNat j) (fun _ => 0) := by
  refine ⟨fun i hi => ?_, fun i hi q => ?_, fun i j hi hj _ _ q => ?_⟩
  · show (if i < 4 then (-1 : Int32) else 0).toInt < 4 ∧ -1 ≤ (if i < 4 then (-1 : Int32) else 0).toInt
    rw [if_pos hi]; decide
  · have : (if i < 4 then (-1 : Int32) else 0).toInt = -1 := by rw [if_pos hi]; rfl
    have q' : 0 ≤ (if i < 4 then (-1 : Int32) else 0).toInt := q
    omega
  · have := congrArg Int32.toInt q
    rw [own_toNat i hi, own_toNat j hj] at this
    omega
/-! own: an int array, and the object with its array -/
def own_P (Z : State) (h : Heap) (a : Addr) (N : Nat) (f : Nat → Int32) : Prop := own_A Z h a .int N (fun j => .int (f j))
theorem own_P.store {Z : State} {h h' : Heap} {a : Addr} {N : Nat} {f : Nat → Int32} {n : Nat} {v : Int32} (A : own_P Z h a N f) (W : Wr h h' a (Int32.ofNat n).toNatClampNeg (.int v)) (hn : n < N) (hN : N < 2 ^ 31) : own_P Z h' a N (own_seti f n v) := by
  rw [own_natC n (by omega)] at W
  refine (own_A.set A W hn).congr fun j hj => ?_
  show (if j = n then _ else _) = Value.int (if j = n then _ else _)
  by_cases q : j = n
  · rw [if_pos q, if_pos q]
  · rw [if_neg q, if_neg q]
theorem own_P.congr {Z : State} {h : Heap} {a : Addr} {N : Nat} {f g : Nat → Int32} (A : own_P Z h a N f) (q : ∀ j, j < N → f j = g j) : own_P Z h a N g := own_A.congr A fun j hj => by show Value.int (f j) = Value.int (g j); rw [q j hj]
theorem own_at {c : Cell} {N : Nat} {f : Nat → Int32} (H : ∀ j, j < N → c.slots[j]? = some ((fun j => Value.int (f j)) j)) {n : Nat} (hn : n < N) (hN : N < 2 ^ 31) {v : Int32} (e : f n = v) : c.slots[(Int32.ofNat n).toNatClampNeg]? = some (.int v) := by
  rw [own_natC n (by omega), H n hn]; show some (Value.int (f n)) = _; rw [e]
def own_C (Z : State) (h : Heap) (n0 : Nat) (b pa : Addr) (p : Nat → Int32) : Prop := Exa Z h b "com/example/allotree/allotree/Components" ∧ Fld Z h b "com/example/allotree/allotree/Components" "parent" "[I" (.ref pa) ∧ own_P Z h pa 16 p ∧ n0 ≤ pa ∧ b ≠ pa
theorem own_C.keep {Z : State} {h h' : Heap} {n0 : Nat} {b pa : Addr} {p : Nat → Int32} {ws : List Addr} (X : own_C Z h n0 b pa p) (K : Keep h h' ws) (q1 : b ∉ ws) (q2 : pa ∉ ws) : own_C Z h' n0 b pa p := ⟨X.1.keep K, X.2.1.keep K q1, own_A.keep X.2.2.1 K q2, X.2.2.2⟩
theorem own_C.ext {Z : State} {h h' : Heap} {n0 : Nat} {b pa : Addr} {p : Nat → Int32} (X : own_C Z h n0 b pa p) (E : Ext h h') : own_C Z h' n0 b pa p := ⟨X.1.ext E, X.2.1.ext E, own_A.ext X.2.2.1 E, X.2.2.2⟩
theorem own_C.store {Z : State} {h h' : Heap} {n0 : Nat} {b pa : Addr} {p : Nat → Int32} {n : Nat} {v : Int32} (X : own_C Z h n0 b pa p) (W : Wr h h' pa (Int32.ofNat n).toNatClampNeg (.int v)) (hn : n < 16) : own_C Z h' n0 b pa (own_seti p n v) := ⟨X.1.wr W, X.2.1.other W (Or.inl X.2.2.2.2), own_P.store X.2.2.1 W hn (by omega), X.2.2.2⟩
theorem own_os {b : Addr} {v c x : Int32} {s3 : Slot} (h : One s3) : storeLocals #[.val (.ref b), .val (.int v), .val (.int c), s3] 3 (.int x) = some #[.val (.ref b), .val (.int v), .val (.int c), .val (.int x)] := by
  rcases h with rfl | ⟨w, rfl, hw⟩
  · rfl
  · cases w <;> first | rfl | (simp [Value.category] at hw)
theorem d7_0 : decode prog_2_method_3_code 0 = .ok (.iload_n 1, 1) := by decide +kernel
theorem d7_1 : decode prog_2_method_3_code 1 = .ok (.istore_n 2, 1) := by decide +kernel
theorem d7_2 : decode prog_2_method_3_code 2 = .ok (.aload_n 0, 1) := by decide +kernel
theorem d7_3 : decode prog_2_method_3_code 3 = .ok (.getfield 7, 3) := by decide +kernel
theorem d7_6 : decode prog_2_method_3_code 6 = .ok (.iload_n 2, 1) := by decide +kernel
theorem d7_7 : decode prog_2_method_3_code 7 = .ok (.iaload, 1) := by decide +kernel
theorem d7_8 : decode prog_2_method_3_code 8 = .ok (.ifCond .lt 41, 3) := by decide +kernel
theorem d7_11 : decode prog_2_method_3_code 11 = .ok (.aload_n 0, 1) := by decide +kernel
theorem d7_12 : decode prog_2_method_3_code 12 = .ok (.getfield 7, 3) := by decide +kernel
theorem d7_15 : decode prog_2_method_3_code 15 = .ok (.iload_n 2, 1) := by decide +kernel
theorem d7_16 : decode prog_2_method_3_code 16 = .ok (.iaload, 1) := by decide +kernel
theorem d7_17 : decode prog_2_method_3_code 17 = .ok (.istore_n 3, 1) := by decide +kernel
theorem d7_18 : decode prog_2_method_3_code 18 = .ok (.aload_n 0, 1) := by decide +kernel
theorem d7_19 : decode prog_2_method_3_code 19 = .ok (.getfield 7, 3) := by decide +kernel
theorem d7_22 : decode prog_2_method_3_code 22 = .ok (.iload_n 3, 1) := by decide +kernel
theorem d7_23 : decode prog_2_method_3_code 23 = .ok (.iaload, 1) := by decide +kernel
theorem d7_24 : decode prog_2_method_3_code 24 = .ok (.ifCond .lt 15, 3) := by decide +kernel
theorem d7_27 : decode prog_2_method_3_code 27 = .ok (.aload_n 0, 1) := by decide +kernel
theorem d7_28 : decode prog_2_method_3_code 28 = .ok (.getfield 7, 3) := by decide +kernel
theorem d7_31 : decode prog_2_method_3_code 31 = .ok (.iload_n 2, 1) := by decide +kernel
theorem d7_32 : decode prog_2_method_3_code 32 = .ok (.aload_n 0, 1) := by decide +kernel
theorem d7_33 : decode prog_2_method_3_code 33 = .ok (.getfield 7, 3) := by decide +kernel
theorem d7_36 : decode prog_2_method_3_code 36 = .ok (.iload_n 3, 1) := by decide +kernel
theorem d7_37 : decode prog_2_method_3_code 37 = .ok (.iaload, 1) := by decide +kernel
theorem d7_38 : decode prog_2_method_3_code 38 = .ok (.iastore, 1) := by decide +kernel
theorem d7_39 : decode prog_2_method_3_code 39 = .ok (.aload_n 0, 1) := by decide +kernel
theorem d7_40 : decode prog_2_method_3_code 40 = .ok (.getfield 7, 3) := by decide +kernel
theorem d7_43 : decode prog_2_method_3_code 43 = .ok (.iload_n 2, 1) := by decide +kernel
theorem d7_44 : decode prog_2_method_3_code 44 = .ok (.iaload, 1) := by decide +kernel
theorem d7_45 : decode prog_2_method_3_code 45 = .ok (.istore_n 2, 1) := by decide +kernel
theorem d7_46 : decode prog_2_method_3_code 46 = .ok (.goto (-44), 3) := by decide +kernel
theorem d7_49 : decode prog_2_method_3_code 49 = .ok (.iload_n 2, 1) := by decide +kernel
theorem d7_50 : decode prog_2_method_3_code 50 = .ok (.ireturn, 1) := by decide +kernel
theorem pn_7 : plainName "com/example/allotree/allotree/Components" = true := by first | (simp [plainName, overriddenIn]; done) | decide +kernel
theorem ef_7 (m : MethodId) (x0 : Addr) (x1 : Int32) : entryFrame m #[(.ref x0), (.int x1)] 4 = mkF m 0 #[.val (.ref x0), .val (.int x1), .unset, .unset] [] := by first | (simp [entryFrame, mkF, argsToLocals, Value.category]; done) | rfl
def Q7 (Z : State) (b pa : Addr) (vx : Nat) (p lab : Nat → Int32) (d : Nat → Nat) (B : Int) (h0 : Heap) (n0 : Nat) (v : Option Value) (h : Heap) (L : List Loc) : Prop := Fr n0 L ∧ n0 ≤ h.size ∧ Keep h0 h [pa] ∧ ∃ (p' : Nat → Int32) (rr : Nat), v = some (.int (Int32.ofNat rr)) ∧ rr < 4 ∧ (p' rr).toInt < 0 ∧ lab rr = lab vx ∧ own_C Z h n0 b pa p' ∧ own_I B p' lab d ∧ own_same p p'
set_option maxRecDepth 65536 in
set_option maxHeartbeats 40000000 in
theorem own_f_leave {p : Program} {l : Launch} {e : Env} {R : Room} {s : State} {m : MethodId} {args : Array Value} {below : List Frame} {meth : Method} {c : Code} {T0 : State} {locs : List Loc} {cells slots : Nat} {Z : State} {a0 : Array Value} {n0 : Nat} {b pa : Addr} {vv : Int32} {cc : Nat} {q : Nat → Int32} {s3 : Slot}
    (X0 : Stand p l e R s m args below meth c T0 locs cells slots) (hx : p.tables.exec = Jvm.exec) (hZ : Z.Warmed39 s.vm) (hw : ∀ d ∈ tables_1, d.before a0 Z = true) (hby : c.code = prog_2_method_3_code) (hown : s.vm.findClass "com/example/allotree/allotree/Components" = some m.cls) (hC : own_C Z T0.heap n0 b pa q) (hc : cc < 4) (h : q cc < 0) :
    ∃ T', Stand p l e R s m args below meth c T' locs cells slots ∧ T'.heap = T0.heap ∧ ∀ target, Steps p.tables e below (T'.setTop (mkF m 49 #[.val (.ref b), .val (.int vv), .val (.int (Int32.ofNat cc)), s3] [])) target → Steps p.tables e below (T0.setTop (mkF m 2 #[.val (.ref b), .val (.int vv), .val (.int (Int32.ofNat cc)), s3] [])) target := by
  obtain ⟨c0, Ar0, S0, H0⟩ := id hC.2.2.1
  obtain ⟨T1, X1, e1, st1⟩ := getF X0 hx hZ hown (host := "") (Or.inl (hw _ (List.mem_of_getElem? (i := 10) rfl))) Via.refl rfl hC.2.1 (g := (mkF m 3 #[.val (.ref b), .val (.int vv), .val (.int (Int32.ofNat cc)), s3] [(.ref b)])) rfl rfl (hb hby d7_3)
  refine ⟨T1, X1, e1, fun target kt => ?_⟩
  show Steps p.tables e below (T0.setTop (mkF m 2 #[.val (.ref b), .val (.int vv), .val (.int (Int32.ofNat cc)), s3] [])) _
  refine XS.aloadN X0.here hx rfl (hb hby d7_2) rfl rfl ?_
  show Steps p.tables e below (T0.setTop (mkF m 3 #[.val (.ref b), .val (.int vv), .val (.int (Int32.ofNat cc)), s3] [(.ref b)])) _
  refine st1 _ ?_
  show Steps p.tables e below (T1.setTop (mkF m 6 #[.val (.ref b), .val (.int vv), .val (.int (Int32.ofNat cc)), s3] [(.ref pa)])) _
  refine XS.iloadN X1.here hx rfl (hb hby d7_6) rfl ?_
  show Steps p.tables e below (T1.setTop (mkF m 7 #[.val (.ref b), .val (.int vv), .val (.int (Int32.ofNat cc)), s3] [(.int (Int32.ofNat cc)), (.ref pa)])) _
  refine X1.iaload hx (j := (Int32.ofNat cc)) (v := (.int (q cc))) (by rw [e1]; exact Ar0.1) (State.isArrayOf_alike hZ.alike Ar0.2.1) Ar0.2.2 (own_in S0 (by omega) (by omega)) (own_at H0 (by omega) (by omega) rfl) (g := (mkF m 7 #[.val (.ref b), .val (.int vv), .val (.int (Int32.ofNat cc)), s3] [(.int (Int32.ofNat cc)), (.ref pa)])) rfl rfl (hb hby d7_7) _ ?_
  show Steps p.tables e below (T1.setTop (mkF m 8 #[.val (.ref b), .val (.int vv), .val (.int (Int32.ofNat cc)), s3] [(.int (q cc))])) _
  refine XS.ifYes X1.here hx rfl (pc0 := 8) (pc' := 49) rfl (hb hby d7_8) rfl ((if0 _ _).trans (tlt h).1) (by decide) (by decide) ?_
  exact kt
set_option maxRecDepth 65536 in
set_option maxHeartbeats 40000000 in
theorem own_f_turnA {p : Program} {l : Launch} {e : Env} {R : Room} {s : State} {m : MethodId} {args : Array Value} {below : List Frame} {meth : Method} {c : Code} {T0 : State} {locs : List Loc} {cells slots : Nat} {Z : State} {a0 : Array Value} {n0 : Nat} {b pa : Addr} {vv : Int32} {cc : Nat} {q : Nat → Int32} {s3 : Slot} {u : Nat}
    (X0 : Stand p l e R s m args below meth c T0 locs cells slots) (hx : p.tables.exec = Jvm.exec) (hZ : Z.Warmed39 s.vm) (hw : ∀ d ∈ tables_1, d.before a0 Z = true) (hby : c.code = prog_2_method_3_code) (hown : s.vm.findClass "com/example/allotree/allotree/Components" = some m.cls) (hC : own_C Z T0.heap n0 b pa q) (hc : cc < 4) (hs3 : One s3) (hu : u < 4) (hq : q cc = Int32.ofNat u) (h : q u < 0) :
    ∃ T', Stand p l e R s m args below meth c T' locs cells slots ∧ T'.heap = T0.heap ∧ ∀ target, Steps p.tables e below (T'.setTop (mkF m 2 #[.val (.ref b), .val (.int vv), .val (.int (Int32.ofNat u)), .val (.int (Int32.ofNat u))] [])) target → Steps p.tables e below (T0.setTop (mkF m 2 #[.val (.ref b), .val (.int vv), .val (.int (Int32.ofNat cc)), s3] [])) target := by
  obtain ⟨c0, Ar0, S0, H0⟩ := id hC.2.2.1
  obtain ⟨T1, X1, e1, st1⟩ := getF X0 hx hZ hown (host := "") (Or.inl (hw _ (List.mem_of_getElem? (i := 10) rfl))) Via.refl rfl hC.2.1 (g := (mkF m 3 #[.val (.ref b), .val (.int vv), .val (.int (Int32.ofNat cc)), s3] [(.ref b)])) rfl rfl (hb hby d7_3)
  obtain ⟨T2, X2, e2, st2⟩ := getF X1 hx hZ hown (host := "") (Or.inl (hw _ (List.mem_of_getElem? (i := 10) rfl))) Via.refl e1 hC.2.1 (g := (mkF m 12 #[.val (.ref b), .val (.int vv), .val (.int (Int32.ofNat cc)), s3] [(.ref b)])) rfl rfl (hb hby d7_12)
  obtain ⟨T3, X3, e3, st3⟩ := getF X2 hx hZ hown (host := "") (Or.inl (hw _ (List.mem_of_getElem? (i := 10) rfl))) Via.refl e2 hC.2.1 (g := (mkF m 19 #[.val (.ref b), .val (.int vv), .val (.int (Int32.ofNat cc)), .val (.int (Int32.ofNat u))] [(.ref b)])) rfl rfl (hb hby d7_19)
  obtain ⟨T4, X4, e4, st4⟩ := getF X3 hx hZ hown (host := "") (Or.inl (hw _ (List.mem_of_getElem? (i := 10) rfl))) Via.refl e3 hC.2.1 (g := (mkF m 40 #[.val (.ref b), .val (.int vv), .val (.int (Int32.ofNat cc)), .val (.int (Int32.ofNat u))] [(.ref b)])) rfl rfl (hb hby d7_40)
  refine ⟨T4, X4, e4, fun target kt => ?_⟩
  show Steps p.tables e below (T0.setTop (mkF m 2 #[.val (.ref b), .val (.int vv), .val (.int (Int32.ofNat cc)), s3] [])) _
  refine XS.aloadN X0.here hx rfl (hb hby d7_2) rfl rfl ?_
  show Steps p.tables e below (T0.setTop (mkF m 3 #[.val (.ref b), .val (.int vv), .val (.int (Int32.ofNat cc)), s3] [(.ref b)])) _
  refine st1 _ ?_
  show Steps p.tables e below (T1.setTop (mkF m 6 #[.val (.ref b), .val (.int vv), .val (.int (Int32.ofNat cc)), s3] [(.ref pa)])) _
  refine XS.iloadN X1.here hx rfl (hb hby d7_6) rfl ?_
  show Steps p.tables e below (T1.setTop (mkF m 7 #[.val (.ref b), .val (.int vv), .val (.int (Int32.ofNat cc)), s3] [(.int (Int32.ofNat cc)), (.ref pa)])) _
  refine X1.iaload hx (j := (Int32.ofNat cc)) (v := (.int (Int32.ofNat u))) (by rw [e1]; exact Ar0.1) (State.isArrayOf_alike hZ.alike Ar0.2.1) Ar0.2.2 (own_in S0 (by omega) (by omega)) (own_at H0 (by omega) (by omega) hq) (g := (mkF m 7 #[.val (.ref b), .val (.int vv), .val (.int (Int32.ofNat cc)), s3] [(.int (Int32.ofNat cc)), (.ref pa)])) rfl rfl (hb hby d7_7) _ ?_
  show Steps p.tables e below (T1.setTop (mkF m 8 #[.val (.ref b), .val (.int vv), .val (.int (Int32.ofNat cc)), s3] [(.int (Int32.ofNat u))])) _
  refine XS.ifNo X1.here hx rfl (hb hby d7_8) rfl ((if0 _ _).trans (flt (own_ofNeg u hu)).1) ?_
  show Steps p.tables e below (T1.setTop (mkF m 11 #[.val (.ref b), .val (.int vv), .val (.int (Int32.ofNat cc)), s3] [])) _
  refine XS.aloadN X1.here hx rfl (hb hby d7_11) rfl rfl ?_
  show Steps p.tables e below (T1.setTop (mkF m 12 #[.val (.ref b), .val (.int vv), .val (.int (Int32.ofNat cc)), s3] [(.ref b)])) _
  refine st2 _ ?_
  show Steps p.tables e below (T2.setTop (mkF m 15 #[.val (.ref b), .val (.int vv), .val (.int (Int32.ofNat cc)), s3] [(.ref pa)])) _
  refine XS.iloadN X2.here hx rfl (hb hby d7_15) rfl ?_
  show Steps p.tables e below (T2.setTop (mkF m 16 #[.val (.ref b), .val (.int vv), .val (.int (Int32.ofNat cc)), s3] [(.int (Int32.ofNat cc)), (.ref pa)])) _
  refine X2.iaload hx (j := (Int32.ofNat cc)) (v := (.int (Int32.ofNat u))) (by rw [e2]; exact Ar0.1) (State.isArrayOf_alike hZ.alike Ar0.2.1) Ar0.2.2 (own_in S0 (by omega) (by omega)) (own_at H0 (by omega) (by omega) hq) (g := (mkF m 16 #[.val (.ref b), .val (.int vv), .val (.int (Int32.ofNat cc)), s3] [(.int (Int32.ofNat cc)), (.ref pa)])) rfl rfl (hb hby d7_16) _ ?_
  show Steps p.tables e below (T2.setTop (mkF m 17 #[.val (.ref b), .val (.int vv), .val (.int (Int32.ofNat cc)), s3] [(.int (Int32.ofNat u))])) _
  refine XS.istoreN X2.here hx rfl (hb hby d7_17) rfl (l' := #[.val (.ref b), .val (.int vv), .val (.int (Int32.ofNat cc)), .val (.int (Int32.ofNat u))]) (own_os hs3) ?_
  show Steps p.tables e below (T2.setTop (mkF m 18 #[.val (.ref b), .val (.int vv), .val (.int (Int32.ofNat cc)), .val (.int (Int32.ofNat u))] [])) _
  refine XS.aloadN X2.here hx rfl (hb hby d7_18) rfl rfl ?_
  show Steps p.tables e below (T2.setTop (mkF m 19 #[.val (.ref b), .val (.int vv), .val (.int (Int32.ofNat cc)), .val (.int (Int32.ofNat u))] [(.ref b)])) _
  refine st3 _ ?_
  show Steps p.tables e below (T3.setTop (mkF m 22 #[.val (.ref b), .val (.int vv), .val (.int (Int32.ofNat cc)), .val (.int (Int32.ofNat u))] [(.ref pa)])) _
  refine XS.iloadN X3.here hx rfl (hb hby d7_22) rfl ?_
  show Steps p.tables e below (T3.setTop (mkF m 23 #[.val (.ref b), .val (.int vv), .val (.int (Int32.ofNat cc)), .val (.int (Int32.ofNat u))] [(.int (Int32.ofNat u)), (.ref pa)])) _
  refine X3.iaload hx (j := (Int32.ofNat u)) (v := (.int (q u))) (by rw [e3]; exact Ar0.1) (State.isArrayOf_alike hZ.alike Ar0.2.1) Ar0.2.2 (own_in S0 (by omega) (by omega)) (own_at H0 (by omega) (by omega) rfl) (g := (mkF m 23 #[.val (.ref b), .val (.int vv), .val (.int (Int32.ofNat cc)), .val (.int (Int32.ofNat u))] [(.int (Int32.ofNat u)), (.ref pa)])) rfl rfl (hb hby d7_23) _ ?_
  show Steps p.tables e below (T3.setTop (mkF m 24 #[.val (.ref b), .val (.int vv), .val (.int (Int32.ofNat cc)), .val (.int (Int32.ofNat u))] [(.int (q u))])) _
  refine XS.ifYes X3.here hx rfl (pc0 := 24) (pc' := 39) rfl (hb hby d7_24) rfl ((if0 _ _).trans (tlt h).1) (by decide) (by decide) ?_
  show Steps p.tables e below (T3.setTop (mkF m 39 #[.val (.ref b), .val (.int vv), .val (.int (Int32.ofNat cc)), .val (.int (Int32.ofNat u))] [])) _
  refine XS.aloadN X3.here hx rfl (hb hby d7_39) rfl rfl ?_
  show Steps p.tables e below (T3.setTop (mkF m 40 #[.val (.ref b), .val (.int vv), .val (.int (Int32.ofNat cc)), .val (.int (Int32.ofNat u))] [(.ref b)])) _
  refine st4 _ ?_
  show Steps p.tables e below (T4.setTop (mkF m 43 #[.val (.ref b), .val (.int vv), .val (.int (Int32.ofNat cc)), .val (.int (Int32.ofNat u))] [(.ref pa)])) _
  refine XS.iloadN X4.here hx rfl (hb hby d7_43) rfl ?_
  show Steps p.tables e below (T4.setTop (mkF m 44 #[.val (.ref b), .val (.int vv), .val (.int (Int32.ofNat cc)), .val (.int (Int32.ofNat u))] [(.int (Int32.ofNat cc)), (.ref pa)])) _
  refine X4.iaload hx (j := (Int32.ofNat cc)) (v := (.int (Int32.ofNat u))) (by rw [e4]; exact Ar0.1) (State.isArrayOf_alike hZ.alike Ar0.2.1) Ar0.2.2 (own_in S0 (by omega) (by omega)) (own_at H0 (by omega) (by omega) hq) (g := (mkF m 44 #[.val (.ref b), .val (.int vv), .val (.int (Int32.ofNat cc)), .val (.int (Int32.ofNat u))] [(.int (Int32.ofNat cc)), (.ref pa)])) rfl rfl (hb hby d7_44) _ ?_
  show Steps p.tables e below (T4.setTop (mkF m 45 #[.val (.ref b), .val (.int vv), .val (.int (Int32.ofNat cc)), .val (.int (Int32.ofNat u))] [(.int (Int32.ofNat u))])) _
  refine XS.istoreN X4.here hx rfl (hb hby d7_45) rfl (l' := #[.val (.ref b), .val (.int vv), .val (.int (Int32.ofNat u)), .val (.int (Int32.ofNat u))]) rfl ?_
  show Steps p.tables e below (T4.setTop (mkF m 46 #[.val (.ref b), .val (.int vv), .val (.int (Int32.ofNat u)), .val (.int (Int32.ofNat u))] [])) _
  refine XS.goto X4.here hx rfl (pc0 := 46) (pc' := 2) rfl (hb hby d7_46) (by decide) (by decide) ?_
  exact kt
set_option maxRecDepth 65536 in
set_option maxHeartbeats 40000000 in
theorem own_f_turnB {p : Program} {l : Launch} {e : Env} {R : Room} {s : State} {m : MethodId} {args : Array Value} {below : List Frame} {meth : Method} {c : Code} {T0 : State} {locs : List Loc} {cells slots : Nat} {Z : State} {a0 : Array Value} {n0 : Nat} {b pa : Addr} {vv : Int32} {cc : Nat} {q : Nat → Int32} {s3 : Slot} {u x : Nat}
    (X0 : Stand p l e R s m args below meth c T0 locs cells slots) (hx : p.tables.exec = Jvm.exec) (hZ : Z.Warmed39 s.vm) (hw : ∀ d ∈ tables_1, d.before a0 Z = true) (hby : c.code = prog_2_method_3_code) (hown : s.vm.findClass "com/example/allotree/allotree/Components" = some m.cls) (hC : own_C Z T0.heap n0 b pa q) (hc : cc < 4) (N0 : Fr n0 locs) (hs3 : One s3) (hu : u < 4) (hx4 : x < 4) (hq : q cc = Int32.ofNat u) (hq2 : q u = Int32.ofNat x) :
    ∃ (T' : State) (locs' : List Loc), Stand p l e R s m args below meth c T' locs' cells slots ∧ Fr n0 locs' ∧ Keep T0.heap T'.heap [pa] ∧ own_C Z T'.heap n0 b pa (own_seti q cc (Int32.ofNat x)) ∧ ∀ target, Steps p.tables e below (T'.setTop (mkF m 2 #[.val (.ref b), .val (.int vv), .val (.int (Int32.ofNat x)), .val (.int (Int32.ofNat u))] [])) target → Steps p.tables e below (T0.setTop (mkF m 2 #[.val (.ref b), .val (.int vv), .val (.int (Int32.ofNat cc)), s3] [])) target := by
  obtain ⟨c0, Ar0, S0, H0⟩ := id hC.2.2.1
  obtain ⟨T1, X1, e1, st1⟩ := getF X0 hx hZ hown (host := "") (Or.inl (hw _ (List.mem_of_getElem? (i := 10) rfl))) Via.refl rfl hC.2.1 (g := (mkF m 3 #[.val (.ref b), .val (.int vv), .val (.int (Int32.ofNat cc)), s3] [(.ref b)])) rfl rfl (hb hby d7_3)
  obtain ⟨T2, X2, e2, st2⟩ := getF X1 hx hZ hown (host := "") (Or.inl (hw _ (List.mem_of_getElem? (i := 10) rfl))) Via.refl e1 hC.2.1 (g := (mkF m 12 #[.val (.ref b), .val (.int vv), .val (.int (Int32.ofNat cc)), s3] [(.ref b)])) rfl rfl (hb hby d7_12)
  obtain ⟨T3, X3, e3, st3⟩ := getF X2 hx hZ hown (host := "") (Or.inl (hw _ (List.mem_of_getElem? (i := 10) rfl))) Via.refl e2 hC.2.1 (g := (mkF m 19 #[.val (.ref b), .val (.int vv), .val (.int (Int32.ofNat cc)), .val (.int (Int32.ofNat u))] [(.ref b)])) rfl rfl (hb hby d7_19)
  obtain ⟨T4, X4, e4, st4⟩ := getF X3 hx hZ hown (host := "") (Or.inl (hw _ (List.mem_of_getElem? (i := 10) rfl))) Via.refl e3 hC.2.1 (g := (mkF m 28 #[.val (.ref b), .val (.int vv), .val (.int (Int32.ofNat cc)), .val (.int (Int32.ofNat u))] [(.ref b)])) rfl rfl (hb hby d7_28)
  obtain ⟨T5, X5, e5, st5⟩ := getF X4 hx hZ hown (host := "") (Or.inl (hw _ (List.mem_of_getElem? (i := 10) rfl))) Via.refl e4 hC.2.1 (g := (mkF m 33 #[.val (.ref b), .val (.int vv), .val (.int (Int32.ofNat cc)), .val (.int (Int32.ofNat u))] [(.ref b), (.int (Int32.ofNat cc)), (.ref pa)])) rfl rfl (hb hby d7_33)
  obtain ⟨T6, h6, X6, e6, W6, st6⟩ := stI X5 hx hZ e5 Ar0 (j := (Int32.ofNat cc)) (own_in S0 (by omega) (by omega)) (g := (mkF m 38 #[.val (.ref b), .val (.int vv), .val (.int (Int32.ofNat cc)), .val (.int (Int32.ofNat u))] [(.int (Int32.ofNat x)), (.int (Int32.ofNat cc)), (.ref pa)])) rfl rfl (hb hby d7_38)
  have C6 := hC.store W6 (by omega)
  obtain ⟨c6, Ar6, S6, H6⟩ := id C6.2.2.1
  obtain ⟨T7, X7, e7, st7⟩ := getF X6 hx hZ hown (host := "") (Or.inl (hw _ (List.mem_of_getElem? (i := 10) rfl))) Via.refl e6 C6.2.1 (g := (mkF m 40 #[.val (.ref b), .val (.int vv), .val (.int (Int32.ofNat cc)), .val (.int (Int32.ofNat u))] [(.ref b)])) rfl rfl (hb hby d7_40)
  refine ⟨T7, _, X7, Fr.snoc X6 N0 hC.2.2.2.1, by rw [e7]; exact Keep.of_wr W6, by rw [e7]; exact C6, fun target kt => ?_⟩
  show Steps p.tables e below (T0.setTop (mkF m 2 #[.val (.ref b), .val (.int vv), .val (.int (Int32.ofNat cc)), s3] [])) _
  refine XS.aloadN X0.here hx rfl (hb hby d7_2) rfl rfl ?_
  show Steps p.tables e below (T0.setTop (mkF m 3 #[.val (.ref b), .val (.int vv), .val (.int (Int32.ofNat cc)), s3] [(.ref b)])) _
  refine st1 _ ?_
  show Steps p.tables e below (T1.setTop (mkF m 6 #[.val (.ref b), .val (.int vv), .val (.int (Int32.ofNat cc)), s3] [(.ref pa)])) _
  refine XS.iloadN X1.here hx rfl (hb hby d7_6) rfl ?_
  show Steps p.tables e below (T1.setTop (mkF m 7 #[.val (.ref b), .val (.int vv), .val (.int (Int32.ofNat cc)), s3] [(.int (Int32.ofNat cc)), (.ref pa)])) _
  refine X1.iaload hx (j := (Int32.ofNat cc)) (v := (.int (Int32.ofNat u))) (by rw [e1]; exact Ar0.1) (State.isArrayOf_alike hZ.alike Ar0.2.1) Ar0.2.2 (own_in S0 (by omega) (by omega)) (own_at H0 (by omega) (by omega) hq) (g := (mkF m 7 #[.val (.ref b), .val (.int vv), .val (.int (Int32.ofNat cc)), s3] [(.int (Int32.ofNat cc)), (.ref pa)])) rfl rfl (hb hby d7_7) _ ?_
  show Steps p.tables e below (T1.setTop (mkF m 8 #[.val (.ref b), .val (.int vv), .val (.int (Int32.ofNat cc)), s3] [(.int (Int32.ofNat u))])) _
  refine XS.ifNo X1.here hx rfl (hb hby d7_8) rfl ((if0 _ _).trans (flt (own_ofNeg u hu)).1) ?_
  show Steps p.tables e below (T1.setTop (mkF m 11 #[.val (.ref b), .val (.int vv), .val (.int (Int32.ofNat cc)), s3] [])) _
  refine XS.aloadN X1.here hx rfl (hb hby d7_11) rfl rfl ?_
  show Steps p.tables e below (T1.setTop (mkF m 12 #[.val (.ref b), .val (.int vv), .val (.int (Int32.ofNat cc)), s3] [(.ref b)])) _
  refine st2 _ ?_
  show Steps p.tables e below (T2.setTop (mkF m 15 #[.val (.ref b), .val (.int vv), .val (.int (Int32.ofNat cc)), s3] [(.ref pa)])) _
  refine XS.iloadN X2.here hx rfl (hb hby d7_15) rfl ?_
  show Steps p.tables e below (T2.setTop (mkF m 16 #[.val (.ref b), .val (.int vv), .val (.int (Int32.ofNat cc)), s3] [(.int (Int32.ofNat cc)), (.ref pa)])) _
  refine X2.iaload hx (j := (Int32.ofNat cc)) (v := (.int (Int32.ofNat u))) (by rw [e2]; exact Ar0.1) (State.isArrayOf_alike hZ.alike Ar0.2.1) Ar0.2.2 (own_in S0 (by omega) (by omega)) (own_at H0 (by omega) (by omega) hq) (g := (mkF m 16 #[.val (.ref b), .val (.int vv), .val (.int (Int32.ofNat cc)), s3] [(.int (Int32.ofNat cc)), (.ref pa)])) rfl rfl (hb hby d7_16) _ ?_
  show Steps p.tables e below (T2.setTop (mkF m 17 #[.val (.ref b), .val (.int vv), .val (.int (Int32.ofNat cc)), s3] [(.int (Int32.ofNat u))])) _
  refine XS.istoreN X2.here hx rfl (hb hby d7_17) rfl (l' := #[.val (.ref b), .val (.int vv), .val (.int (Int32.ofNat cc)), .val (.int (Int32.ofNat u))]) (own_os hs3) ?_
  show Steps p.tables e below (T2.setTop (mkF m 18 #[.val (.ref b), .val (.int vv), .val (.int (Int32.ofNat cc)), .val (.int (Int32.ofNat u))] [])) _
  refine XS.aloadN X2.here hx rfl (hb hby d7_18) rfl rfl ?_
  show Steps p.tables e below (T2.setTop (mkF m 19 #[.val (.ref b), .val (.int vv), .val (.int (Int32.ofNat cc)), .val (.int (Int32.ofNat u))] [(.ref b)])) _
  refine st3 _ ?_
  show Steps p.tables e below (T3.setTop (mkF m 22 #[.val (.ref b), .val (.int vv), .val (.int (Int32.ofNat cc)), .val (.int (Int32.ofNat u))] [(.ref pa)])) _
  refine XS.iloadN X3.here hx rfl (hb hby d7_22) rfl ?_
  show Steps p.tables e below (T3.setTop (mkF m 23 #[.val (.ref b), .val (.int vv), .val (.int (Int32.ofNat cc)), .val (.int (Int32.ofNat u))] [(.int (Int32.ofNat u)), (.ref pa)])) _
  refine X3.iaload hx (j := (Int32.ofNat u)) (v := (.int (Int32.ofNat x))) (by rw [e3]; exact Ar0.1) (State.isArrayOf_alike hZ.alike Ar0.2.1) Ar0.2.2 (own_in S0 (by omega) (by omega)) (own_at H0 (by omega) (by omega) hq2) (g := (mkF m 23 #[.val (.ref b), .val (.int vv), .val (.int (Int32.ofNat cc)), .val (.int (Int32.ofNat u))] [(.int (Int32.ofNat u)), (.ref pa)])) rfl rfl (hb hby d7_23) _ ?_
  show Steps p.tables e below (T3.setTop (mkF m 24 #[.val (.ref b), .val (.int vv), .val (.int (Int32.ofNat cc)), .val (.int (Int32.ofNat u))] [(.int (Int32.ofNat x))])) _
  refine XS.ifNo X3.here hx rfl (hb hby d7_24) rfl ((if0 _ _).trans (flt (own_ofNeg x hx4)).1) ?_
  show Steps p.tables e below (T3.setTop (mkF m 27 #[.val (.ref b), .val (.int vv), .val (.int (Int32.ofNat cc)), .val (.int (Int32.ofNat u))] [])) _
  refine XS.aloadN X3.here hx rfl (hb hby d7_27) rfl rfl ?_
  show Steps p.tables e below (T3.setTop (mkF m 28 #[.val (.ref b), .val (.int vv), .val (.int (Int32.ofNat cc)), .val (.int (Int32.ofNat u))] [(.ref b)])) _
  refine st4 _ ?_
  show Steps p.tables e below (T4.setTop (mkF m 31 #[.val (.ref b), .val (.int vv), .val (.int (Int32.ofNat cc)), .val (.int (Int32.ofNat u))] [(.ref pa)])) _
  refine XS.iloadN X4.here hx rfl (hb hby d7_31) rfl ?_
  show Steps p.tables e below (T4.setTop (mkF m 32 #[.val (.ref b), .val (.int vv), .val (.int (Int32.ofNat cc)), .val (.int (Int32.ofNat u))] [(.int (Int32.ofNat cc)), (.ref pa)])) _
  refine XS.aloadN X4.here hx rfl (hb hby d7_32) rfl rfl ?_
  show Steps p.tables e below (T4.setTop (mkF m 33 #[.val (.ref b), .val (.int vv), .val (.int (Int32.ofNat cc)), .val (.int (Int32.ofNat u))] [(.ref b), (.int (Int32.ofNat cc)), (.ref pa)])) _
  refine st5 _ ?_
  show Steps p.tables e below (T5.setTop (mkF m 36 #[.val (.ref b), .val (.int vv), .val (.int (Int32.ofNat cc)), .val (.int (Int32.ofNat u))] [(.ref pa), (.int (Int32.ofNat cc)), (.ref pa)])) _
  refine XS.iloadN X5.here hx rfl (hb hby d7_36) rfl ?_
  show Steps p.tables e below (T5.setTop (mkF m 37 #[.val (.ref b), .val (.int vv), .val (.int (Int32.ofNat cc)), .val (.int (Int32.ofNat u))] [(.int (Int32.ofNat u)), (.ref pa), (.int (Int32.ofNat cc)), (.ref pa)])) _
  refine X5.iaload hx (j := (Int32.ofNat u)) (v := (.int (Int32.ofNat x))) (by rw [e5]; exact Ar0.1) (State.isArrayOf_alike hZ.alike Ar0.2.1) Ar0.2.2 (own_in S0 (by omega) (by omega)) (own_at H0 (by omega) (by omega) hq2) (g := (mkF m 37 #[.val (.ref b), .val (.int vv), .val (.int (Int32.ofNat cc)), .val (.int (Int32.ofNat u))] [(.int (Int32.ofNat u)), (.ref pa), (.int (Int32.ofNat cc)), (.ref pa)])) rfl rfl (hb hby d7_37) _ ?_
  show Steps p.tables e below (T5.setTop (mkF m 38 #[.val (.ref b), .val (.int vv), .val (.int (Int32.ofNat cc)), .val (.int (Int32.ofNat u))] [(.int (Int32.ofNat x)), (.int (Int32.ofNat cc)), (.ref pa)])) _
  refine st6 _ ?_
  show Steps p.tables e below (T6.setTop (mkF m 39 #[.val (.ref b), .val (.int vv), .val (.int (Int32.ofNat cc)), .val (.int (Int32.ofNat u))] [])) _
  refine XS.aloadN X6.here hx rfl (hb hby d7_39) rfl rfl ?_
  show Steps p.tables e below (T6.setTop (mkF m 40 #[.val (.ref b), .val (.int vv), .val (.int (Int32.ofNat cc)), .val (.int (Int32.ofNat u))] [(.ref b)])) _
  refine st7 _ ?_
  show Steps p.tables e below (T7.setTop (mkF m 43 #[.val (.ref b), .val (.int vv), .val (.int (Int32.ofNat cc)), .val (.int (Int32.ofNat u))] [(.ref pa)])) _
  refine XS.iloadN X7.here hx rfl (hb hby d7_43) rfl ?_
  show Steps p.tables e below (T7.setTop (mkF m 44 #[.val (.ref b), .val (.int vv), .val (.int (Int32.ofNat cc)), .val (.int (Int32.ofNat u))] [(.int (Int32.ofNat cc)), (.ref pa)])) _
  refine X7.iaload hx (j := (Int32.ofNat cc)) (v := (.int (Int32.ofNat x))) (by rw [e7]; exact Ar6.1) (State.isArrayOf_alike hZ.alike Ar6.2.1) Ar6.2.2 (own_in S6 (by omega) (by omega)) (own_at H6 (by omega) (by omega) (if_pos rfl)) (g := (mkF m 44 #[.val (.ref b), .val (.int vv), .val (.int (Int32.ofNat cc)), .val (.int (Int32.ofNat u))] [(.int (Int32.ofNat cc)), (.ref pa)])) rfl rfl (hb hby d7_44) _ ?_
  show Steps p.tables e below (T7.setTop (mkF m 45 #[.val (.ref b), .val (.int vv), .val (.int (Int32.ofNat cc)), .val (.int (Int32.ofNat u))] [(.int (Int32.ofNat x))])) _
  refine XS.istoreN X7.here hx rfl (hb hby d7_45) rfl (l' := #[.val (.ref b), .val (.int vv), .val (.int (Int32.ofNat x)), .val (.int (Int32.ofNat u))]) rfl ?_
  show Steps p.tables e below (T7.setTop (mkF m 46 #[.val (.ref b), .val (.int vv), .val (.int (Int32.ofNat x)), .val (.int (Int32.ofNat u))] [])) _
  refine XS.goto X7.here hx rfl (pc0 := 46) (pc' := 2) rfl (hb hby d7_46) (by decide) (by decide) ?_
  exact kt
set_option maxRecDepth 65536 in
set_option maxHeartbeats 40000000 in
theorem own_find {p : Program} {l : Launch} {e : Env} {R : Room} {s : State} {m : MethodId} {args : Array Value} {below : List Frame} {meth : Method} {c : Code} {cells slots : Nat} {Z : State} {a0 : Array Value} {n0 : Nat} {b pa : Addr} {vv : Int32} {lab : Nat → Int32} {d : Nat → Nat} {B : Int}
    (hx : p.tables.exec = Jvm.exec) (hZ : Z.Warmed39 s.vm) (hw : ∀ d ∈ tables_1, d.before a0 Z = true) (hby : c.code = prog_2_method_3_code) (hown : s.vm.findClass "com/example/allotree/allotree/Components" = some m.cls) (hB : 0 ≤ B) :
    ∀ (n : Nat) (T0 : State) (locs : List Loc) (q : Nat → Int32) (cc : Nat) (s3 : Slot), d cc ≤ n → cc < 4 → One s3 → Stand p l e R s m args below meth c T0 locs cells slots → Fr n0 locs → own_C Z T0.heap n0 b pa q → own_I B q lab d →
    ∃ (T' : State) (locs' : List Loc) (q' : Nat → Int32) (rr : Nat) (s3' : Slot), Stand p l e R s m args below meth c T' locs' cells slots ∧ Fr n0 locs' ∧ Keep T0.heap T'.heap [pa] ∧ own_C Z T'.heap n0 b pa q' ∧ own_I B q' lab d ∧ own_same q q' ∧ rr < 4 ∧ (q' rr).toInt < 0 ∧ lab rr = lab cc ∧
      ∀ target, Steps p.tables e below (T'.setTop (mkF m 49 #[.val (.ref b), .val (.int vv), .val (.int (Int32.ofNat rr)), s3'] [])) target → Steps p.tables e below (T0.setTop (mkF m 2 #[.val (.ref b), .val (.int vv), .val (.int (Int32.ofNat cc)), s3] [])) target := by
  intro n
  induction n with
  | zero =>
    intro T0 locs q cc s3 hd hc hs3 X0 N0 hC hI
    by_cases h : (q cc).toInt < 0
    · obtain ⟨T', X', e', st⟩ := own_f_leave (vv := vv) (s3 := s3) X0 hx hZ hw hby hown hC hc ((own_neg _).2 h)
      exact ⟨T', locs, q, cc, s3, X', N0, by rw [e']; exact Keep.refl _ _, by rw [e']; exact hC, hI, fun _ _ _ => rfl, hc, h, rfl, st⟩
    · obtain ⟨u, hu, e1, d1, l1⟩ := own_val hI hc h
      omega
  | succ n ih =>
    intro T0 locs q cc s3 hd hc hs3 X0 N0 hC hI
    by_cases h : (q cc).toInt < 0
    · obtain ⟨T', X', e', st⟩ := own_f_leave (vv := vv) (s3 := s3) X0 hx hZ hw hby hown hC hc ((own_neg _).2 h)
      exact ⟨T', locs, q, cc, s3, X', N0, by rw [e']; exact Keep.refl _ _, by rw [e']; exact hC, hI, fun _ _ _ => rfl, hc, h, rfl, st⟩
    · obtain ⟨u, hu, e1, d1, l1⟩ := own_val hI hc h
      by_cases h2 : (q u).toInt < 0
      · obtain ⟨T1, X1, f1, st1⟩ := own_f_turnA (vv := vv) (s3 := s3) X0 hx hZ hw hby hown hC hc hs3 hu e1 ((own_neg _).2 h2)
        obtain ⟨T', L', q', rr, s3', X', N', K', C', I', S', r1, r2, r3, st'⟩ := ih T1 locs q u (.val (.int (Int32.ofNat u))) (by omega) hu (One.val rfl) X1 N0 (by rw [f1]; exact hC) hI
        rw [f1] at K'
        exact ⟨T', L', q', rr, s3', X', N', K', C', I', S', r1, r2, r3.trans l1, fun target kt => st1 _ (st' _ kt)⟩
      · obtain ⟨x, hx4, e2, d2, l2⟩ := own_val hI hu h2
        obtain ⟨T1, L1, X1, N1, K1, C1, st1⟩ := own_f_turnB (vv := vv) (s3 := s3) X0 hx hZ hw hby hown hC hc N0 hs3 hu hx4 e1 e2
        obtain ⟨I1, S1⟩ := own_half hB hI hc hu hx4 e1 e2 d1 d2 l1 l2
        obtain ⟨T', L', q', rr, s3', X', N', K', C', I', S', r1, r2, r3, st'⟩ := ih T1 L1 _ x (.val (.int (Int32.ofNat u))) (by omega) hx4 (One.val rfl) X1 N1 C1 I1
        exact ⟨T', L', q', rr, s3', X', N', K1.trans K' (fun z hz => Or.inl hz), C', I', S1.trans S', r1, r2, r3.trans (l2.trans l1), fun target kt => st1 _ (st' _ kt)⟩
set_option maxRecDepth 65536 in
set_option maxHeartbeats 40000000 in
theorem rm7 (l : Launch) (Z : State) (a0 : Array Value) (hw : ∀ d ∈ tables_1, d.before a0 Z = true) (ws : List Jvm.Cond) (b pa : Addr) (vx : Nat) (pp lab : Nat → Int32) (d : Nat → Nat) (B : Int) (h0 : Heap) (n0 : Nat) (Z0 : n0 ≤ h0.size) (hv : vx < 4) (hB : 0 ≤ B) (hC : own_C Z h0 n0 b pa pp) (hI : own_I B pp lab d) :
    MetFree l (⟨"com/example/allotree/allotree/Components", "find", "(I)I"⟩ : MethodName) (head1 (Jvm.Cond.code (⟨"com/example/allotree/allotree/Components", "find", "(I)I"⟩ : MethodName) prog_2_method_3_code 4 (some .int) :: ws) ({ frames := 0, cells := 0, slots := 0, locals := 0 } : Room)) (fun a U => a = #[(.ref b), (.int (Int32.ofNat vx))] ∧ Z.Warmed39 U.vm ∧ U.heap = h0) (fun _ _ _ _ _ => True) (fun _ U o U' => ∃ v L, o = .returned v ∧ Q7 Z b pa vx pp lab d B h0 n0 v U'.heap L ∧ FrameEnd U o U' L ({ frames := 0, cells := 0, slots := 0, locals := 0 } : Room).cells ({ frames := 0, cells := 0, slots := 0, locals := 0 } : Room).slots) := by
  refine MetFree.of_bodySF (plainFor_of_name pn_7) hisR ?_
  intro p e s m args below meth c s₁ Bd hml0 hP hK
  obtain ⟨rfl, hZ, hh⟩ := hP
  have hx := Bd.exec
  have hby := Bd.bytes
  have hml : c.maxLocals = 4 := hml0
  have hown : s.vm.findClass "com/example/allotree/allotree/Components" = some m.cls := findClass_of_methodNamed Bd.named
  have hnm := (name_of_methodNamed Bd.named Bd.method).1
  have X0 : Stand p l e ({ frames := 0, cells := 0, slots := 0, locals := 0 } : Room) s m #[(.ref b), (.int (Int32.ofNat vx))] below meth c s₁ [] 0 0 := Stand.of_body Bd
  have e0 : s₁.heap = h0 := by rw [← hh, Bd.state]; rfl
  have N0 := Fr.nil n0
  have pre0 : ∀ t, Steps p.tables e below (s₁.setTop (mkF m 0 #[.val (.ref b), .val (.int (Int32.ofNat vx)), .unset, .unset] [])) t → Steps p.tables e below (s₁.setTop (entryFrame m #[(.ref b), (.int (Int32.ofNat vx))] 4)) t := fun t k => castTop (ef_7 m b ((Int32.ofNat vx))) k
  obtain ⟨T5, L5, q5, r5, s5, X5, N5, K5, C5, I5, S5, a5, b5, c5, st5⟩ := own_find (vv := Int32.ofNat vx) hx hZ hw hby hown hB (d vx) s₁ [] pp vx .unset (Nat.le_refl _) hv One.u X0 N0 (by rw [e0]; exact hC) hI
  rw [e0] at K5
  obtain ⟨fs, hr, hrun, hended, hW, hsame⟩ := X5.leave (v := some (.int (Int32.ofNat r5))) (fun h => by rw [Bd.returns] at h; cases h)
  refine ⟨_, _, pre0 _ ?_, hrun, hended, _, _, rfl, ?_, ⟨_, rfl⟩, hW, hsame.mono (by decide) (by decide)⟩
  · show Steps p.tables e below (s₁.setTop (mkF m 0 #[.val (.ref b), .val (.int (Int32.ofNat vx)), .unset, .unset] [])) _
    refine XS.iloadN X0.here hx rfl (hb hby d7_0) rfl ?_
    show Steps p.tables e below (s₁.setTop (mkF m 1 #[.val (.ref b), .val (.int (Int32.ofNat vx)), .unset, .unset] [(.int (Int32.ofNat vx))])) _
    refine XS.istoreN X0.here hx rfl (hb hby d7_1) rfl (l' := #[.val (.ref b), .val (.int (Int32.ofNat vx)), .val (.int (Int32.ofNat vx)), .unset]) rfl ?_
    show Steps p.tables e below (s₁.setTop (mkF m 2 #[.val (.ref b), .val (.int (Int32.ofNat vx)), .val (.int (Int32.ofNat vx)), .unset] [])) _
    refine st5 _ ?_
    show Steps p.tables e below (T5.setTop (mkF m 49 #[.val (.ref b), .val (.int (Int32.ofNat vx)), .val (.int (Int32.ofNat r5)), s5] [])) _
    refine XS.iloadN X5.here hx rfl (hb hby d7_49) rfl ?_
    show Steps p.tables e below (T5.setTop (mkF m 50 #[.val (.ref b), .val (.int (Int32.ofNat vx)), .val (.int (Int32.ofNat r5)), s5] [(.int (Int32.ofNat r5))])) _
    exact retI X5 hx Bd.returns (hb hby d7_50) hr
  · show Q7 Z b pa vx pp lab d B h0 n0 _ T5.heap _
    exact ⟨N5, Nat.le_trans Z0 K5.1, K5, q5, r5, rfl, a5, b5, c5, C5, I5, S5⟩
theorem own_inj {u v : Nat} (hu : u < 4) (hv : v < 4) (e : Int32.ofNat u = Int32.ofNat v) : u = v := by
  have := congrArg Int32.toInt e
  rw [own_toNat u hu, own_toNat v hv] at this
  omega
theorem pd_find : parseMethodDescriptor "(I)I" = some ⟨[.int], some .int⟩ := by decide +kernel
theorem pd_join : parseMethodDescriptor "(II)V" = some ⟨[.int, .int], none⟩ := by decide +kernel
theorem pd_add : parseMethodDescriptor "(I)V" = some ⟨[.int], none⟩ := by decide +kernel
theorem pd_v : parseMethodDescriptor "()V" = some ⟨[], none⟩ := by decide +kernel
theorem pd_fill : parseMethodDescriptor "([IIII)V" = some ⟨[.array .int, .int, .int, .int], none⟩ := by decide +kernel
theorem pd_rc : parseMethodDescriptor "(III)V" = some ⟨[.int, .int, .int], none⟩ := by decide +kernel
theorem pd_merge : parseMethodDescriptor "([III)V" = some ⟨[.array .int, .int, .int], none⟩ := by decide +kernel
theorem pd_in : parseMethodDescriptor "([I[II)Z" = some ⟨[.array .int, .array .int, .int], some .boolean⟩ := by decide +kernel
theorem pd_pair : parseMethodDescriptor "([I[III)Z" = some ⟨[.array .int, .array .int, .int, .int], some .boolean⟩ := by decide +kernel
theorem d6_0 : decode prog_2_method_4_code 0 = .ok (.aload_n 0, 1) := by decide +kernel
theorem d6_1 : decode prog_2_method_4_code 1 = .ok (.iload_n 1, 1) := by decide +kernel
theorem d6_2 : decode prog_2_method_4_code 2 = .ok (.invokevirtual 33, 3) := by decide +kernel
theorem d6_5 : decode prog_2_method_4_code 5 = .ok (.istore_n 3, 1) := by decide +kernel
theorem d6_6 : decode prog_2_method_4_code 6 = .ok (.aload_n 0, 1) := by decide +kernel
theorem d6_7 : decode prog_2_method_4_code 7 = .ok (.iload_n 2, 1) := by decide +kernel
theorem d6_8 : decode prog_2_method_4_code 8 = .ok (.invokevirtual 33, 3) := by decide +kernel
theorem d6_11 : decode prog_2_method_4_code 11 = .ok (.istore 4, 2) := by decide +kernel
theorem d6_13 : decode prog_2_method_4_code 13 = .ok (.iload_n 3, 1) := by decide +kernel
theorem d6_14 : decode prog_2_method_4_code 14 = .ok (.iload 4, 2) := by decide +kernel
theorem d6_16 : decode prog_2_method_4_code 16 = .ok (.if_icmp .eq 53, 3) := by decide +kernel
theorem d6_19 : decode prog_2_method_4_code 19 = .ok (.aload_n 0, 1) := by decide +kernel
theorem d6_20 : decode prog_2_method_4_code 20 = .ok (.getfield 7, 3) := by decide +kernel
theorem d6_23 : decode prog_2_method_4_code 23 = .ok (.iload_n 3, 1) := by decide +kernel
theorem d6_24 : decode prog_2_method_4_code 24 = .ok (.iaload, 1) := by decide +kernel
theorem d6_25 : decode prog_2_method_4_code 25 = .ok (.aload_n 0, 1) := by decide +kernel
theorem d6_26 : decode prog_2_method_4_code 26 = .ok (.getfield 7, 3) := by decide +kernel
theorem d6_29 : decode prog_2_method_4_code 29 = .ok (.iload 4, 2) := by decide +kernel
theorem d6_31 : decode prog_2_method_4_code 31 = .ok (.iaload, 1) := by decide +kernel
theorem d6_32 : decode prog_2_method_4_code 32 = .ok (.if_icmp .le 13, 3) := by decide +kernel
theorem d6_35 : decode prog_2_method_4_code 35 = .ok (.iload_n 3, 1) := by decide +kernel
theorem d6_36 : decode prog_2_method_4_code 36 = .ok (.istore 5, 2) := by decide +kernel
theorem d6_38 : decode prog_2_method_4_code 38 = .ok (.iload 4, 2) := by decide +kernel
theorem d6_40 : decode prog_2_method_4_code 40 = .ok (.istore_n 3, 1) := by decide +kernel
theorem d6_41 : decode prog_2_method_4_code 41 = .ok (.iload 5, 2) := by decide +kernel
theorem d6_43 : decode prog_2_method_4_code 43 = .ok (.istore 4, 2) := by decide +kernel
theorem d6_45 : decode prog_2_method_4_code 45 = .ok (.aload_n 0, 1) := by decide +kernel
theorem d6_46 : decode prog_2_method_4_code 46 = .ok (.getfield 7, 3) := by decide +kernel
theorem d6_49 : decode prog_2_method_4_code 49 = .ok (.iload_n 3, 1) := by decide +kernel
theorem d6_50 : decode prog_2_method_4_code 50 = .ok (.dup2, 1) := by decide +kernel
theorem d6_51 : decode prog_2_method_4_code 51 = .ok (.iaload, 1) := by decide +kernel
theorem d6_52 : decode prog_2_method_4_code 52 = .ok (.aload_n 0, 1) := by decide +kernel
theorem d6_53 : decode prog_2_method_4_code 53 = .ok (.getfield 7, 3) := by decide +kernel
theorem d6_56 : decode prog_2_method_4_code 56 = .ok (.iload 4, 2) := by decide +kernel
theorem d6_58 : decode prog_2_method_4_code 58 = .ok (.iaload, 1) := by decide +kernel
theorem d6_59 : decode prog_2_method_4_code 59 = .ok (.iadd, 1) := by decide +kernel
theorem d6_60 : decode prog_2_method_4_code 60 = .ok (.iastore, 1) := by decide +kernel
theorem d6_61 : decode prog_2_method_4_code 61 = .ok (.aload_n 0, 1) := by decide +kernel
theorem d6_62 : decode prog_2_method_4_code 62 = .ok (.getfield 7, 3) := by decide +kernel
theorem d6_65 : decode prog_2_method_4_code 65 = .ok (.iload 4, 2) := by decide +kernel
theorem d6_67 : decode prog_2_method_4_code 67 = .ok (.iload_n 3, 1) := by decide +kernel
theorem d6_68 : decode prog_2_method_4_code 68 = .ok (.iastore, 1) := by decide +kernel
theorem d6_69 : decode prog_2_method_4_code 69 = .ok (.return_, 1) := by decide +kernel
theorem pn_6 : plainName "com/example/allotree/allotree/Components" = true := by first | (simp [plainName, overriddenIn]; done) | decide +kernel
theorem ef_6 (m : MethodId) (x0 : Addr) (x1 : Int32) (x2 : Int32) : entryFrame m #[(.ref x0), (.int x1), (.int x2)] 6 = mkF m 0 #[.val (.ref x0), .val (.int x1), .val (.int x2), .unset, .unset, .unset] [] := by first | (simp [entryFrame, mkF, argsToLocals, Value.category]; done) | rfl
def Q6 (Z : State) (b pa : Addr) (x y : Nat) (pp lab : Nat → Int32) (d : Nat → Nat) (B : Int) (h0 : Heap) (n0 : Nat) (v : Option Value) (h : Heap) (L : List Loc) : Prop := v = none ∧ Fr n0 L ∧ n0 ≤ h.size ∧ Keep h0 h [pa] ∧ ∃ (p' : Nat → Int32) (d' : Nat → Nat), own_C Z h n0 b pa p' ∧ own_I (2 * B) p' (own_merge lab x y) d'
set_option maxRecDepth 65536 in
set_option maxHeartbeats 40000000 in
theorem own_j_tail {p : Program} {l : Launch} {e : Env} {R : Room} {s : State} {m : MethodId} {args : Array Value} {below : List Frame} {meth : Method} {c : Code} {T0 : State} {locs : List Loc} {cells slots : Nat} {Z : State} {a0 : Array Value} {n0 : Nat} {b pa : Addr} {xv yv : Int32} {t u : Nat} {q : Nat → Int32} {s5 : Slot}
    (X0 : Stand p l e R s m args below meth c T0 locs cells slots) (hx : p.tables.exec = Jvm.exec) (hZ : Z.Warmed39 s.vm) (hw : ∀ d ∈ tables_1, d.before a0 Z = true) (hby : c.code = prog_2_method_4_code) (hown : s.vm.findClass "com/example/allotree/allotree/Components" = some m.cls) (N0 : Fr n0 locs) (hC : own_C Z T0.heap n0 b pa q) (ht : t < 4) (hu : u < 4) :
    ∃ (T' : State) (locs' : List Loc), Stand p l e R s m args below meth c T' locs' cells slots ∧ Fr n0 locs' ∧ Keep T0.heap T'.heap [pa] ∧ own_C Z T'.heap n0 b pa (own_seti (own_seti q t (q t + q u)) u (Int32.ofNat t)) ∧ ∀ target, Steps p.tables e below (T'.setTop (mkF m 69 #[.val (.ref b), .val (.int xv), .val (.int yv), .val (.int (Int32.ofNat t)), .val (.int (Int32.ofNat u)), s5] [])) target → Steps p.tables e below (T0.setTop (mkF m 45 #[.val (.ref b), .val (.int xv), .val (.int yv), .val (.int (Int32.ofNat t)), .val (.int (Int32.ofNat u)), s5] [])) target := by
  obtain ⟨c0, Ar0, S0, H0⟩ := id hC.2.2.1
  obtain ⟨T1, X1, e1, st1⟩ := getF X0 hx hZ hown (host := "") (Or.inl (hw _ (List.mem_of_getElem? (i := 10) rfl))) Via.refl rfl hC.2.1 (g := (mkF m 46 #[.val (.ref b), .val (.int xv), .val (.int yv), .val (.int (Int32.ofNat t)), .val (.int (Int32.ofNat u)), s5] [(.ref b)])) rfl rfl (hb hby d6_46)
  obtain ⟨T2, X2, e2, st2⟩ := getF X1 hx hZ hown (host := "") (Or.inl (hw _ (List.mem_of_getElem? (i := 10) rfl))) Via.refl e1 hC.2.1 (g := (mkF m 53 #[.val (.ref b), .val (.int xv), .val (.int yv), .val (.int (Int32.ofNat t)), .val (.int (Int32.ofNat u)), s5] [(.ref b), (.int (q t)), (.int (Int32.ofNat t)), (.ref pa)])) rfl rfl (hb hby d6_53)
  obtain ⟨T3, h3, X3, e3, W3, st3⟩ := stI X2 hx hZ e2 Ar0 (j := (Int32.ofNat t)) (own_in S0 (by omega) (by omega)) (g := (mkF m 60 #[.val (.ref b), .val (.int xv), .val (.int yv), .val (.int (Int32.ofNat t)), .val (.int (Int32.ofNat u)), s5] [(.int ((q t) + (q u))), (.int (Int32.ofNat t)), (.ref pa)])) rfl rfl (hb hby d6_60)
  have C3 := hC.store W3 (by omega)
  obtain ⟨c3, Ar3, S3, H3⟩ := id C3.2.2.1
  obtain ⟨T4, X4, e4, st4⟩ := getF X3 hx hZ hown (host := "") (Or.inl (hw _ (List.mem_of_getElem? (i := 10) rfl))) Via.refl e3 C3.2.1 (g := (mkF m 62 #[.val (.ref b), .val (.int xv), .val (.int yv), .val (.int (Int32.ofNat t)), .val (.int (Int32.ofNat u)), s5] [(.ref b)])) rfl rfl (hb hby d6_62)
  obtain ⟨T5, h5, X5, e5, W5, st5⟩ := stI X4 hx hZ e4 Ar3 (j := (Int32.ofNat u)) (own_in S3 (by omega) (by omega)) (g := (mkF m 68 #[.val (.ref b), .val (.int xv), .val (.int yv), .val (.int (Int32.ofNat t)), .val (.int (Int32.ofNat u)), s5] [(.int (Int32.ofNat t)), (.int (Int32.ofNat u)), (.ref pa)])) rfl rfl (hb hby d6_68)
  have C5 := C3.store W5 (by omega)
  refine ⟨T5, _, X5, Fr.snoc X5 (Fr.snoc X3 N0 hC.2.2.2.1) hC.2.2.2.1, by rw [e5]; exact (Keep.of_wr W3).wr W5 (Or.inl (List.mem_singleton.mpr rfl)), by rw [e5]; exact C5, fun target kt => ?_⟩
  show Steps p.tables e below (T0.setTop (mkF m 45 #[.val (.ref b), .val (.int xv), .val (.int yv), .val (.int (Int32.ofNat t)), .val (.int (Int32.ofNat u)), s5] [])) _
  refine XS.aloadN X0.here hx rfl (hb hby d6_45) rfl rfl ?_
  show Steps p.tables e below (T0.setTop (mkF m 46 #[.val (.ref b), .val (.int xv), .val (.int yv), .val (.int (Int32.ofNat t)), .val (.int (Int32.ofNat u)), s5] [(.ref b)])) _
  refine st1 _ ?_
  show Steps p.tables e below (T1.setTop (mkF m 49 #[.val (.ref b), .val (.int xv), .val (.int yv), .val (.int (Int32.ofNat t)), .val (.int (Int32.ofNat u)), s5] [(.ref pa)])) _
  refine XS.iloadN X1.here hx rfl (hb hby d6_49) rfl ?_
  show Steps p.tables e below (T1.setTop (mkF m 50 #[.val (.ref b), .val (.int xv), .val (.int yv), .val (.int (Int32.ofNat t)), .val (.int (Int32.ofNat u)), s5] [(.int (Int32.ofNat t)), (.ref pa)])) _
  jvm_step X1.here [X1.here.top, hx, (hb hby d6_50), Value.category]
  show Steps p.tables e below (T1.setTop (mkF m 51 #[.val (.ref b), .val (.int xv), .val (.int yv), .val (.int (Int32.ofNat t)), .val (.int (Int32.ofNat u)), s5] [(.int (Int32.ofNat t)), (.ref pa), (.int (Int32.ofNat t)), (.ref pa)])) _
  refine X1.iaload hx (j := (Int32.ofNat t)) (v := (.int (q t))) (by rw [e1]; exact Ar0.1) (State.isArrayOf_alike hZ.alike Ar0.2.1) Ar0.2.2 (own_in S0 (by omega) (by omega)) (own_at H0 (by omega) (by omega) rfl) (g := (mkF m 51 #[.val (.ref b), .val (.int xv), .val (.int yv), .val (.int (Int32.ofNat t)), .val (.int (Int32.ofNat u)), s5] [(.int (Int32.ofNat t)), (.ref pa), (.int (Int32.ofNat t)), (.ref pa)])) rfl rfl (hb hby d6_51) _ ?_
  show Steps p.tables e below (T1.setTop (mkF m 52 #[.val (.ref b), .val (.int xv), .val (.int yv), .val (.int (Int32.ofNat t)), .val (.int (Int32.ofNat u)), s5] [(.int (q t)), (.int (Int32.ofNat t)), (.ref pa)])) _
  refine XS.aloadN X1.here hx rfl (hb hby d6_52) rfl rfl ?_
  show Steps p.tables e below (T1.setTop (mkF m 53 #[.val (.ref b), .val (.int xv), .val (.int yv), .val (.int (Int32.ofNat t)), .val (.int (Int32.ofNat u)), s5] [(.ref b), (.int (q t)), (.int (Int32.ofNat t)), (.ref pa)])) _
  refine st2 _ ?_
  show Steps p.tables e below (T2.setTop (mkF m 56 #[.val (.ref b), .val (.int xv), .val (.int yv), .val (.int (Int32.ofNat t)), .val (.int (Int32.ofNat u)), s5] [(.ref pa), (.int (q t)), (.int (Int32.ofNat t)), (.ref pa)])) _
  refine XS.iload X2.here hx rfl (hb hby d6_56) rfl ?_
  show Steps p.tables e below (T2.setTop (mkF m 58 #[.val (.ref b), .val (.int xv), .val (.int yv), .val (.int (Int32.ofNat t)), .val (.int (Int32.ofNat u)), s5] [(.int (Int32.ofNat u)), (.ref pa), (.int (q t)), (.int (Int32.ofNat t)), (.ref pa)])) _
  refine X2.iaload hx (j := (Int32.ofNat u)) (v := (.int (q u))) (by rw [e2]; exact Ar0.1) (State.isArrayOf_alike hZ.alike Ar0.2.1) Ar0.2.2 (own_in S0 (by omega) (by omega)) (own_at H0 (by omega) (by omega) rfl) (g := (mkF m 58 #[.val (.ref b), .val (.int xv), .val (.int yv), .val (.int (Int32.ofNat t)), .val (.int (Int32.ofNat u)), s5] [(.int (Int32.ofNat u)), (.ref pa), (.int (q t)), (.int (Int32.ofNat t)), (.ref pa)])) rfl rfl (hb hby d6_58) _ ?_
  show Steps p.tables e below (T2.setTop (mkF m 59 #[.val (.ref b), .val (.int xv), .val (.int yv), .val (.int (Int32.ofNat t)), .val (.int (Int32.ofNat u)), s5] [(.int (q u)), (.int (q t)), (.int (Int32.ofNat t)), (.ref pa)])) _
  refine XS.iadd X2.here hx rfl (hb hby d6_59) rfl ?_
  show Steps p.tables e below (T2.setTop (mkF m 60 #[.val (.ref b), .val (.int xv), .val (.int yv), .val (.int (Int32.ofNat t)), .val (.int (Int32.ofNat u)), s5] [(.int ((q t) + (q u))), (.int (Int32.ofNat t)), (.ref pa)])) _
  refine st3 _ ?_
  show Steps p.tables e below (T3.setTop (mkF m 61 #[.val (.ref b), .val (.int xv), .val (.int yv), .val (.int (Int32.ofNat t)), .val (.int (Int32.ofNat u)), s5] [])) _
  refine XS.aloadN X3.here hx rfl (hb hby d6_61) rfl rfl ?_
  show Steps p.tables e below (T3.setTop (mkF m 62 #[.val (.ref b), .val (.int xv), .val (.int yv), .val (.int (Int32.ofNat t)), .val (.int (Int32.ofNat u)), s5] [(.ref b)])) _
  refine st4 _ ?_
  show Steps p.tables e below (T4.setTop (mkF m 65 #[.val (.ref b), .val (.int xv), .val (.int yv), .val (.int (Int32.ofNat t)), .val (.int (Int32.ofNat u)), s5] [(.ref pa)])) _
  refine XS.iload X4.here hx rfl (hb hby d6_65) rfl ?_
  show Steps p.tables e below (T4.setTop (mkF m 67 #[.val (.ref b), .val (.int xv), .val (.int yv), .val (.int (Int32.ofNat t)), .val (.int (Int32.ofNat u)), s5] [(.int (Int32.ofNat u)), (.ref pa)])) _
  refine XS.iloadN X4.here hx rfl (hb hby d6_67) rfl ?_
  show Steps p.tables e below (T4.setTop (mkF m 68 #[.val (.ref b), .val (.int xv), .val (.int yv), .val (.int (Int32.ofNat t)), .val (.int (Int32.ofNat u)), s5] [(.int (Int32.ofNat t)), (.int (Int32.ofNat u)), (.ref pa)])) _
  refine st5 _ ?_
  exact kt
set_option maxRecDepth 65536 in
set_option maxHeartbeats 40000000 in
theorem rm6 (l : Launch) (Z : State) (a0 : Array Value) (hw : ∀ d ∈ tables_1, d.before a0 Z = true) (ws : List Jvm.Cond) (b pa : Addr) (x y : Nat) (pp lab : Nat → Int32) (d : Nat → Nat) (B : Int) (h0 : Heap) (n0 : Nat) (Z0 : n0 ≤ h0.size) (hx4 : x < 4) (hy4 : y < 4) (hB : 0 ≤ B) (hB2 : B ≤ 1000) (hC : own_C Z h0 n0 b pa pp) (hI : own_I B pp lab d) :
    MetFree l (⟨"com/example/allotree/allotree/Components", "join", "(II)V"⟩ : MethodName) (head1 (Jvm.Cond.code (⟨"com/example/allotree/allotree/Components", "join", "(II)V"⟩ : MethodName) prog_2_method_4_code 6 none :: ws) ({ frames := 1, cells := 0, slots := 0, locals := 15 } : Room)) (fun a U => a = #[(.ref b), (.int (Int32.ofNat x)), (.int (Int32.ofNat y))] ∧ Z.Warmed39 U.vm ∧ U.heap = h0) (fun _ _ _ _ _ => True) (fun _ U o U' => ∃ v L, o = .returned v ∧ Q6 Z b pa x y pp lab d B h0 n0 v U'.heap L ∧ FrameEnd U o U' L ({ frames := 1, cells := 0, slots := 0, locals := 15 } : Room).cells ({ frames := 1, cells := 0, slots := 0, locals := 15 } : Room).slots) := by
  refine MetFree.of_bodySF (plainFor_of_name pn_6) hisR ?_
  intro p e s m args below meth c s₁ Bd hml0 hP hK
  obtain ⟨rfl, hZ, hh⟩ := hP
  have hx := Bd.exec
  have hby := Bd.bytes
  have hml : c.maxLocals = 6 := hml0
  have hown : s.vm.findClass "com/example/allotree/allotree/Components" = some m.cls := findClass_of_methodNamed Bd.named
  have hnm := (name_of_methodNamed Bd.named Bd.method).1
  have X0 : Stand p l e ({ frames := 1, cells := 0, slots := 0, locals := 15 } : Room) s m #[(.ref b), (.int (Int32.ofNat x)), (.int (Int32.ofNat y))] below meth c s₁ [] 0 0 := Stand.of_body Bd
  have e0 : s₁.heap = h0 := by rw [← hh, Bd.state]; rfl
  have N0 := Fr.nil n0
  have pre0 : ∀ t, Steps p.tables e below (s₁.setTop (mkF m 0 #[.val (.ref b), .val (.int (Int32.ofNat x)), .val (.int (Int32.ofNat y)), .unset, .unset, .unset] [])) t → Steps p.tables e below (s₁.setTop (entryFrame m #[(.ref b), (.int (Int32.ofNat x)), (.int (Int32.ofNat y))] 6)) t := fun t k => castTop (ef_6 m b ((Int32.ofNat x)) ((Int32.ofNat y))) k
  obtain ⟨cq3, kq3, q3a, q3b, q3c⟩ := isOf hZ e0 hC.1
  obtain ⟨_, _, ⟨T3, L3, k3, n3⟩, -, X3, ⟨Lc3, hQ3, l3, y3, z3⟩, st3⟩ := X0.virtualBack hx (y := (⟨"com/example/allotree/allotree/Components", "find", "(I)I"⟩ : MethodName)) (z := (⟨"com/example/allotree/allotree/Components", "find", "(I)I"⟩ : MethodName)) hown (mvT hZ (hw _ (List.mem_of_getElem? (i := 31) rfl))) (mvT hZ (hw _ (List.mem_of_getElem? (i := 32) rfl))) (notFace_of_selects (args := #[]) (mvT hZ (hw _ (List.mem_of_getElem? (i := 34) rfl)))) (mvT hZ (hw _ (List.mem_of_getElem? (i := 34) rfl))) (mvT hZ (hw _ (List.mem_of_getElem? (i := 33) rfl))) (by decide) (backOf (W := 0) (rm7 l Z a0 hw [] b pa x pp lab d B h0 n0 Z0 hx4 hB hC hI) hZ (hw _ (List.mem_of_getElem? (i := 35) rfl)) (hw _ (List.mem_of_getElem? (i := 2) rfl)) (by decide) (by decide)) q3a q3c (g := (mkF m 2 #[.val (.ref b), .val (.int (Int32.ofNat x)), .val (.int (Int32.ofNat y)), .unset, .unset, .unset] [(.int (Int32.ofNat x)), (.ref b)])) rfl (by rw [hml]; rfl) (Steps.refl _) (argsL := [(.int (Int32.ofNat x))]) (rest := []) (lenOf pd_find rfl) rfl (by show 2 * 0 + _ ≤ _; exact Nat.le_of_eq rfl) (hb hby d6_2) (fun _ _ => ⟨rfl, e0, (by decide : 0 + 0 ≤ _), (by decide : 0 + 0 ≤ _)⟩)
  dsimp only [Pt.U, Pt.locs, Pt.cells, Pt.slots] at X3 l3 y3 z3 st3 hQ3
  subst l3 y3 z3
  obtain ⟨N3q, Z3, K3, p3, r3, rfl, a3, b3, c3, C3, I3, S3⟩ := hQ3
  have N3 := Fr.app N0 N3q
  obtain ⟨cq4, kq4, q4a, q4b, q4c⟩ := isOf hZ rfl C3.1
  obtain ⟨_, _, ⟨T4, L4, k4, n4⟩, -, X4, ⟨Lc4, hQ4, l4, y4, z4⟩, st4⟩ := X3.virtualBack hx (y := (⟨"com/example/allotree/allotree/Components", "find", "(I)I"⟩ : MethodName)) (z := (⟨"com/example/allotree/allotree/Components", "find", "(I)I"⟩ : MethodName)) hown (mvT hZ (hw _ (List.mem_of_getElem? (i := 31) rfl))) (mvT hZ (hw _ (List.mem_of_getElem? (i := 32) rfl))) (notFace_of_selects (args := #[]) (mvT hZ (hw _ (List.mem_of_getElem? (i := 34) rfl)))) (mvT hZ (hw _ (List.mem_of_getElem? (i := 34) rfl))) (mvT hZ (hw _ (List.mem_of_getElem? (i := 33) rfl))) (by decide) (backOf (W := 0) (rm7 l Z a0 hw [] b pa y p3 lab d B T3.heap n0 Z3 hy4 hB C3 I3) hZ (hw _ (List.mem_of_getElem? (i := 35) rfl)) (hw _ (List.mem_of_getElem? (i := 2) rfl)) (by decide) (by decide)) q4a q4c (g := (mkF m 8 #[.val (.ref b), .val (.int (Int32.ofNat x)), .val (.int (Int32.ofNat y)), .val (.int (Int32.ofNat r3)), .unset, .unset] [(.int (Int32.ofNat y)), (.ref b)])) rfl (by rw [hml]; rfl) (Steps.refl _) (argsL := [(.int (Int32.ofNat y))]) (rest := []) (lenOf pd_find rfl) rfl (by show 2 * 0 + _ ≤ _; exact Nat.le_of_eq rfl) (hb hby d6_8) (fun _ _ => ⟨rfl, rfl, (by decide : 0 + 0 ≤ _), (by decide : 0 + 0 ≤ _)⟩)
  dsimp only [Pt.U, Pt.locs, Pt.cells, Pt.slots] at X4 l4 y4 z4 st4 hQ4
  subst l4 y4 z4
  obtain ⟨N4q, Z4, K4, p4, r4, rfl, a4, b4, c4, C4, I4, S4⟩ := hQ4
  have N4 := Fr.app N3 N4q
  have K34 := K3.trans K4 (fun z hz => Or.inl hz)
  have s34 := S4 r3 a3 b3
  by_cases he : r3 = r4
  · obtain ⟨fs, hr, hrun, hended, hW, hsame⟩ := X4.leave (v := none) (fun _ => rfl)
    refine ⟨_, _, pre0 _ ?_, hrun, hended, _, _, rfl, ?_, ⟨_, rfl⟩, hW, hsame.mono (by decide) (by decide)⟩
    · show Steps p.tables e below (s₁.setTop (mkF m 0 #[.val (.ref b), .val (.int (Int32.ofNat x)), .val (.int (Int32.ofNat y)), .unset, .unset, .unset] [])) _
      refine XS.aloadN X0.here hx rfl (hb hby d6_0) rfl rfl ?_
      show Steps p.tables e below (s₁.setTop (mkF m 1 #[.val (.ref b), .val (.int (Int32.ofNat x)), .val (.int (Int32.ofNat y)), .unset, .unset, .unset] [(.ref b)])) _
      refine XS.iloadN X0.here hx rfl (hb hby d6_1) rfl ?_
      show Steps p.tables e below (s₁.setTop (mkF m 2 #[.val (.ref b), .val (.int (Int32.ofNat x)), .val (.int (Int32.ofNat y)), .unset, .unset, .unset] [(.int (Int32.ofNat x)), (.ref b)])) _
      refine st3.trans ?_
      show Steps p.tables e below (T3.setTop (mkF m 5 #[.val (.ref b), .val (.int (Int32.ofNat x)), .val (.int (Int32.ofNat y)), .unset, .unset, .unset] [(.int (Int32.ofNat r3))])) _
      refine XS.istoreN X3.here hx rfl (hb hby d6_5) rfl (l' := #[.val (.ref b), .val (.int (Int32.ofNat x)), .val (.int (Int32.ofNat y)), .val (.int (Int32.ofNat r3)), .unset, .unset]) rfl ?_
      show Steps p.tables e below (T3.setTop (mkF m 6 #[.val (.ref b), .val (.int (Int32.ofNat x)), .val (.int (Int32.ofNat y)), .val (.int (Int32.ofNat r3)), .unset, .unset] [])) _
      refine XS.aloadN X3.here hx rfl (hb hby d6_6) rfl rfl ?_
      show Steps p.tables e below (T3.setTop (mkF m 7 #[.val (.ref b), .val (.int (Int32.ofNat x)), .val (.int (Int32.ofNat y)), .val (.int (Int32.ofNat r3)), .unset, .unset] [(.ref b)])) _
      refine XS.iloadN X3.here hx rfl (hb hby d6_7) rfl ?_
      show Steps p.tables e below (T3.setTop (mkF m 8 #[.val (.ref b), .val (.int (Int32.ofNat x)), .val (.int (Int32.ofNat y)), .val (.int (Int32.ofNat r3)), .unset, .unset] [(.int (Int32.ofNat y)), (.ref b)])) _
      refine st4.trans ?_
      show Steps p.tables e below (T4.setTop (mkF m 11 #[.val (.ref b), .val (.int (Int32.ofNat x)), .val (.int (Int32.ofNat y)), .val (.int (Int32.ofNat r3)), .unset, .unset] [(.int (Int32.ofNat r4))])) _
      refine XS.istore X4.here hx rfl (hb hby d6_11) rfl (l' := #[.val (.ref b), .val (.int (Int32.ofNat x)), .val (.int (Int32.ofNat y)), .val (.int (Int32.ofNat r3)), .val (.int (Int32.ofNat r4)), .unset]) rfl ?_
      show Steps p.tables e below (T4.setTop (mkF m 13 #[.val (.ref b), .val (.int (Int32.ofNat x)), .val (.int (Int32.ofNat y)), .val (.int (Int32.ofNat r3)), .val (.int (Int32.ofNat r4)), .unset] [])) _
      refine XS.iloadN X4.here hx rfl (hb hby d6_13) rfl ?_
      show Steps p.tables e below (T4.setTop (mkF m 14 #[.val (.ref b), .val (.int (Int32.ofNat x)), .val (.int (Int32.ofNat y)), .val (.int (Int32.ofNat r3)), .val (.int (Int32.ofNat r4)), .unset] [(.int (Int32.ofNat r3))])) _
      refine XS.iload X4.here hx rfl (hb hby d6_14) rfl ?_
      show Steps p.tables e below (T4.setTop (mkF m 16 #[.val (.ref b), .val (.int (Int32.ofNat x)), .val (.int (Int32.ofNat y)), .val (.int (Int32.ofNat r3)), .val (.int (Int32.ofNat r4)), .unset] [(.int (Int32.ofNat r4)), (.int (Int32.ofNat r3))])) _
      refine XS.icmpYes X4.here hx rfl (pc0 := 16) (pc' := 69) rfl (hb hby d6_16) rfl (teq (congrArg Int32.ofNat he)).1 (by decide) (by decide) ?_
      show Steps p.tables e below (T4.setTop (mkF m 69 #[.val (.ref b), .val (.int (Int32.ofNat x)), .val (.int (Int32.ofNat y)), .val (.int (Int32.ofNat r3)), .val (.int (Int32.ofNat r4)), .unset] [])) _
      exact X4.returnOut hx Bd.returns (hb hby d6_69) hr
    · show Q6 Z b pa x y pp lab d B h0 n0 _ T4.heap _
      exact ⟨rfl, N4, Z4, K34, p4, d, C4, own_one hB I4 (by rw [← c3, he]; exact c4)⟩
  · obtain ⟨c9, Ar9, S9, H9⟩ := id C4.2.2.1
    obtain ⟨T5, X5, e5, st5⟩ := getF X4 hx hZ hown (host := "") (Or.inl (hw _ (List.mem_of_getElem? (i := 10) rfl))) Via.refl rfl C4.2.1 (g := (mkF m 20 #[.val (.ref b), .val (.int (Int32.ofNat x)), .val (.int (Int32.ofNat y)), .val (.int (Int32.ofNat r3)), .val (.int (Int32.ofNat r4)), .unset] [(.ref b)])) rfl rfl (hb hby d6_20)
    obtain ⟨T6, X6, e6, st6⟩ := getF X5 hx hZ hown (host := "") (Or.inl (hw _ (List.mem_of_getElem? (i := 10) rfl))) Via.refl e5 C4.2.1 (g := (mkF m 26 #[.val (.ref b), .val (.int (Int32.ofNat x)), .val (.int (Int32.ofNat y)), .val (.int (Int32.ofNat r3)), .val (.int (Int32.ofNat r4)), .unset] [(.ref b), (.int (p4 r3))])) rfl rfl (hb hby d6_26)
    have C6 : own_C Z T6.heap n0 b pa p4 := by rw [e6]; exact C4
    by_cases hlt : p4 r4 < p4 r3
    · obtain ⟨T7, L7, X7, N7, K7, C7, st7⟩ := own_j_tail (xv := Int32.ofNat x) (yv := Int32.ofNat y) (t := r4) (u := r3) (s5 := .val (.int (Int32.ofNat r3))) X6 hx hZ hw hby hown N4 C6 a4 a3
      rw [e6] at K7
      obtain ⟨fs, hr, hrun, hended, hW, hsame⟩ := X7.leave (v := none) (fun _ => rfl)
      refine ⟨_, _, pre0 _ ?_, hrun, hended, _, _, rfl, ?_, ⟨_, rfl⟩, hW, hsame.mono (by decide) (by decide)⟩
      · show Steps p.tables e below (s₁.setTop (mkF m 0 #[.val (.ref b), .val (.int (Int32.ofNat x)), .val (.int (Int32.ofNat y)), .unset, .unset, .unset] [])) _
        refine XS.aloadN X0.here hx rfl (hb hby d6_0) rfl rfl ?_
        show Steps p.tables e below (s₁.setTop (mkF m 1 #[.val (.ref b), .val (.int (Int32.ofNat x)), .val (.int (Int32.ofNat y)), .unset, .unset, .unset] [(.ref b)])) _
        refine XS.iloadN X0.here hx rfl (hb hby d6_1) rfl ?_
        show Steps p.tables e below (s₁.setTop (mkF m 2 #[.val (.ref b), .val (.int (Int32.ofNat x)), .val (.int (Int32.ofNat y)), .unset, .unset, .unset] [(.int (Int32.ofNat x)), (.ref b)])) _
        refine st3.trans ?_
        show Steps p.tables e below (T3.setTop (mkF m 5 #[.val (.ref b), .val (.int (Int32.ofNat x)), .val (.int (Int32.ofNat y)), .unset, .unset, .unset] [(.int (Int32.ofNat r3))])) _
        refine XS.istoreN X3.here hx rfl (hb hby d6_5) rfl (l' := #[.val (.ref b), .val (.int (Int32.ofNat x)), .val (.int (Int32.ofNat y)), .val (.int (Int32.ofNat r3)), .unset, .unset]) rfl ?_
        show Steps p.tables e below (T3.setTop (mkF m 6 #[.val (.ref b), .val (.int (Int32.ofNat x)), .val (.int (Int32.ofNat y)), .val (.int (Int32.ofNat r3)), .unset, .unset] [])) _
        refine XS.aloadN X3.here hx rfl (hb hby d6_6) rfl rfl ?_
        show Steps p.tables e below (T3.setTop (mkF m 7 #[.val (.ref b), .val (.int (Int32.ofNat x)), .val (.int (Int32.ofNat y)), .val (.int (Int32.ofNat r3)), .unset, .unset] [(.ref b)])) _
        refine XS.iloadN X3.here hx rfl (hb hby d6_7) rfl ?_
        show Steps p.tables e below (T3.setTop (mkF m 8 #[.val (.ref b), .val (.int (Int32.ofNat x)), .val (.int (Int32.ofNat y)), .val (.int (Int32.ofNat r3)), .unset, .unset] [(.int (Int32.ofNat y)), (.ref b)])) _
        refine st4.trans ?_
        show Steps p.tables e below (T4.setTop (mkF m 11 #[.val (.ref b), .val (.int (Int32.ofNat x)), .val (.int (Int32.ofNat y)), .val (.int (Int32.ofNat r3)), .unset, .unset] [(.int (Int32.ofNat r4))])) _
        refine XS.istore X4.here hx rfl (hb hby d6_11) rfl (l' := #[.val (.ref b), .val (.int (Int32.ofNat x)), .val (.int (Int32.ofNat y)), .val (.int (Int32.ofNat r3)), .val (.int (Int32.ofNat r4)), .unset]) rfl ?_
        show Steps p.tables e below (T4.setTop (mkF m 13 #[.val (.ref b), .val (.int (Int32.ofNat x)), .val (.int (Int32.ofNat y)), .val (.int (Int32.ofNat r3)), .val (.int (Int32.ofNat r4)), .unset] [])) _
        refine XS.iloadN X4.here hx rfl (hb hby d6_13) rfl ?_
        show Steps p.tables e below (T4.setTop (mkF m 14 #[.val (.ref b), .val (.int (Int32.ofNat x)), .val (.int (Int32.ofNat y)), .val (.int (Int32.ofNat r3)), .val (.int (Int32.ofNat r4)), .unset] [(.int (Int32.ofNat r3))])) _
        refine XS.iload X4.here hx rfl (hb hby d6_14) rfl ?_
        show Steps p.tables e below (T4.setTop (mkF m 16 #[.val (.ref b), .val (.int (Int32.ofNat x)), .val (.int (Int32.ofNat y)), .val (.int (Int32.ofNat r3)), .val (.int (Int32.ofNat r4)), .unset] [(.int (Int32.ofNat r4)), (.int (Int32.ofNat r3))])) _
        refine XS.icmpNo X4.here hx rfl (hb hby d6_16) rfl (feq (fun z => he (own_inj a3 a4 z))).1 ?_
        show Steps p.tables e below (T4.setTop (mkF m 19 #[.val (.ref b), .val (.int (Int32.ofNat x)), .val (.int (Int32.ofNat y)), .val (.int (Int32.ofNat r3)), .val (.int (Int32.ofNat r4)), .unset] [])) _
        refine XS.aloadN X4.here hx rfl (hb hby d6_19) rfl rfl ?_
        show Steps p.tables e below (T4.setTop (mkF m 20 #[.val (.ref b), .val (.int (Int32.ofNat x)), .val (.int (Int32.ofNat y)), .val (.int (Int32.ofNat r3)), .val (.int (Int32.ofNat r4)), .unset] [(.ref b)])) _
        refine st5 _ ?_
        show Steps p.tables e below (T5.setTop (mkF m 23 #[.val (.ref b), .val (.int (Int32.ofNat x)), .val (.int (Int32.ofNat y)), .val (.int (Int32.ofNat r3)), .val (.int (Int32.ofNat r4)), .unset] [(.ref pa)])) _
        refine XS.iloadN X5.here hx rfl (hb hby d6_23) rfl ?_
        show Steps p.tables e below (T5.setTop (mkF m 24 #[.val (.ref b), .val (.int (Int32.ofNat x)), .val (.int (Int32.ofNat y)), .val (.int (Int32.ofNat r3)), .val (.int (Int32.ofNat r4)), .unset] [(.int (Int32.ofNat r3)), (.ref pa)])) _
        refine X5.iaload hx (j := (Int32.ofNat r3)) (v := (.int (p4 r3))) (by rw [e5]; exact Ar9.1) (State.isArrayOf_alike hZ.alike Ar9.2.1) Ar9.2.2 (own_in S9 (by omega) (by omega)) (own_at H9 (by omega) (by omega) rfl) (g := (mkF m 24 #[.val (.ref b), .val (.int (Int32.ofNat x)), .val (.int (Int32.ofNat y)), .val (.int (Int32.ofNat r3)), .val (.int (Int32.ofNat r4)), .unset] [(.int (Int32.ofNat r3)), (.ref pa)])) rfl rfl (hb hby d6_24) _ ?_
        show Steps p.tables e below (T5.setTop (mkF m 25 #[.val (.ref b), .val (.int (Int32.ofNat x)), .val (.int (Int32.ofNat y)), .val (.int (Int32.ofNat r3)), .val (.int (Int32.ofNat r4)), .unset] [(.int (p4 r3))])) _
        refine XS.aloadN X5.here hx rfl (hb hby d6_25) rfl rfl ?_
        show Steps p.tables e below (T5.setTop (mkF m 26 #[.val (.ref b), .val (.int (Int32.ofNat x)), .val (.int (Int32.ofNat y)), .val (.int (Int32.ofNat r3)), .val (.int (Int32.ofNat r4)), .unset] [(.ref b), (.int (p4 r3))])) _
        refine st6 _ ?_
        show Steps p.tables e below (T6.setTop (mkF m 29 #[.val (.ref b), .val (.int (Int32.ofNat x)), .val (.int (Int32.ofNat y)), .val (.int (Int32.ofNat r3)), .val (.int (Int32.ofNat r4)), .unset] [(.ref pa), (.int (p4 r3))])) _
        refine XS.iload X6.here hx rfl (hb hby d6_29) rfl ?_
        show Steps p.tables e below (T6.setTop (mkF m 31 #[.val (.ref b), .val (.int (Int32.ofNat x)), .val (.int (Int32.ofNat y)), .val (.int (Int32.ofNat r3)), .val (.int (Int32.ofNat r4)), .unset] [(.int (Int32.ofNat r4)), (.ref pa), (.int (p4 r3))])) _
        refine X6.iaload hx (j := (Int32.ofNat r4)) (v := (.int (p4 r4))) (by rw [e6]; exact Ar9.1) (State.isArrayOf_alike hZ.alike Ar9.2.1) Ar9.2.2 (own_in S9 (by omega) (by omega)) (own_at H9 (by omega) (by omega) rfl) (g := (mkF m 31 #[.val (.ref b), .val (.int (Int32.ofNat x)), .val (.int (Int32.ofNat y)), .val (.int (Int32.ofNat r3)), .val (.int (Int32.ofNat r4)), .unset] [(.int (Int32.ofNat r4)), (.ref pa), (.int (p4 r3))])) rfl rfl (hb hby d6_31) _ ?_
        show Steps p.tables e below (T6.setTop (mkF m 32 #[.val (.ref b), .val (.int (Int32.ofNat x)), .val (.int (Int32.ofNat y)), .val (.int (Int32.ofNat r3)), .val (.int (Int32.ofNat r4)), .unset] [(.int (p4 r4)), (.int (p4 r3))])) _
        refine XS.icmpNo X6.here hx rfl (hb hby d6_32) rfl (tlt hlt).2.2.2 ?_
        show Steps p.tables e below (T6.setTop (mkF m 35 #[.val (.ref b), .val (.int (Int32.ofNat x)), .val (.int (Int32.ofNat y)), .val (.int (Int32.ofNat r3)), .val (.int (Int32.ofNat r4)), .unset] [])) _
        refine XS.iloadN X6.here hx rfl (hb hby d6_35) rfl ?_
        show Steps p.tables e below (T6.setTop (mkF m 36 #[.val (.ref b), .val (.int (Int32.ofNat x)), .val (.int (Int32.ofNat y)), .val (.int (Int32.ofNat r3)), .val (.int (Int32.ofNat r4)), .unset] [(.int (Int32.ofNat r3))])) _
        refine XS.istore X6.here hx rfl (hb hby d6_36) rfl (l' := #[.val (.ref b), .val (.int (Int32.ofNat x)), .val (.int (Int32.ofNat y)), .val (.int (Int32.ofNat r3)), .val (.int (Int32.ofNat r4)), .val (.int (Int32.ofNat r3))]) rfl ?_
        show Steps p.tables e below (T6.setTop (mkF m 38 #[.val (.ref b), .val (.int (Int32.ofNat x)), .val (.int (Int32.ofNat y)), .val (.int (Int32.ofNat r3)), .val (.int (Int32.ofNat r4)), .val (.int (Int32.ofNat r3))] [])) _
        refine XS.iload X6.here hx rfl (hb hby d6_38) rfl ?_
        show Steps p.tables e below (T6.setTop (mkF m 40 #[.val (.ref b), .val (.int (Int32.ofNat x)), .val (.int (Int32.ofNat y)), .val (.int (Int32.ofNat r3)), .val (.int (Int32.ofNat r4)), .val (.int (Int32.ofNat r3))] [(.int (Int32.ofNat r4))])) _
        refine XS.istoreN X6.here hx rfl (hb hby d6_40) rfl (l' := #[.val (.ref b), .val (.int (Int32.ofNat x)), .val (.int (Int32.ofNat y)), .val (.int (Int32.ofNat r4)), .val (.int (Int32.ofNat r4)), .val (.int (Int32.ofNat r3))]) rfl ?_
        show Steps p.tables e below (T6.setTop (mkF m 41 #[.val (.ref b), .val (.int (Int32.ofNat x)), .val (.int (Int32.ofNat y)), .val (.int (Int32.ofNat r4)), .val (.int (Int32.ofNat r4)), .val (.int (Int32.ofNat r3))] [])) _
        refine XS.iload X6.here hx rfl (hb hby d6_41) rfl ?_
        show Steps p.tables e below (T6.setTop (mkF m 43 #[.val (.ref b), .val (.int (Int32.ofNat x)), .val (.int (Int32.ofNat y)), .val (.int (Int32.ofNat r4)), .val (.int (Int32.ofNat r4)), .val (.int (Int32.ofNat r3))] [(.int (Int32.ofNat r3))])) _
        refine XS.istore X6.here hx rfl (hb hby d6_43) rfl (l' := #[.val (.ref b), .val (.int (Int32.ofNat x)), .val (.int (Int32.ofNat y)), .val (.int (Int32.ofNat r4)), .val (.int (Int32.ofNat r3)), .val (.int (Int32.ofNat r3))]) rfl ?_
        show Steps p.tables e below (T6.setTop (mkF m 45 #[.val (.ref b), .val (.int (Int32.ofNat x)), .val (.int (Int32.ofNat y)), .val (.int (Int32.ofNat r4)), .val (.int (Int32.ofNat r3)), .val (.int (Int32.ofNat r3))] [])) _
        refine st7 _ ?_
        show Steps p.tables e below (T7.setTop (mkF m 69 #[.val (.ref b), .val (.int (Int32.ofNat x)), .val (.int (Int32.ofNat y)), .val (.int (Int32.ofNat r4)), .val (.int (Int32.ofNat r3)), .val (.int (Int32.ofNat r3))] [])) _
        exact X7.returnOut hx Bd.returns (hb hby d6_69) hr
      · show Q6 Z b pa x y pp lab d B h0 n0 _ T7.heap _
        exact ⟨rfl, N7, Nat.le_trans Z4 K7.1, K34.trans K7 (fun z hz => Or.inl hz), _, _, C7, own_link hB2 I4 a4 a3 (fun z => he z.symm) b4 (by rw [s34]; exact b3) (Or.inr ⟨c4, c3⟩)⟩
    · obtain ⟨T7, L7, X7, N7, K7, C7, st7⟩ := own_j_tail (xv := Int32.ofNat x) (yv := Int32.ofNat y) (t := r3) (u := r4) (s5 := .unset) X6 hx hZ hw hby hown N4 C6 a3 a4
      rw [e6] at K7
      obtain ⟨fs, hr, hrun, hended, hW, hsame⟩ := X7.leave (v := none) (fun _ => rfl)
      refine ⟨_, _, pre0 _ ?_, hrun, hended, _, _, rfl, ?_, ⟨_, rfl⟩, hW, hsame.mono (by decide) (by decide)⟩
      · show Steps p.tables e below (s₁.setTop (mkF m 0 #[.val (.ref b), .val (.int (Int32.ofNat x)), .val (.int (Int32.ofNat y)), .unset, .unset, .unset] [])) _
        refine XS.aloadN X0.here hx rfl (hb hby d6_0) rfl rfl ?_
        show Steps p.tables e below (s₁.setTop (mkF m 1 #[.val (.ref b), .val (.int (Int32.ofNat x)), .val (.int (Int32.ofNat y)), .unset, .unset, .unset] [(.ref b)])) _
        refine XS.iloadN X0.here hx rfl (hb hby d6_1) rfl ?_
        show Steps p.tables e below (s₁.setTop (mkF m 2 #[.val (.ref b), .val (.int (Int32.ofNat x)), .val (.int (Int32.ofNat y)), .unset, .unset, .unset] [(.int (Int32.ofNat x)), (.ref b)])) _
        refine st3.trans ?_
        show Steps p.tables e below (T3.setTop (mkF m 5 #[.val (.ref b), .val (.int (Int32.ofNat x)), .val (.int (Int32.ofNat y)), .unset, .unset, .unset] [(.int (Int32.ofNat r3))])) _
        refine XS.istoreN X3.here hx rfl (hb hby d6_5) rfl (l' := #[.val (.ref b), .val (.int (Int32.ofNat x)), .val (.int (Int32.ofNat y)), .val (.int (Int32.ofNat r3)), .unset, .unset]) rfl ?_
        show Steps p.tables e below (T3.setTop (mkF m 6 #[.val (.ref b), .val (.int (Int32.ofNat x)), .val (.int (Int32.ofNat y)), .val (.int (Int32.ofNat r3)), .unset, .unset] [])) _
        refine XS.aloadN X3.here hx rfl (hb hby d6_6) rfl rfl ?_
        show Steps p.tables e below (T3.setTop (mkF m 7 #[.val (.ref b), .val (.int (Int32.ofNat x)), .val (.int (Int32.ofNat y)), .val (.int (Int32.ofNat r3)), .unset, .unset] [(.ref b)])) _
        refine XS.iloadN X3.here hx rfl (hb hby d6_7) rfl ?_
        show Steps p.tables e below (T3.setTop (mkF m 8 #[.val (.ref b), .val (.int (Int32.ofNat x)), .val (.int (Int32.ofNat y)), .val (.int (Int32.ofNat r3)), .unset, .unset] [(.int (Int32.ofNat y)), (.ref b)])) _
        refine st4.trans ?_
        show Steps p.tables e below (T4.setTop (mkF m 11 #[.val (.ref b), .val (.int (Int32.ofNat x)), .val (.int (Int32.ofNat y)), .val (.int (Int32.ofNat r3)), .unset, .unset] [(.int (Int32.ofNat r4))])) _
        refine XS.istore X4.here hx rfl (hb hby d6_11) rfl (l' := #[.val (.ref b), .val (.int (Int32.ofNat x)), .val (.int (Int32.ofNat y)), .val (.int (Int32.ofNat r3)), .val (.int (Int32.ofNat r4)), .unset]) rfl ?_
        show Steps p.tables e below (T4.setTop (mkF m 13 #[.val (.ref b), .val (.int (Int32.ofNat x)), .val (.int (Int32.ofNat y)), .val (.int (Int32.ofNat r3)), .val (.int (Int32.ofNat r4)), .unset] [])) _
        refine XS.iloadN X4.here hx rfl (hb hby d6_13) rfl ?_
        show Steps p.tables e below (T4.setTop (mkF m 14 #[.val (.ref b), .val (.int (Int32.ofNat x)), .val (.int (Int32.ofNat y)), .val (.int (Int32.ofNat r3)), .val (.int (Int32.ofNat r4)), .unset] [(.int (Int32.ofNat r3))])) _
        refine XS.iload X4.here hx rfl (hb hby d6_14) rfl ?_
        show Steps p.tables e below (T4.setTop (mkF m 16 #[.val (.ref b), .val (.int (Int32.ofNat x)), .val (.int (Int32.ofNat y)), .val (.int (Int32.ofNat r3)), .val (.int (Int32.ofNat r4)), .unset] [(.int (Int32.ofNat r4)), (.int (Int32.ofNat r3))])) _
        refine XS.icmpNo X4.here hx rfl (hb hby d6_16) rfl (feq (fun z => he (own_inj a3 a4 z))).1 ?_
        show Steps p.tables e below (T4.setTop (mkF m 19 #[.val (.ref b), .val (.int (Int32.ofNat x)), .val (.int (Int32.ofNat y)), .val (.int (Int32.ofNat r3)), .val (.int (Int32.ofNat r4)), .unset] [])) _
        refine XS.aloadN X4.here hx rfl (hb hby d6_19) rfl rfl ?_
        show Steps p.tables e below (T4.setTop (mkF m 20 #[.val (.ref b), .val (.int (Int32.ofNat x)), .val (.int (Int32.ofNat y)), .val (.int (Int32.ofNat r3)), .val (.int (Int32.ofNat r4)), .unset] [(.ref b)])) _
        refine st5 _ ?_
        show Steps p.tables e below (T5.setTop (mkF m 23 #[.val (.ref b), .val (.int (Int32.ofNat x)), .val (.int (Int32.ofNat y)), .val (.int (Int32.ofNat r3)), .val (.int (Int32.ofNat r4)), .unset] [(.ref pa)])) _
        refine XS.iloadN X5.here hx rfl (hb hby d6_23) rfl ?_
        show Steps p.tables e below (T5.setTop (mkF m 24 #[.val (.ref b), .val (.int (Int32.ofNat x)), .val (.int (Int32.ofNat y)), .val (.int (Int32.ofNat r3)), .val (.int (Int32.ofNat r4)), .unset] [(.int (Int32.ofNat r3)), (.ref pa)])) _
        refine X5.iaload hx (j := (Int32.ofNat r3)) (v := (.int (p4 r3))) (by rw [e5]; exact Ar9.1) (State.isArrayOf_alike hZ.alike Ar9.2.1) Ar9.2.2 (own_in S9 (by omega) (by omega)) (own_at H9 (by omega) (by omega) rfl) (g := (mkF m 24 #[.val (.ref b), .val (.int (Int32.ofNat x)), .val (.int (Int32.ofNat y)), .val (.int (Int32.ofNat r3)), .val (.int (Int32.ofNat r4)), .unset] [(.int (Int32.ofNat r3)), (.ref pa)])) rfl rfl (hb hby d6_24) _ ?_
        show Steps p.tables e below (T5.setTop (mkF m 25 #[.val (.ref b), .val (.int (Int32.ofNat x)), .val (.int (Int32.ofNat y)), .val (.int (Int32.ofNat r3)), .val (.int (Int32.ofNat r4)), .unset] [(.int (p4 r3))])) _
        refine XS.aloadN X5.here hx rfl (hb hby d6_25) rfl rfl ?_
        show Steps p.tables e below (T5.setTop (mkF m 26 #[.val (.ref b), .val (.int (Int32.ofNat x)), .val (.int (Int32.ofNat y)), .val (.int (Int32.ofNat r3)), .val (.int (Int32.ofNat r4)), .unset] [(.ref b), (.int (p4 r3))])) _
        refine st6 _ ?_
        show Steps p.tables e below (T6.setTop (mkF m 29 #[.val (.ref b), .val (.int (Int32.ofNat x)), .val (.int (Int32.ofNat y)), .val (.int (Int32.ofNat r3)), .val (.int (Int32.ofNat r4)), .unset] [(.ref pa), (.int (p4 r3))])) _
        refine XS.iload X6.here hx rfl (hb hby d6_29) rfl ?_
        show Steps p.tables e below (T6.setTop (mkF m 31 #[.val (.ref b), .val (.int (Int32.ofNat x)), .val (.int (Int32.ofNat y)), .val (.int (Int32.ofNat r3)), .val (.int (Int32.ofNat r4)), .unset] [(.int (Int32.ofNat r4)), (.ref pa), (.int (p4 r3))])) _
        refine X6.iaload hx (j := (Int32.ofNat r4)) (v := (.int (p4 r4))) (by rw [e6]; exact Ar9.1) (State.isArrayOf_alike hZ.alike Ar9.2.1) Ar9.2.2 (own_in S9 (by omega) (by omega)) (own_at H9 (by omega) (by omega) rfl) (g := (mkF m 31 #[.val (.ref b), .val (.int (Int32.ofNat x)), .val (.int (Int32.ofNat y)), .val (.int (Int32.ofNat r3)), .val (.int (Int32.ofNat r4)), .unset] [(.int (Int32.ofNat r4)), (.ref pa), (.int (p4 r3))])) rfl rfl (hb hby d6_31) _ ?_
        show Steps p.tables e below (T6.setTop (mkF m 32 #[.val (.ref b), .val (.int (Int32.ofNat x)), .val (.int (Int32.ofNat y)), .val (.int (Int32.ofNat r3)), .val (.int (Int32.ofNat r4)), .unset] [(.int (p4 r4)), (.int (p4 r3))])) _
        refine XS.icmpYes X6.here hx rfl (pc0 := 32) (pc' := 45) rfl (hb hby d6_32) rfl (flt hlt).2.2.2 (by decide) (by decide) ?_
        show Steps p.tables e below (T6.setTop (mkF m 45 #[.val (.ref b), .val (.int (Int32.ofNat x)), .val (.int (Int32.ofNat y)), .val (.int (Int32.ofNat r3)), .val (.int (Int32.ofNat r4)), .unset] [])) _
        refine st7 _ ?_
        show Steps p.tables e below (T7.setTop (mkF m 69 #[.val (.ref b), .val (.int (Int32.ofNat x)), .val (.int (Int32.ofNat y)), .val (.int (Int32.ofNat r3)), .val (.int (Int32.ofNat r4)), .unset] [])) _
        exact X7.returnOut hx Bd.returns (hb hby d6_69) hr
      · show Q6 Z b pa x y pp lab d B h0 n0 _ T7.heap _
        exact ⟨rfl, N7, Nat.le_trans Z4 K7.1, K34.trans K7 (fun z hz => Or.inl hz), _, _, C7, own_link hB2 I4 a3 a4 he (by rw [s34]; exact b3) b4 (Or.inl ⟨c3, c4⟩)⟩
theorem d1_0 : decode prog_2_method_1_code 0 = .ok (.aload_n 0, 1) := by decide +kernel
theorem d1_1 : decode prog_2_method_1_code 1 = .ok (.invokespecial 1, 3) := by decide +kernel
theorem d1_4 : decode prog_2_method_1_code 4 = .ok (.aload_n 0, 1) := by decide +kernel
theorem d1_5 : decode prog_2_method_1_code 5 = .ok (.bipush 16, 2) := by decide +kernel
theorem d1_7 : decode prog_2_method_1_code 7 = .ok (.newarray .int, 2) := by decide +kernel
theorem d1_9 : decode prog_2_method_1_code 9 = .ok (.putfield 7, 3) := by decide +kernel
theorem d1_12 : decode prog_2_method_1_code 12 = .ok (.return_, 1) := by decide +kernel
theorem pn_1 : plainName "com/example/allotree/allotree/Components" = true := by first | (simp [plainName, overriddenIn]; done) | decide +kernel
theorem ef_1 (m : MethodId) (x0 : Addr) : entryFrame m #[(.ref x0)] 1 = mkF m 0 #[.val (.ref x0)] [] := by first | (simp [entryFrame, mkF, argsToLocals, Value.category]; done) | rfl
def Q1 (Z : State) (a1 : Addr) (h0 : Heap) (n0 : Nat) (v : Option Value) (h : Heap) (L : List Loc) : Prop := v = none ∧ Fr n0 L ∧ n0 ≤ h.size ∧ ∃ pa, own_C Z h n0 a1 pa (fun _ => 0) ∧ Fld Z h a1 "com/example/allotree/allotree/Components" "vertexCount" "I" (.int 0)
set_option maxRecDepth 65536 in
set_option maxHeartbeats 40000000 in
theorem rm1 (l : Launch) (Z : State) (a0 : Array Value) (hw : ∀ d ∈ tables_1, d.before a0 Z = true) (ws : List Jvm.Cond) (a1 : Addr) (h0 : Heap) (n0 : Nat) (Z0 : n0 ≤ h0.size) (E : Exa Z h0 a1 "com/example/allotree/allotree/Components") (F : Fld Z h0 a1 "com/example/allotree/allotree/Components" "parent" "[I" .null) (G : Fld Z h0 a1 "com/example/allotree/allotree/Components" "vertexCount" "I" (.int 0)) (g_a1 : n0 ≤ a1) :
    MetFree l (⟨"com/example/allotree/allotree/Components", "<init>", "()V"⟩ : MethodName) (head1 (Jvm.Cond.code (⟨"com/example/allotree/allotree/Components", "<init>", "()V"⟩ : MethodName) prog_2_method_1_code 1 none :: ws) ({ frames := 1, cells := 1, slots := 16, locals := 12 } : Room)) (fun a U => a = #[(.ref a1)] ∧ Z.Warmed39 U.vm ∧ U.heap = h0) (fun _ _ _ _ _ => True) (fun _ U o U' => ∃ v L, o = .returned v ∧ Q1 Z a1 h0 n0 v U'.heap L ∧ FrameEnd U o U' L ({ frames := 1, cells := 1, slots := 16, locals := 12 } : Room).cells ({ frames := 1, cells := 1, slots := 16, locals := 12 } : Room).slots) := by
  refine MetFree.of_bodySF (plainFor_of_name pn_1) hisR ?_
  intro p e s m args below meth c s₁ Bd hml0 hP hK
  obtain ⟨rfl, hZ, hh⟩ := hP
  have hx := Bd.exec
  have hby := Bd.bytes
  have hml : c.maxLocals = 1 := hml0
  have hown : s.vm.findClass "com/example/allotree/allotree/Components" = some m.cls := findClass_of_methodNamed Bd.named
  have hnm := (name_of_methodNamed Bd.named Bd.method).1
  have X0 : Stand p l e ({ frames := 1, cells := 1, slots := 16, locals := 12 } : Room) s m #[(.ref a1)] below meth c s₁ [] 0 0 := Stand.of_body Bd
  have e0 : s₁.heap = h0 := by rw [← hh, Bd.state]; rfl
  have N0 := Fr.nil n0
  have pre0 : ∀ t, Steps p.tables e below (s₁.setTop (mkF m 0 #[.val (.ref a1)] [])) t → Steps p.tables e below (s₁.setTop (entryFrame m #[(.ref a1)] 1)) t := fun t k => castTop (ef_1 m a1) k
  obtain ⟨T1, X1, e1, st1⟩ := initO X0 hx hZ hown (hw _ (List.mem_of_getElem? (i := 6) rfl)) (hw _ (List.mem_of_getElem? (i := 7) rfl)) (hw _ (List.mem_of_getElem? (i := 8) rfl)) e0 (g := (mkF m 1 #[.val (.ref a1)] [(.ref a1)])) rfl (by rw [hml]; rfl) rfl (hb hby d1_1) (by decide) (W := 0) (by show 2 * 0 + _ ≤ _; exact Nat.le_of_eq rfl) (by decide)
  obtain ⟨T2, h2, k2, X2, e2, E2, A2, st2⟩ := newP X1 hx hZ (hw _ (List.mem_of_getElem? (i := 9) rfl)) e1 (g := (mkF m 7 #[.val (.ref a1)] [(.int (16 : Int32)), (.ref a1)])) rfl (hb hby d1_7) rfl (by decide) (cap := 16) (by decide) (by decide) (by decide) (by decide)
  obtain ⟨b2, g2⟩ : ∃ z, z = h0.size := ⟨_, rfl⟩
  rw [← g2] at A2 st2
  have g_b2 : n0 ≤ b2 := Nat.le_trans Z0 (Nat.le_of_eq g2.symm)
  have ne2 : a1 ≠ b2 := by rw [g2]; exact Nat.ne_of_lt E.lt
  have P2 : own_P Z h2 b2 16 (fun _ => 0) := own_A.new (ty := .int) A2 rfl
  obtain ⟨T3, h3, X3, e3, W3, st3⟩ := putF X2 hx hZ hown (host := "") (Or.inl (hw _ (List.mem_of_getElem? (i := 10) rfl))) Via.refl e2 (F.ext E2) (E.ext E2) (Or.inl (hw _ (List.mem_of_getElem? (i := 11) rfl))) (hw _ (List.mem_of_getElem? (i := 1) rfl)) (ty := (.array .int)) (by decide) rfl rfl (g := (mkF m 9 #[.val (.ref a1)] [(.ref b2), (.ref a1)])) rfl rfl (hb hby d1_9)
  have N3 := Fr.snoc X3 N0 g_a1
  have C3 : own_C Z h3 n0 a1 b2 (fun _ => 0) := ⟨(E.ext E2).wr W3, (F.ext E2).same W3, own_A.other P2 W3 (fun z => ne2 z.symm), g_b2, ne2⟩
  have G3 := (G.ext E2).other W3 (Or.inr (slot_ne (Or.inl (hw _ (List.mem_of_getElem? (i := 18) rfl))) (Or.inl (hw _ (List.mem_of_getElem? (i := 11) rfl))) (by decide) (t := .int) (t' := (.array .int)) (by decide) (by decide)))
  obtain ⟨fs, hr, hrun, hended, hW, hsame⟩ := X3.leave (v := none) (fun _ => rfl)
  refine ⟨_, _, pre0 _ ?_, hrun, hended, _, _, rfl, ?_, ⟨_, rfl⟩, hW, hsame.mono (by decide) (by decide)⟩
  · show Steps p.tables e below (s₁.setTop (mkF m 0 #[.val (.ref a1)] [])) _
    refine XS.aloadN X0.here hx rfl (hb hby d1_0) rfl rfl ?_
    show Steps p.tables e below (s₁.setTop (mkF m 1 #[.val (.ref a1)] [(.ref a1)])) _
    refine st1 _ ?_
    show Steps p.tables e below (T1.setTop (mkF m 4 #[.val (.ref a1)] [])) _
    refine XS.aloadN X1.here hx rfl (hb hby d1_4) rfl rfl ?_
    show Steps p.tables e below (T1.setTop (mkF m 5 #[.val (.ref a1)] [(.ref a1)])) _
    refine XS.bipush X1.here hx rfl (hb hby d1_5) ?_
    show Steps p.tables e below (T1.setTop (mkF m 7 #[.val (.ref a1)] [(.int (16 : Int32)), (.ref a1)])) _
    refine st2 _ ?_
    show Steps p.tables e below (T2.setTop (mkF m 9 #[.val (.ref a1)] [(.ref b2), (.ref a1)])) _
    refine st3 _ ?_
    show Steps p.tables e below (T3.setTop (mkF m 12 #[.val (.ref a1)] [])) _
    exact X3.returnOut hx Bd.returns (hb hby d1_12) hr
  · show Q1 Z a1 h0 n0 _ T3.heap _
    exact ⟨rfl, N3, by rw [e3]; exact Nat.le_trans (Nat.le_trans Z0 E2.1) (Keep.of_wr W3).1, b2, by rw [e3]; exact C3, by rw [e3]; exact G3⟩
-- 1. FACTS
theorem d5_0 : decode jdk_65_method_30_code 0 = .ok (.iload_n 1, 1) := by decide +kernel
theorem d5_1 : decode jdk_65_method_30_code 1 = .ok (.iload_n 2, 1) := by decide +kernel
theorem d5_2 : decode jdk_65_method_30_code 2 = .ok (.if_icmp .le 44, 3) := by decide +kernel
theorem d5_46 : decode jdk_65_method_30_code 46 = .ok (.iload_n 1, 1) := by decide +kernel
theorem d5_47 : decode jdk_65_method_30_code 47 = .ok (.ifCond .ge 12, 3) := by decide +kernel
theorem d5_59 : decode jdk_65_method_30_code 59 = .ok (.iload_n 2, 1) := by decide +kernel
theorem d5_60 : decode jdk_65_method_30_code 60 = .ok (.iload_n 0, 1) := by decide +kernel
theorem d5_61 : decode jdk_65_method_30_code 61 = .ok (.if_icmp .le 12, 3) := by decide +kernel
theorem d5_73 : decode jdk_65_method_30_code 73 = .ok (.return_, 1) := by decide +kernel
theorem pn_5 : plainName "java/util/Arrays" = true := by first | (simp [plainName, overriddenIn]; done) | decide +kernel
theorem ef_5 (m : MethodId) (x0 : Int32) (x1 : Int32) (x2 : Int32) : entryFrame m #[(.int x0), (.int x1), (.int x2)] 3 = mkF m 0 #[.val (.int x0), .val (.int x1), .val (.int x2)] [] := by first | (simp [entryFrame, mkF, argsToLocals, Value.category]; done) | rfl
-- 2. THE CONTRACT: what this body leaves is yours
def Q5 (Z : State) (p1 : Int32) (p2 : Int32) (p3 : Int32) (h0 : Heap) (n0 : Nat) (v : Option Value) (h : Heap) (L : List Loc) : Prop := v = none ∧ Fr n0 L ∧ h = h0
set_option maxRecDepth 65536 in
set_option maxHeartbeats 40000000 in
theorem rm5 (l : Launch) (Z : State) (a0 : Array Value) (hw : ∀ d ∈ tables_1, d.before a0 Z = true) (ws : List Jvm.Cond) (p1 : Int32) (p2 : Int32) (p3 : Int32) (h0 : Heap) (n0 : Nat) (Z0 : n0 ≤ h0.size) (hc2 : ¬ (p3 < p2)) (hc47 : ¬ (p2 < (0 : Int32))) (hc61 : ¬ (p1 < p3)) :
    MetFree l (⟨"java/util/Arrays", "rangeCheck", "(III)V"⟩ : MethodName) (head1 (Jvm.Cond.code (⟨"java/util/Arrays", "rangeCheck", "(III)V"⟩ : MethodName) jdk_65_method_30_code 3 none :: ws) ({ frames := 0, cells := 0, slots := 0, locals := 0 } : Room)) (fun a U => a = #[(.int p1), (.int p2), (.int p3)] ∧ Z.Warmed39 U.vm ∧ U.heap = h0) (fun _ _ _ _ _ => True) (fun _ U o U' => ∃ v L, o = .returned v ∧ Q5 Z p1 p2 p3 h0 n0 v U'.heap L ∧ FrameEnd U o U' L ({ frames := 0, cells := 0, slots := 0, locals := 0 } : Room).cells ({ frames := 0, cells := 0, slots := 0, locals := 0 } : Room).slots) := by
  refine MetFree.of_bodySF (plainFor_of_name pn_5) hisR ?_
  intro p e s m args below meth c s₁ Bd hml0 hP hK
  obtain ⟨rfl, hZ, hh⟩ := hP
  have hx := Bd.exec
  have hby := Bd.bytes
  have hml : c.maxLocals = 3 := hml0
  have hown : s.vm.findClass "java/util/Arrays" = some m.cls := findClass_of_methodNamed Bd.named
  have hnm := (name_of_methodNamed Bd.named Bd.method).1
  have X0 : Stand p l e ({ frames := 0, cells := 0, slots := 0, locals := 0 } : Room) s m #[(.int p1), (.int p2), (.int p3)] below meth c s₁ [] 0 0 := Stand.of_body Bd
  have e0 : s₁.heap = h0 := by rw [← hh, Bd.state]; rfl
  have N0 := Fr.nil n0
  have pre0 : ∀ t, Steps p.tables e below (s₁.setTop (mkF m 0 #[.val (.int p1), .val (.int p2), .val (.int p3)] [])) t → Steps p.tables e below (s₁.setTop (entryFrame m #[(.int p1), (.int p2), (.int p3)] 3)) t := fun t k => castTop (ef_5 m p1 p2 p3) k
  -- 3. LAWS

  obtain ⟨fs, hr, hrun, hended, hW, hsame⟩ := X0.leave (v := none) (fun _ => rfl)
  refine ⟨_, _, pre0 _ ?_, hrun, hended, _, _, rfl, ?_, ⟨_, rfl⟩, hW, hsame.mono (by decide) (by decide)⟩
  -- 4. STEPS
  · show Steps p.tables e below (s₁.setTop (mkF m 0 #[.val (.int p1), .val (.int p2), .val (.int p3)] [])) _
    refine XS.iloadN X0.here hx rfl (hb hby d5_0) rfl ?_
    show Steps p.tables e below (s₁.setTop (mkF m 1 #[.val (.int p1), .val (.int p2), .val (.int p3)] [(.int p2)])) _
    refine XS.iloadN X0.here hx rfl (hb hby d5_1) rfl ?_
    show Steps p.tables e below (s₁.setTop (mkF m 2 #[.val (.int p1), .val (.int p2), .val (.int p3)] [(.int p3), (.int p2)])) _
    refine XS.icmpYes X0.here hx rfl (pc0 := 2) (pc' := 46) rfl (hb hby d5_2) rfl (flt hc2).2.2.2 (by decide) (by decide) ?_
    show Steps p.tables e below (s₁.setTop (mkF m 46 #[.val (.int p1), .val (.int p2), .val (.int p3)] [])) _
    refine XS.iloadN X0.here hx rfl (hb hby d5_46) rfl ?_
    show Steps p.tables e below (s₁.setTop (mkF m 47 #[.val (.int p1), .val (.int p2), .val (.int p3)] [(.int p2)])) _
    refine XS.ifYes X0.here hx rfl (pc0 := 47) (pc' := 59) rfl (hb hby d5_47) rfl ((if0 _ _).trans (flt hc47).2.1) (by decide) (by decide) ?_
    show Steps p.tables e below (s₁.setTop (mkF m 59 #[.val (.int p1), .val (.int p2), .val (.int p3)] [])) _
    refine XS.iloadN X0.here hx rfl (hb hby d5_59) rfl ?_
    show Steps p.tables e below (s₁.setTop (mkF m 60 #[.val (.int p1), .val (.int p2), .val (.int p3)] [(.int p3)])) _
    refine XS.iloadN X0.here hx rfl (hb hby d5_60) rfl ?_
    show Steps p.tables e below (s₁.setTop (mkF m 61 #[.val (.int p1), .val (.int p2), .val (.int p3)] [(.int p1), (.int p3)])) _
    refine XS.icmpYes X0.here hx rfl (pc0 := 61) (pc' := 73) rfl (hb hby d5_61) rfl (flt hc61).2.2.2 (by decide) (by decide) ?_
    show Steps p.tables e below (s₁.setTop (mkF m 73 #[.val (.int p1), .val (.int p2), .val (.int p3)] [])) _
    exact X0.returnOut hx Bd.returns (hb hby d5_73) hr
  · show Q5 Z p1 p2 p3 h0 n0 _ s₁.heap _
    rw [e0]
    exact ⟨rfl, N0, rfl⟩

def own_fl (k : Nat) : Nat → Int32 := fun j => if j < k then -1 else 0
theorem own_P.fill {Z : State} {h h' : Heap} {a : Addr} {N k : Nat} (A : own_P Z h a N (own_fl k)) (W : Wr h h' a (Int32.ofNat k).toNatClampNeg (.int (-1))) (hn : k < N) (hN : N < 2 ^ 31) : own_P Z h' a N (own_fl (k + 1)) := by
  refine own_P.congr (own_P.store A W hn hN) fun j hj => ?_
  show (if j = k then (-1 : Int32) else if j < k then -1 else 0) = if j < k + 1 then -1 else 0
  by_cases q : j = k
  · rw [if_pos q, if_pos (by omega)]
  · rw [if_neg q]
    by_cases q2 : j < k
    · rw [if_pos q2, if_pos (by omega)]
    · rw [if_neg q2, if_neg (by omega)]
theorem d4_0 : decode jdk_65_method_104_code 0 = .ok (.aload_n 0, 1) := by decide +kernel
theorem d4_1 : decode jdk_65_method_104_code 1 = .ok (.arraylength, 1) := by decide +kernel
theorem d4_2 : decode jdk_65_method_104_code 2 = .ok (.iload_n 1, 1) := by decide +kernel
theorem d4_3 : decode jdk_65_method_104_code 3 = .ok (.iload_n 2, 1) := by decide +kernel
theorem d4_4 : decode jdk_65_method_104_code 4 = .ok (.invokestatic 13, 3) := by decide +kernel
theorem d4_7 : decode jdk_65_method_104_code 7 = .ok (.iload_n 1, 1) := by decide +kernel
theorem d4_8 : decode jdk_65_method_104_code 8 = .ok (.istore 4, 2) := by decide +kernel
theorem d4_10 : decode jdk_65_method_104_code 10 = .ok (.iload 4, 2) := by decide +kernel
theorem d4_12 : decode jdk_65_method_104_code 12 = .ok (.iload_n 2, 1) := by decide +kernel
theorem d4_13 : decode jdk_65_method_104_code 13 = .ok (.if_icmp .ge 14, 3) := by decide +kernel
theorem d4_16 : decode jdk_65_method_104_code 16 = .ok (.aload_n 0, 1) := by decide +kernel
theorem d4_17 : decode jdk_65_method_104_code 17 = .ok (.iload 4, 2) := by decide +kernel
theorem d4_19 : decode jdk_65_method_104_code 19 = .ok (.iload_n 3, 1) := by decide +kernel
theorem d4_20 : decode jdk_65_method_104_code 20 = .ok (.iastore, 1) := by decide +kernel
theorem d4_21 : decode jdk_65_method_104_code 21 = .ok (.iinc 4 1, 3) := by decide +kernel
theorem d4_24 : decode jdk_65_method_104_code 24 = .ok (.goto (-14), 3) := by decide +kernel
theorem d4_27 : decode jdk_65_method_104_code 27 = .ok (.return_, 1) := by decide +kernel
theorem pn_4 : plainName "java/util/Arrays" = true := by first | (simp [plainName, overriddenIn]; done) | decide +kernel
theorem ef_4 (m : MethodId) (x0 : Addr) (x1 : Int32) (x2 : Int32) (x3 : Int32) : entryFrame m #[(.ref x0), (.int x1), (.int x2), (.int x3)] 5 = mkF m 0 #[.val (.ref x0), .val (.int x1), .val (.int x2), .val (.int x3), .unset] [] := by first | (simp [entryFrame, mkF, argsToLocals, Value.category]; done) | rfl
def Q4 (Z : State) (a1 : Addr) (h0 : Heap) (n0 : Nat) (v : Option Value) (h : Heap) (L : List Loc) : Prop := v = none ∧ Fr n0 L ∧ n0 ≤ h.size ∧ Keep h0 h [a1] ∧ own_P Z h a1 16 (own_fl 4)
set_option maxRecDepth 65536 in
set_option maxHeartbeats 40000000 in
theorem rm4 (l : Launch) (Z : State) (a0 : Array Value) (hw : ∀ d ∈ tables_1, d.before a0 Z = true) (ws : List Jvm.Cond) (a1 : Addr) (h0 : Heap) (n0 : Nat) (Z0 : n0 ≤ h0.size) (A : own_P Z h0 a1 16 (own_fl 0)) (g_a1 : n0 ≤ a1) :
    MetFree l (⟨"java/util/Arrays", "fill", "([IIII)V"⟩ : MethodName) (head1 (Jvm.Cond.code (⟨"java/util/Arrays", "fill", "([IIII)V"⟩ : MethodName) jdk_65_method_104_code 5 none :: ws) ({ frames := 1, cells := 0, slots := 0, locals := 14 } : Room)) (fun a U => a = #[(.ref a1), (.int (0 : Int32)), (.int (4 : Int32)), (.int (-1 : Int32))] ∧ Z.Warmed39 U.vm ∧ U.heap = h0) (fun _ _ _ _ _ => True) (fun _ U o U' => ∃ v L, o = .returned v ∧ Q4 Z a1 h0 n0 v U'.heap L ∧ FrameEnd U o U' L ({ frames := 1, cells := 0, slots := 0, locals := 14 } : Room).cells ({ frames := 1, cells := 0, slots := 0, locals := 14 } : Room).slots) := by
  refine MetFree.of_bodySF (plainFor_of_name pn_4) hisR ?_
  intro p e s m args below meth c s₁ Bd hml0 hP hK
  obtain ⟨rfl, hZ, hh⟩ := hP
  have hx := Bd.exec
  have hby := Bd.bytes
  have hml : c.maxLocals = 5 := hml0
  have hown : s.vm.findClass "java/util/Arrays" = some m.cls := findClass_of_methodNamed Bd.named
  have hnm := (name_of_methodNamed Bd.named Bd.method).1
  have X0 : Stand p l e ({ frames := 1, cells := 0, slots := 0, locals := 14 } : Room) s m #[(.ref a1), (.int (0 : Int32)), (.int (4 : Int32)), (.int (-1 : Int32))] below meth c s₁ [] 0 0 := Stand.of_body Bd
  have e0 : s₁.heap = h0 := by rw [← hh, Bd.state]; rfl
  have N0 := Fr.nil n0
  have pre0 : ∀ t, Steps p.tables e below (s₁.setTop (mkF m 0 #[.val (.ref a1), .val (.int (0 : Int32)), .val (.int (4 : Int32)), .val (.int (-1 : Int32)), .unset] [])) t → Steps p.tables e below (s₁.setTop (entryFrame m #[(.ref a1), (.int (0 : Int32)), (.int (4 : Int32)), (.int (-1 : Int32))] 5)) t := fun t k => castTop (ef_4 m a1 ((0 : Int32)) ((4 : Int32)) ((-1 : Int32))) k
  obtain ⟨c0, Ar0, S0, H0⟩ := id A
  obtain ⟨_, _, ⟨T1, L1, k1, n1⟩, -, X1, ⟨Lc1, hQ1, l1, y1, z1⟩, st1⟩ := Jvm.LawKit.callS X0 hx (y := (⟨"java/util/Arrays", "rangeCheck", "(III)V"⟩ : MethodName)) hown (mvT hZ (hw _ (List.mem_of_getElem? (i := 23) rfl))) (mvT hZ (hw _ (List.mem_of_getElem? (i := 24) rfl))) (mvT hZ (hw _ (List.mem_of_getElem? (i := 21) rfl))) (mvT hZ (hw _ (List.mem_of_getElem? (i := 25) rfl))) (by decide) (backOf (W := 0) (rm5 l Z a0 hw [] (16 : Int32) (0 : Int32) (4 : Int32) h0 n0 Z0 (by decide) (by decide) (by decide)) hZ (hw _ (List.mem_of_getElem? (i := 25) rfl)) (hw _ (List.mem_of_getElem? (i := 21) rfl)) (by decide) (by decide)) (g := (mkF m 4 #[.val (.ref a1), .val (.int (0 : Int32)), .val (.int (4 : Int32)), .val (.int (-1 : Int32)), .unset] [(.int (4 : Int32)), (.int (0 : Int32)), (.int (16 : Int32))])) rfl (by rw [hml]; rfl) (argsL := [(.int (16 : Int32)), (.int (0 : Int32)), (.int (4 : Int32))]) (rest := []) (lenOf pd_rc rfl) rfl (by show 2 * 0 + _ ≤ _; exact Nat.le_of_eq rfl) (hb hby d4_4) (fun _ _ => ⟨rfl, e0, (by decide : 0 + 0 ≤ _), (by decide : 0 + 0 ≤ _)⟩)
  dsimp only [Pt.U, Pt.locs, Pt.cells, Pt.slots] at X1 l1 y1 z1 st1 hQ1
  subst l1 y1 z1
  obtain ⟨rfl, N1q, q1⟩ := hQ1
  have N1 := Fr.app N0 N1q
  have B1 := A
  have K1 : Keep h0 h0 [a1] := Keep.refl _ _
  obtain ⟨c2, Ar2, S2, H2⟩ := id B1
  obtain ⟨T2, h2, X2, e2, W2, st2⟩ := stI X1 hx hZ q1 Ar2 (j := (0 : Int32)) (own_in (n := 0) S2 (by decide) (by decide)) (g := (mkF m 20 #[.val (.ref a1), .val (.int (0 : Int32)), .val (.int (4 : Int32)), .val (.int (-1 : Int32)), .val (.int (0 : Int32))] [(.int (-1 : Int32)), (.int (0 : Int32)), (.ref a1)])) rfl rfl (hb hby d4_20)
  have B2 : own_P Z h2 a1 16 (own_fl 1) := own_P.fill (k := 0) B1 W2 (by decide) (by decide)
  have N2 := Fr.snoc X2 N1 g_a1
  have K2 := K1.wr W2 (Or.inl (List.mem_singleton.mpr rfl))
  obtain ⟨c3, Ar3, S3, H3⟩ := id B2
  obtain ⟨T3, h3, X3, e3, W3, st3⟩ := stI X2 hx hZ e2 Ar3 (j := (1 : Int32)) (own_in (n := 1) S3 (by decide) (by decide)) (g := (mkF m 20 #[.val (.ref a1), .val (.int (0 : Int32)), .val (.int (4 : Int32)), .val (.int (-1 : Int32)), .val (.int (1 : Int32))] [(.int (-1 : Int32)), (.int (1 : Int32)), (.ref a1)])) rfl rfl (hb hby d4_20)
  have B3 : own_P Z h3 a1 16 (own_fl 2) := own_P.fill (k := 1) B2 W3 (by decide) (by decide)
  have N3 := Fr.snoc X3 N2 g_a1
  have K3 := K2.wr W3 (Or.inl (List.mem_singleton.mpr rfl))
  obtain ⟨c4, Ar4, S4, H4⟩ := id B3
  obtain ⟨T4, h4, X4, e4, W4, st4⟩ := stI X3 hx hZ e3 Ar4 (j := (2 : Int32)) (own_in (n := 2) S4 (by decide) (by decide)) (g := (mkF m 20 #[.val (.ref a1), .val (.int (0 : Int32)), .val (.int (4 : Int32)), .val (.int (-1 : Int32)), .val (.int (2 : Int32))] [(.int (-1 : Int32)), (.int (2 : Int32)), (.ref a1)])) rfl rfl (hb hby d4_20)
  have B4 : own_P Z h4 a1 16 (own_fl 3) := own_P.fill (k := 2) B3 W4 (by decide) (by decide)
  have N4 := Fr.snoc X4 N3 g_a1
  have K4 := K3.wr W4 (Or.inl (List.mem_singleton.mpr rfl))
  obtain ⟨c5, Ar5, S5, H5⟩ := id B4
  obtain ⟨T5, h5, X5, e5, W5, st5⟩ := stI X4 hx hZ e4 Ar5 (j := (3 : Int32)) (own_in (n := 3) S5 (by decide) (by decide)) (g := (mkF m 20 #[.val (.ref a1), .val (.int (0 : Int32)), .val (.int (4 : Int32)), .val (.int (-1 : Int32)), .val (.int (3 : Int32))] [(.int (-1 : Int32)), (.int (3 : Int32)), (.ref a1)])) rfl rfl (hb hby d4_20)
  have B5 : own_P Z h5 a1 16 (own_fl 4) := own_P.fill (k := 3) B4 W5 (by decide) (by decide)
  have N5 := Fr.snoc X5 N4 g_a1
  have K5 := K4.wr W5 (Or.inl (List.mem_singleton.mpr rfl))
  obtain ⟨fs, hr, hrun, hended, hW, hsame⟩ := X5.leave (v := none) (fun _ => rfl)
  refine ⟨_, _, pre0 _ ?_, hrun, hended, _, _, rfl, ?_, ⟨_, rfl⟩, hW, hsame.mono (by decide) (by decide)⟩
  · show Steps p.tables e below (s₁.setTop (mkF m 0 #[.val (.ref a1), .val (.int (0 : Int32)), .val (.int (4 : Int32)), .val (.int (-1 : Int32)), .unset] [])) _
    refine XS.aloadN X0.here hx rfl (hb hby d4_0) rfl rfl ?_
    show Steps p.tables e below (s₁.setTop (mkF m 1 #[.val (.ref a1), .val (.int (0 : Int32)), .val (.int (4 : Int32)), .val (.int (-1 : Int32)), .unset] [(.ref a1)])) _
    refine X0.arraylength hx (by rw [e0]; exact Ar0.1) (State.isArrayOf_alike hZ.alike Ar0.2.1) (g := (mkF m 1 #[.val (.ref a1), .val (.int (0 : Int32)), .val (.int (4 : Int32)), .val (.int (-1 : Int32)), .unset] [(.ref a1)])) rfl rfl (hb hby d4_1) _ ?_
    show Steps p.tables e below (s₁.setTop (mkF m 2 #[.val (.ref a1), .val (.int (0 : Int32)), .val (.int (4 : Int32)), .val (.int (-1 : Int32)), .unset] [(.int (c0.slots.size).toInt32)])) _
    rw [S0]
    show Steps p.tables e below (s₁.setTop (mkF m 2 #[.val (.ref a1), .val (.int (0 : Int32)), .val (.int (4 : Int32)), .val (.int (-1 : Int32)), .unset] [(.int (16 : Int32))])) _
    refine XS.iloadN X0.here hx rfl (hb hby d4_2) rfl ?_
    show Steps p.tables e below (s₁.setTop (mkF m 3 #[.val (.ref a1), .val (.int (0 : Int32)), .val (.int (4 : Int32)), .val (.int (-1 : Int32)), .unset] [(.int (0 : Int32)), (.int (16 : Int32))])) _
    refine XS.iloadN X0.here hx rfl (hb hby d4_3) rfl ?_
    show Steps p.tables e below (s₁.setTop (mkF m 4 #[.val (.ref a1), .val (.int (0 : Int32)), .val (.int (4 : Int32)), .val (.int (-1 : Int32)), .unset] [(.int (4 : Int32)), (.int (0 : Int32)), (.int (16 : Int32))])) _
    refine st1 _ ?_
    show Steps p.tables e below (T1.setTop (mkF m 7 #[.val (.ref a1), .val (.int (0 : Int32)), .val (.int (4 : Int32)), .val (.int (-1 : Int32)), .unset] [])) _
    refine XS.iloadN X1.here hx rfl (hb hby d4_7) rfl ?_
    show Steps p.tables e below (T1.setTop (mkF m 8 #[.val (.ref a1), .val (.int (0 : Int32)), .val (.int (4 : Int32)), .val (.int (-1 : Int32)), .unset] [(.int (0 : Int32))])) _
    refine XS.istore X1.here hx rfl (hb hby d4_8) rfl (l' := #[.val (.ref a1), .val (.int (0 : Int32)), .val (.int (4 : Int32)), .val (.int (-1 : Int32)), .val (.int (0 : Int32))]) rfl ?_
    show Steps p.tables e below (T1.setTop (mkF m 10 #[.val (.ref a1), .val (.int (0 : Int32)), .val (.int (4 : Int32)), .val (.int (-1 : Int32)), .val (.int (0 : Int32))] [])) _
    refine XS.iload X1.here hx rfl (hb hby d4_10) rfl ?_
    show Steps p.tables e below (T1.setTop (mkF m 12 #[.val (.ref a1), .val (.int (0 : Int32)), .val (.int (4 : Int32)), .val (.int (-1 : Int32)), .val (.int (0 : Int32))] [(.int (0 : Int32))])) _
    refine XS.iloadN X1.here hx rfl (hb hby d4_12) rfl ?_
    show Steps p.tables e below (T1.setTop (mkF m 13 #[.val (.ref a1), .val (.int (0 : Int32)), .val (.int (4 : Int32)), .val (.int (-1 : Int32)), .val (.int (0 : Int32))] [(.int (4 : Int32)), (.int (0 : Int32))])) _
    refine XS.icmpNo X1.here hx rfl (hb hby d4_13) rfl (tlt (by decide)).2.1 ?_
    show Steps p.tables e below (T1.setTop (mkF m 16 #[.val (.ref a1), .val (.int (0 : Int32)), .val (.int (4 : Int32)), .val (.int (-1 : Int32)), .val (.int (0 : Int32))] [])) _
    refine XS.aloadN X1.here hx rfl (hb hby d4_16) rfl rfl ?_
    show Steps p.tables e below (T1.setTop (mkF m 17 #[.val (.ref a1), .val (.int (0 : Int32)), .val (.int (4 : Int32)), .val (.int (-1 : Int32)), .val (.int (0 : Int32))] [(.ref a1)])) _
    refine XS.iload X1.here hx rfl (hb hby d4_17) rfl ?_
    show Steps p.tables e below (T1.setTop (mkF m 19 #[.val (.ref a1), .val (.int (0 : Int32)), .val (.int (4 : Int32)), .val (.int (-1 : Int32)), .val (.int (0 : Int32))] [(.int (0 : Int32)), (.ref a1)])) _
    refine XS.iloadN X1.here hx rfl (hb hby d4_19) rfl ?_
    show Steps p.tables e below (T1.setTop (mkF m 20 #[.val (.ref a1), .val (.int (0 : Int32)), .val (.int (4 : Int32)), .val (.int (-1 : Int32)), .val (.int (0 : Int32))] [(.int (-1 : Int32)), (.int (0 : Int32)), (.ref a1)])) _
    refine st2 _ ?_
    show Steps p.tables e below (T2.setTop (mkF m 21 #[.val (.ref a1), .val (.int (0 : Int32)), .val (.int (4 : Int32)), .val (.int (-1 : Int32)), .val (.int (0 : Int32))] [])) _
    refine XS.iinc X2.here hx rfl (hb hby d4_21) rfl (l' := #[.val (.ref a1), .val (.int (0 : Int32)), .val (.int (4 : Int32)), .val (.int (-1 : Int32)), .val (.int ((0 : Int32) + (1 : Int32)))]) rfl ?_
    show Steps p.tables e below (T2.setTop (mkF m 24 #[.val (.ref a1), .val (.int (0 : Int32)), .val (.int (4 : Int32)), .val (.int (-1 : Int32)), .val (.int (1 : Int32))] [])) _
    refine XS.goto X2.here hx rfl (pc0 := 24) (pc' := 10) rfl (hb hby d4_24) (by decide) (by decide) ?_
    show Steps p.tables e below (T2.setTop (mkF m 10 #[.val (.ref a1), .val (.int (0 : Int32)), .val (.int (4 : Int32)), .val (.int (-1 : Int32)), .val (.int (1 : Int32))] [])) _
    refine XS.iload X2.here hx rfl (hb hby d4_10) rfl ?_
    show Steps p.tables e below (T2.setTop (mkF m 12 #[.val (.ref a1), .val (.int (0 : Int32)), .val (.int (4 : Int32)), .val (.int (-1 : Int32)), .val (.int (1 : Int32))] [(.int (1 : Int32))])) _
    refine XS.iloadN X2.here hx rfl (hb hby d4_12) rfl ?_
    show Steps p.tables e below (T2.setTop (mkF m 13 #[.val (.ref a1), .val (.int (0 : Int32)), .val (.int (4 : Int32)), .val (.int (-1 : Int32)), .val (.int (1 : Int32))] [(.int (4 : Int32)), (.int (1 : Int32))])) _
    refine XS.icmpNo X2.here hx rfl (hb hby d4_13) rfl (tlt (by decide)).2.1 ?_
    show Steps p.tables e below (T2.setTop (mkF m 16 #[.val (.ref a1), .val (.int (0 : Int32)), .val (.int (4 : Int32)), .val (.int (-1 : Int32)), .val (.int (1 : Int32))] [])) _
    refine XS.aloadN X2.here hx rfl (hb hby d4_16) rfl rfl ?_
    show Steps p.tables e below (T2.setTop (mkF m 17 #[.val (.ref a1), .val (.int (0 : Int32)), .val (.int (4 : Int32)), .val (.int (-1 : Int32)), .val (.int (1 : Int32))] [(.ref a1)])) _
    refine XS.iload X2.here hx rfl (hb hby d4_17) rfl ?_
    show Steps p.tables e below (T2.setTop (mkF m 19 #[.val (.ref a1), .val (.int (0 : Int32)), .val (.int (4 : Int32)), .val (.int (-1 : Int32)), .val (.int (1 : Int32))] [(.int (1 : Int32)), (.ref a1)])) _
    refine XS.iloadN X2.here hx rfl (hb hby d4_19) rfl ?_
    show Steps p.tables e below (T2.setTop (mkF m 20 #[.val (.ref a1), .val (.int (0 : Int32)), .val (.int (4 : Int32)), .val (.int (-1 : Int32)), .val (.int (1 : Int32))] [(.int (-1 : Int32)), (.int (1 : Int32)), (.ref a1)])) _
    refine st3 _ ?_
    show Steps p.tables e below (T3.setTop (mkF m 21 #[.val (.ref a1), .val (.int (0 : Int32)), .val (.int (4 : Int32)), .val (.int (-1 : Int32)), .val (.int (1 : Int32))] [])) _
    refine XS.iinc X3.here hx rfl (hb hby d4_21) rfl (l' := #[.val (.ref a1), .val (.int (0 : Int32)), .val (.int (4 : Int32)), .val (.int (-1 : Int32)), .val (.int ((1 : Int32) + (1 : Int32)))]) rfl ?_
    show Steps p.tables e below (T3.setTop (mkF m 24 #[.val (.ref a1), .val (.int (0 : Int32)), .val (.int (4 : Int32)), .val (.int (-1 : Int32)), .val (.int (2 : Int32))] [])) _
    refine XS.goto X3.here hx rfl (pc0 := 24) (pc' := 10) rfl (hb hby d4_24) (by decide) (by decide) ?_
    show Steps p.tables e below (T3.setTop (mkF m 10 #[.val (.ref a1), .val (.int (0 : Int32)), .val (.int (4 : Int32)), .val (.int (-1 : Int32)), .val (.int (2 : Int32))] [])) _
    refine XS.iload X3.here hx rfl (hb hby d4_10) rfl ?_
    show Steps p.tables e below (T3.setTop (mkF m 12 #[.val (.ref a1), .val (.int (0 : Int32)), .val (.int (4 : Int32)), .val (.int (-1 : Int32)), .val (.int (2 : Int32))] [(.int (2 : Int32))])) _
    refine XS.iloadN X3.here hx rfl (hb hby d4_12) rfl ?_
    show Steps p.tables e below (T3.setTop (mkF m 13 #[.val (.ref a1), .val (.int (0 : Int32)), .val (.int (4 : Int32)), .val (.int (-1 : Int32)), .val (.int (2 : Int32))] [(.int (4 : Int32)), (.int (2 : Int32))])) _
    refine XS.icmpNo X3.here hx rfl (hb hby d4_13) rfl (tlt (by decide)).2.1 ?_
    show Steps p.tables e below (T3.setTop (mkF m 16 #[.val (.ref a1), .val (.int (0 : Int32)), .val (.int (4 : Int32)), .val (.int (-1 : Int32)), .val (.int (2 : Int32))] [])) _
    refine XS.aloadN X3.here hx rfl (hb hby d4_16) rfl rfl ?_
    show Steps p.tables e below (T3.setTop (mkF m 17 #[.val (.ref a1), .val (.int (0 : Int32)), .val (.int (4 : Int32)), .val (.int (-1 : Int32)), .val (.int (2 : Int32))] [(.ref a1)])) _
    refine XS.iload X3.here hx rfl (hb hby d4_17) rfl ?_
    show Steps p.tables e below (T3.setTop (mkF m 19 #[.val (.ref a1), .val (.int (0 : Int32)), .val (.int (4 : Int32)), .val (.int (-1 : Int32)), .val (.int (2 : Int32))] [(.int (2 : Int32)), (.ref a1)])) _
    refine XS.iloadN X3.here hx rfl (hb hby d4_19) rfl ?_
    show Steps p.tables e below (T3.setTop (mkF m 20 #[.val (.ref a1), .val (.int (0 : Int32)), .val (.int (4 : Int32)), .val (.int (-1 : Int32)), .val (.int (2 : Int32))] [(.int (-1 : Int32)), (.int (2 : Int32)), (.ref a1)])) _
    refine st4 _ ?_
    show Steps p.tables e below (T4.setTop (mkF m 21 #[.val (.ref a1), .val (.int (0 : Int32)), .val (.int (4 : Int32)), .val (.int (-1 : Int32)), .val (.int (2 : Int32))] [])) _
    refine XS.iinc X4.here hx rfl (hb hby d4_21) rfl (l' := #[.val (.ref a1), .val (.int (0 : Int32)), .val (.int (4 : Int32)), .val (.int (-1 : Int32)), .val (.int ((2 : Int32) + (1 : Int32)))]) rfl ?_
    show Steps p.tables e below (T4.setTop (mkF m 24 #[.val (.ref a1), .val (.int (0 : Int32)), .val (.int (4 : Int32)), .val (.int (-1 : Int32)), .val (.int (3 : Int32))] [])) _
    refine XS.goto X4.here hx rfl (pc0 := 24) (pc' := 10) rfl (hb hby d4_24) (by decide) (by decide) ?_
    show Steps p.tables e below (T4.setTop (mkF m 10 #[.val (.ref a1), .val (.int (0 : Int32)), .val (.int (4 : Int32)), .val (.int (-1 : Int32)), .val (.int (3 : Int32))] [])) _
    refine XS.iload X4.here hx rfl (hb hby d4_10) rfl ?_
    show Steps p.tables e below (T4.setTop (mkF m 12 #[.val (.ref a1), .val (.int (0 : Int32)), .val (.int (4 : Int32)), .val (.int (-1 : Int32)), .val (.int (3 : Int32))] [(.int (3 : Int32))])) _
    refine XS.iloadN X4.here hx rfl (hb hby d4_12) rfl ?_
    show Steps p.tables e below (T4.setTop (mkF m 13 #[.val (.ref a1), .val (.int (0 : Int32)), .val (.int (4 : Int32)), .val (.int (-1 : Int32)), .val (.int (3 : Int32))] [(.int (4 : Int32)), (.int (3 : Int32))])) _
    refine XS.icmpNo X4.here hx rfl (hb hby d4_13) rfl (tlt (by decide)).2.1 ?_
    show Steps p.tables e below (T4.setTop (mkF m 16 #[.val (.ref a1), .val (.int (0 : Int32)), .val (.int (4 : Int32)), .val (.int (-1 : Int32)), .val (.int (3 : Int32))] [])) _
    refine XS.aloadN X4.here hx rfl (hb hby d4_16) rfl rfl ?_
    show Steps p.tables e below (T4.setTop (mkF m 17 #[.val (.ref a1), .val (.int (0 : Int32)), .val (.int (4 : Int32)), .val (.int (-1 : Int32)), .val (.int (3 : Int32))] [(.ref a1)])) _
    refine XS.iload X4.here hx rfl (hb hby d4_17) rfl ?_
    show Steps p.tables e below (T4.setTop (mkF m 19 #[.val (.ref a1), .val (.int (0 : Int32)), .val (.int (4 : Int32)), .val (.int (-1 : Int32)), .val (.int (3 : Int32))] [(.int (3 : Int32)), (.ref a1)])) _
    refine XS.iloadN X4.here hx rfl (hb hby d4_19) rfl ?_
    show Steps p.tables e below (T4.setTop (mkF m 20 #[.val (.ref a1), .val (.int (0 : Int32)), .val (.int (4 : Int32)), .val (.int (-1 : Int32)), .val (.int (3 : Int32))] [(.int (-1 : Int32)), (.int (3 : Int32)), (.ref a1)])) _
    refine st5 _ ?_
    show Steps p.tables e below (T5.setTop (mkF m 21 #[.val (.ref a1), .val (.int (0 : Int32)), .val (.int (4 : Int32)), .val (.int (-1 : Int32)), .val (.int (3 : Int32))] [])) _
    refine XS.iinc X5.here hx rfl (hb hby d4_21) rfl (l' := #[.val (.ref a1), .val (.int (0 : Int32)), .val (.int (4 : Int32)), .val (.int (-1 : Int32)), .val (.int ((3 : Int32) + (1 : Int32)))]) rfl ?_
    show Steps p.tables e below (T5.setTop (mkF m 24 #[.val (.ref a1), .val (.int (0 : Int32)), .val (.int (4 : Int32)), .val (.int (-1 : Int32)), .val (.int (4 : Int32))] [])) _
    refine XS.goto X5.here hx rfl (pc0 := 24) (pc' := 10) rfl (hb hby d4_24) (by decide) (by decide) ?_
    show Steps p.tables e below (T5.setTop (mkF m 10 #[.val (.ref a1), .val (.int (0 : Int32)), .val (.int (4 : Int32)), .val (.int (-1 : Int32)), .val (.int (4 : Int32))] [])) _
    refine XS.iload X5.here hx rfl (hb hby d4_10) rfl ?_
    show Steps p.tables e below (T5.setTop (mkF m 12 #[.val (.ref a1), .val (.int (0 : Int32)), .val (.int (4 : Int32)), .val (.int (-1 : Int32)), .val (.int (4 : Int32))] [(.int (4 : Int32))])) _
    refine XS.iloadN X5.here hx rfl (hb hby d4_12) rfl ?_
    show Steps p.tables e below (T5.setTop (mkF m 13 #[.val (.ref a1), .val (.int (0 : Int32)), .val (.int (4 : Int32)), .val (.int (-1 : Int32)), .val (.int (4 : Int32))] [(.int (4 : Int32)), (.int (4 : Int32))])) _
    refine XS.icmpYes X5.here hx rfl (pc0 := 13) (pc' := 27) rfl (hb hby d4_13) rfl (flt (by decide)).2.1 (by decide) (by decide) ?_
    show Steps p.tables e below (T5.setTop (mkF m 27 #[.val (.ref a1), .val (.int (0 : Int32)), .val (.int (4 : Int32)), .val (.int (-1 : Int32)), .val (.int (4 : Int32))] [])) _
    exact X5.returnOut hx Bd.returns (hb hby d4_27) hr
  · show Q4 Z a1 h0 n0 _ T5.heap _
    exact ⟨rfl, N5, by rw [e5]; exact Nat.le_trans Z0 K5.1, by rw [e5]; exact K5, by rw [e5]; exact B5⟩
theorem d3_0 : decode prog_2_method_2_code 0 = .ok (.iload_n 1, 1) := by decide +kernel
theorem d3_1 : decode prog_2_method_2_code 1 = .ok (.aload_n 0, 1) := by decide +kernel
theorem d3_2 : decode prog_2_method_2_code 2 = .ok (.getfield 7, 3) := by decide +kernel
theorem d3_5 : decode prog_2_method_2_code 5 = .ok (.arraylength, 1) := by decide +kernel
theorem d3_6 : decode prog_2_method_2_code 6 = .ok (.if_icmp .le 25, 3) := by decide +kernel
theorem d3_9 : decode prog_2_method_2_code 9 = .ok (.aload_n 0, 1) := by decide +kernel
theorem d3_10 : decode prog_2_method_2_code 10 = .ok (.aload_n 0, 1) := by decide +kernel
theorem d3_11 : decode prog_2_method_2_code 11 = .ok (.getfield 7, 3) := by decide +kernel
theorem d3_14 : decode prog_2_method_2_code 14 = .ok (.iload_n 1, 1) := by decide +kernel
theorem d3_15 : decode prog_2_method_2_code 15 = .ok (.iconst 2, 1) := by decide +kernel
theorem d3_16 : decode prog_2_method_2_code 16 = .ok (.aload_n 0, 1) := by decide +kernel
theorem d3_17 : decode prog_2_method_2_code 17 = .ok (.getfield 7, 3) := by decide +kernel
theorem d3_20 : decode prog_2_method_2_code 20 = .ok (.arraylength, 1) := by decide +kernel
theorem d3_21 : decode prog_2_method_2_code 21 = .ok (.imul, 1) := by decide +kernel
theorem d3_22 : decode prog_2_method_2_code 22 = .ok (.invokestatic 13, 3) := by decide +kernel
theorem d3_25 : decode prog_2_method_2_code 25 = .ok (.invokestatic 19, 3) := by decide +kernel
theorem d3_28 : decode prog_2_method_2_code 28 = .ok (.putfield 7, 3) := by decide +kernel
theorem d3_31 : decode prog_2_method_2_code 31 = .ok (.iload_n 1, 1) := by decide +kernel
theorem d3_32 : decode prog_2_method_2_code 32 = .ok (.aload_n 0, 1) := by decide +kernel
theorem d3_33 : decode prog_2_method_2_code 33 = .ok (.getfield 25, 3) := by decide +kernel
theorem d3_36 : decode prog_2_method_2_code 36 = .ok (.if_icmp .le 21, 3) := by decide +kernel
theorem d3_39 : decode prog_2_method_2_code 39 = .ok (.aload_n 0, 1) := by decide +kernel
theorem d3_40 : decode prog_2_method_2_code 40 = .ok (.getfield 7, 3) := by decide +kernel
theorem d3_43 : decode prog_2_method_2_code 43 = .ok (.aload_n 0, 1) := by decide +kernel
theorem d3_44 : decode prog_2_method_2_code 44 = .ok (.getfield 25, 3) := by decide +kernel
theorem d3_47 : decode prog_2_method_2_code 47 = .ok (.iload_n 1, 1) := by decide +kernel
theorem d3_48 : decode prog_2_method_2_code 48 = .ok (.iconst (-1), 1) := by decide +kernel
theorem d3_49 : decode prog_2_method_2_code 49 = .ok (.invokestatic 29, 3) := by decide +kernel
theorem d3_52 : decode prog_2_method_2_code 52 = .ok (.aload_n 0, 1) := by decide +kernel
theorem d3_53 : decode prog_2_method_2_code 53 = .ok (.iload_n 1, 1) := by decide +kernel
theorem d3_54 : decode prog_2_method_2_code 54 = .ok (.putfield 25, 3) := by decide +kernel
theorem d3_57 : decode prog_2_method_2_code 57 = .ok (.return_, 1) := by decide +kernel
theorem pn_3 : plainName "com/example/allotree/allotree/Components" = true := by first | (simp [plainName, overriddenIn]; done) | decide +kernel
theorem ef_3 (m : MethodId) (x0 : Addr) (x1 : Int32) : entryFrame m #[(.ref x0), (.int x1)] 2 = mkF m 0 #[.val (.ref x0), .val (.int x1)] [] := by first | (simp [entryFrame, mkF, argsToLocals, Value.category]; done) | rfl
def Q3 (Z : State) (a1 pa : Addr) (h0 : Heap) (n0 : Nat) (v : Option Value) (h : Heap) (L : List Loc) : Prop := v = none ∧ Fr n0 L ∧ n0 ≤ h.size ∧ own_C Z h n0 a1 pa (own_fl 4)
set_option maxRecDepth 65536 in
set_option maxHeartbeats 40000000 in
theorem rm3 (l : Launch) (Z : State) (a0 : Array Value) (hw : ∀ d ∈ tables_1, d.before a0 Z = true) (ws : List Jvm.Cond) (a1 pa : Addr) (h0 : Heap) (n0 : Nat) (Z0 : n0 ≤ h0.size) (hC : own_C Z h0 n0 a1 pa (own_fl 0)) (G : Fld Z h0 a1 "com/example/allotree/allotree/Components" "vertexCount" "I" (.int 0)) (g_a1 : n0 ≤ a1) :
    MetFree l (⟨"com/example/allotree/allotree/Components", "addVertices", "(I)V"⟩ : MethodName) (head1 (Jvm.Cond.code (⟨"com/example/allotree/allotree/Components", "addVertices", "(I)V"⟩ : MethodName) prog_2_method_2_code 2 none :: ws) ({ frames := 2, cells := 0, slots := 0, locals := 30 } : Room)) (fun a U => a = #[(.ref a1), (.int (4 : Int32))] ∧ Z.Warmed39 U.vm ∧ U.heap = h0) (fun _ _ _ _ _ => True) (fun _ U o U' => ∃ v L, o = .returned v ∧ Q3 Z a1 pa h0 n0 v U'.heap L ∧ FrameEnd U o U' L ({ frames := 2, cells := 0, slots := 0, locals := 30 } : Room).cells ({ frames := 2, cells := 0, slots := 0, locals := 30 } : Room).slots) := by
  refine MetFree.of_bodySF (plainFor_of_name pn_3) hisR ?_
  intro p e s m args below meth c s₁ Bd hml0 hP hK
  obtain ⟨rfl, hZ, hh⟩ := hP
  have hx := Bd.exec
  have hby := Bd.bytes
  have hml : c.maxLocals = 2 := hml0
  have hown : s.vm.findClass "com/example/allotree/allotree/Components" = some m.cls := findClass_of_methodNamed Bd.named
  have hnm := (name_of_methodNamed Bd.named Bd.method).1
  have X0 : Stand p l e ({ frames := 2, cells := 0, slots := 0, locals := 30 } : Room) s m #[(.ref a1), (.int (4 : Int32))] below meth c s₁ [] 0 0 := Stand.of_body Bd
  have e0 : s₁.heap = h0 := by rw [← hh, Bd.state]; rfl
  have N0 := Fr.nil n0
  have pre0 : ∀ t, Steps p.tables e below (s₁.setTop (mkF m 0 #[.val (.ref a1), .val (.int (4 : Int32))] [])) t → Steps p.tables e below (s₁.setTop (entryFrame m #[(.ref a1), (.int (4 : Int32))] 2)) t := fun t k => castTop (ef_3 m a1 ((4 : Int32))) k
  obtain ⟨c0, Ar0, S0, H0⟩ := id hC.2.2.1
  obtain ⟨T1, X1, e1, st1⟩ := getF X0 hx hZ hown (host := "") (Or.inl (hw _ (List.mem_of_getElem? (i := 10) rfl))) Via.refl e0 hC.2.1 (g := (mkF m 2 #[.val (.ref a1), .val (.int (4 : Int32))] [(.ref a1), (.int (4 : Int32))])) rfl rfl (hb hby d3_2)
  obtain ⟨T2, X2, e2, st2⟩ := getF X1 hx hZ hown (host := "") (Or.inl (hw _ (List.mem_of_getElem? (i := 17) rfl))) Via.refl e1 G (g := (mkF m 33 #[.val (.ref a1), .val (.int (4 : Int32))] [(.ref a1), (.int (4 : Int32))])) rfl rfl (hb hby d3_33)
  obtain ⟨T3, X3, e3, st3⟩ := getF X2 hx hZ hown (host := "") (Or.inl (hw _ (List.mem_of_getElem? (i := 10) rfl))) Via.refl e2 hC.2.1 (g := (mkF m 40 #[.val (.ref a1), .val (.int (4 : Int32))] [(.ref a1)])) rfl rfl (hb hby d3_40)
  obtain ⟨T4, X4, e4, st4⟩ := getF X3 hx hZ hown (host := "") (Or.inl (hw _ (List.mem_of_getElem? (i := 17) rfl))) Via.refl e3 G (g := (mkF m 44 #[.val (.ref a1), .val (.int (4 : Int32))] [(.ref a1), (.ref pa)])) rfl rfl (hb hby d3_44)
  obtain ⟨_, _, ⟨T5, L5, k5, n5⟩, -, X5, ⟨Lc5, hQ5, l5, y5, z5⟩, st5⟩ := Jvm.LawKit.callS X4 hx (y := (⟨"java/util/Arrays", "fill", "([IIII)V"⟩ : MethodName)) hown (mvT hZ (hw _ (List.mem_of_getElem? (i := 19) rfl))) (mvT hZ (hw _ (List.mem_of_getElem? (i := 20) rfl))) (mvT hZ (hw _ (List.mem_of_getElem? (i := 21) rfl))) (mvT hZ (hw _ (List.mem_of_getElem? (i := 22) rfl))) (by decide) (backOf (W := 0) (rm4 l Z a0 hw [] pa h0 n0 Z0 hC.2.2.1 hC.2.2.2.1) hZ (hw _ (List.mem_of_getElem? (i := 22) rfl)) (hw _ (List.mem_of_getElem? (i := 21) rfl)) (by decide) (by decide)) (g := (mkF m 49 #[.val (.ref a1), .val (.int (4 : Int32))] [(.int (-1 : Int32)), (.int (4 : Int32)), (.int (0 : Int32)), (.ref pa)])) rfl (by rw [hml]; rfl) (argsL := [(.ref pa), (.int (0 : Int32)), (.int (4 : Int32)), (.int (-1 : Int32))]) (rest := []) (lenOf pd_fill rfl) rfl (by show 2 * 0 + _ ≤ _; exact Nat.le_of_eq rfl) (hb hby d3_49) (fun _ _ => ⟨rfl, e4, (by decide : 0 + 0 ≤ _), (by decide : 0 + 0 ≤ _)⟩)
  dsimp only [Pt.U, Pt.locs, Pt.cells, Pt.slots] at X5 l5 y5 z5 st5 hQ5
  subst l5 y5 z5
  obtain ⟨rfl, N5q, Z5, K5, B5⟩ := hQ5
  have N5 := Fr.app N0 N5q
  have nm5 : a1 ∉ [pa] := fun z => hC.2.2.2.2 (List.mem_singleton.mp z)
  have E5 := hC.1.keep K5
  have F5 := hC.2.1.keep K5 nm5
  have G5 := G.keep K5 nm5
  obtain ⟨T6, h6, X6, e6, W6, st6⟩ := putF X5 hx hZ hown (host := "") (Or.inl (hw _ (List.mem_of_getElem? (i := 17) rfl))) Via.refl rfl G5 E5 (Or.inl (hw _ (List.mem_of_getElem? (i := 18) rfl))) (hw _ (List.mem_of_getElem? (i := 1) rfl)) (ty := .int) (by decide) rfl rfl (g := (mkF m 54 #[.val (.ref a1), .val (.int (4 : Int32))] [(.int (4 : Int32)), (.ref a1)])) rfl rfl (hb hby d3_54)
  have N6 := Fr.snoc X6 N5 g_a1
  have C6 : own_C Z h6 n0 a1 pa (own_fl 4) := ⟨E5.wr W6, F5.other W6 (Or.inr (slot_ne (Or.inl (hw _ (List.mem_of_getElem? (i := 11) rfl))) (Or.inl (hw _ (List.mem_of_getElem? (i := 18) rfl))) (by decide) (t := (.array .int)) (t' := .int) (by decide) (by decide))), own_A.other B5 W6 (fun z => hC.2.2.2.2 z.symm), hC.2.2.2⟩
  obtain ⟨fs, hr, hrun, hended, hW, hsame⟩ := X6.leave (v := none) (fun _ => rfl)
  refine ⟨_, _, pre0 _ ?_, hrun, hended, _, _, rfl, ?_, ⟨_, rfl⟩, hW, hsame.mono (by decide) (by decide)⟩
  · show Steps p.tables e below (s₁.setTop (mkF m 0 #[.val (.ref a1), .val (.int (4 : Int32))] [])) _
    refine XS.iloadN X0.here hx rfl (hb hby d3_0) rfl ?_
    show Steps p.tables e below (s₁.setTop (mkF m 1 #[.val (.ref a1), .val (.int (4 : Int32))] [(.int (4 : Int32))])) _
    refine XS.aloadN X0.here hx rfl (hb hby d3_1) rfl rfl ?_
    show Steps p.tables e below (s₁.setTop (mkF m 2 #[.val (.ref a1), .val (.int (4 : Int32))] [(.ref a1), (.int (4 : Int32))])) _
    refine st1 _ ?_
    show Steps p.tables e below (T1.setTop (mkF m 5 #[.val (.ref a1), .val (.int (4 : Int32))] [(.ref pa), (.int (4 : Int32))])) _
    refine X1.arraylength hx (by rw [e1]; exact Ar0.1) (State.isArrayOf_alike hZ.alike Ar0.2.1) (g := (mkF m 5 #[.val (.ref a1), .val (.int (4 : Int32))] [(.ref pa), (.int (4 : Int32))])) rfl rfl (hb hby d3_5) _ ?_
    show Steps p.tables e below (T1.setTop (mkF m 6 #[.val (.ref a1), .val (.int (4 : Int32))] [(.int (c0.slots.size).toInt32), (.int (4 : Int32))])) _
    rw [S0]
    show Steps p.tables e below (T1.setTop (mkF m 6 #[.val (.ref a1), .val (.int (4 : Int32))] [(.int (16 : Int32)), (.int (4 : Int32))])) _
    refine XS.icmpYes X1.here hx rfl (pc0 := 6) (pc' := 31) rfl (hb hby d3_6) rfl (flt (by decide)).2.2.2 (by decide) (by decide) ?_
    show Steps p.tables e below (T1.setTop (mkF m 31 #[.val (.ref a1), .val (.int (4 : Int32))] [])) _
    refine XS.iloadN X1.here hx rfl (hb hby d3_31) rfl ?_
    show Steps p.tables e below (T1.setTop (mkF m 32 #[.val (.ref a1), .val (.int (4 : Int32))] [(.int (4 : Int32))])) _
    refine XS.aloadN X1.here hx rfl (hb hby d3_32) rfl rfl ?_
    show Steps p.tables e below (T1.setTop (mkF m 33 #[.val (.ref a1), .val (.int (4 : Int32))] [(.ref a1), (.int (4 : Int32))])) _
    refine st2 _ ?_
    show Steps p.tables e below (T2.setTop (mkF m 36 #[.val (.ref a1), .val (.int (4 : Int32))] [(.int (0 : Int32)), (.int (4 : Int32))])) _
    refine XS.icmpNo X2.here hx rfl (hb hby d3_36) rfl (tlt (by decide)).2.2.2 ?_
    show Steps p.tables e below (T2.setTop (mkF m 39 #[.val (.ref a1), .val (.int (4 : Int32))] [])) _
    refine XS.aloadN X2.here hx rfl (hb hby d3_39) rfl rfl ?_
    show Steps p.tables e below (T2.setTop (mkF m 40 #[.val (.ref a1), .val (.int (4 : Int32))] [(.ref a1)])) _
    refine st3 _ ?_
    show Steps p.tables e below (T3.setTop (mkF m 43 #[.val (.ref a1), .val (.int (4 : Int32))] [(.ref pa)])) _
    refine XS.aloadN X3.here hx rfl (hb hby d3_43) rfl rfl ?_
    show Steps p.tables e below (T3.setTop (mkF m 44 #[.val (.ref a1), .val (.int (4 : Int32))] [(.ref a1), (.ref pa)])) _
    refine st4 _ ?_
    show Steps p.tables e below (T4.setTop (mkF m 47 #[.val (.ref a1), .val (.int (4 : Int32))] [(.int (0 : Int32)), (.ref pa)])) _
    refine XS.iloadN X4.here hx rfl (hb hby d3_47) rfl ?_
    show Steps p.tables e below (T4.setTop (mkF m 48 #[.val (.ref a1), .val (.int (4 : Int32))] [(.int (4 : Int32)), (.int (0 : Int32)), (.ref pa)])) _
    refine XS.iconst X4.here hx rfl (hb hby d3_48) ?_
    show Steps p.tables e below (T4.setTop (mkF m 49 #[.val (.ref a1), .val (.int (4 : Int32))] [(.int (-1 : Int32)), (.int (4 : Int32)), (.int (0 : Int32)), (.ref pa)])) _
    refine st5 _ ?_
    show Steps p.tables e below (T5.setTop (mkF m 52 #[.val (.ref a1), .val (.int (4 : Int32))] [])) _
    refine XS.aloadN X5.here hx rfl (hb hby d3_52) rfl rfl ?_
    show Steps p.tables e below (T5.setTop (mkF m 53 #[.val (.ref a1), .val (.int (4 : Int32))] [(.ref a1)])) _
    refine XS.iloadN X5.here hx rfl (hb hby d3_53) rfl ?_
    show Steps p.tables e below (T5.setTop (mkF m 54 #[.val (.ref a1), .val (.int (4 : Int32))] [(.int (4 : Int32)), (.ref a1)])) _
    refine st6 _ ?_
    show Steps p.tables e below (T6.setTop (mkF m 57 #[.val (.ref a1), .val (.int (4 : Int32))] [])) _
    exact X6.returnOut hx Bd.returns (hb hby d3_57) hr
  · show Q3 Z a1 pa h0 n0 _ T6.heap _
    exact ⟨rfl, N6, by rw [e6]; exact Nat.le_trans Z5 (Keep.of_wr W6).1, by rw [e6]; exact C6⟩
def own_mm (k : Nat) (lab : Nat → Int32) (x y : Nat) : Nat → Int32 := fun j => if j < k ∧ lab j = lab y then lab x else lab j
theorem d8_0 : decode method_2_code 0 = .ok (.aload_n 0, 1) := by decide +kernel
theorem d8_1 : decode method_2_code 1 = .ok (.iload_n 2, 1) := by decide +kernel
theorem d8_2 : decode method_2_code 2 = .ok (.iaload, 1) := by decide +kernel
theorem d8_3 : decode method_2_code 3 = .ok (.istore_n 3, 1) := by decide +kernel
theorem d8_4 : decode method_2_code 4 = .ok (.aload_n 0, 1) := by decide +kernel
theorem d8_5 : decode method_2_code 5 = .ok (.iload_n 1, 1) := by decide +kernel
theorem d8_6 : decode method_2_code 6 = .ok (.iaload, 1) := by decide +kernel
theorem d8_7 : decode method_2_code 7 = .ok (.istore 4, 2) := by decide +kernel
theorem d8_9 : decode method_2_code 9 = .ok (.aload_n 0, 1) := by decide +kernel
theorem d8_10 : decode method_2_code 10 = .ok (.iconst 0, 1) := by decide +kernel
theorem d8_11 : decode method_2_code 11 = .ok (.iaload, 1) := by decide +kernel
theorem d8_12 : decode method_2_code 12 = .ok (.iload_n 3, 1) := by decide +kernel
theorem d8_13 : decode method_2_code 13 = .ok (.if_icmp .ne 8, 3) := by decide +kernel
theorem d8_16 : decode method_2_code 16 = .ok (.aload_n 0, 1) := by decide +kernel
theorem d8_17 : decode method_2_code 17 = .ok (.iconst 0, 1) := by decide +kernel
theorem d8_18 : decode method_2_code 18 = .ok (.iload 4, 2) := by decide +kernel
theorem d8_20 : decode method_2_code 20 = .ok (.iastore, 1) := by decide +kernel
theorem d8_21 : decode method_2_code 21 = .ok (.aload_n 0, 1) := by decide +kernel
theorem d8_22 : decode method_2_code 22 = .ok (.iconst 1, 1) := by decide +kernel
theorem d8_23 : decode method_2_code 23 = .ok (.iaload, 1) := by decide +kernel
theorem d8_24 : decode method_2_code 24 = .ok (.iload_n 3, 1) := by decide +kernel
theorem d8_25 : decode method_2_code 25 = .ok (.if_icmp .ne 8, 3) := by decide +kernel
theorem d8_28 : decode method_2_code 28 = .ok (.aload_n 0, 1) := by decide +kernel
theorem d8_29 : decode method_2_code 29 = .ok (.iconst 1, 1) := by decide +kernel
theorem d8_30 : decode method_2_code 30 = .ok (.iload 4, 2) := by decide +kernel
theorem d8_32 : decode method_2_code 32 = .ok (.iastore, 1) := by decide +kernel
theorem d8_33 : decode method_2_code 33 = .ok (.aload_n 0, 1) := by decide +kernel
theorem d8_34 : decode method_2_code 34 = .ok (.iconst 2, 1) := by decide +kernel
theorem d8_35 : decode method_2_code 35 = .ok (.iaload, 1) := by decide +kernel
theorem d8_36 : decode method_2_code 36 = .ok (.iload_n 3, 1) := by decide +kernel
theorem d8_37 : decode method_2_code 37 = .ok (.if_icmp .ne 8, 3) := by decide +kernel
theorem d8_40 : decode method_2_code 40 = .ok (.aload_n 0, 1) := by decide +kernel
theorem d8_41 : decode method_2_code 41 = .ok (.iconst 2, 1) := by decide +kernel
theorem d8_42 : decode method_2_code 42 = .ok (.iload 4, 2) := by decide +kernel
theorem d8_44 : decode method_2_code 44 = .ok (.iastore, 1) := by decide +kernel
theorem d8_45 : decode method_2_code 45 = .ok (.aload_n 0, 1) := by decide +kernel
theorem d8_46 : decode method_2_code 46 = .ok (.iconst 3, 1) := by decide +kernel
theorem d8_47 : decode method_2_code 47 = .ok (.iaload, 1) := by decide +kernel
theorem d8_48 : decode method_2_code 48 = .ok (.iload_n 3, 1) := by decide +kernel
theorem d8_49 : decode method_2_code 49 = .ok (.if_icmp .ne 8, 3) := by decide +kernel
theorem d8_52 : decode method_2_code 52 = .ok (.aload_n 0, 1) := by decide +kernel
theorem d8_53 : decode method_2_code 53 = .ok (.iconst 3, 1) := by decide +kernel
theorem d8_54 : decode method_2_code 54 = .ok (.iload 4, 2) := by decide +kernel
theorem d8_56 : decode method_2_code 56 = .ok (.iastore, 1) := by decide +kernel
theorem d8_57 : decode method_2_code 57 = .ok (.return_, 1) := by decide +kernel
theorem pn_8 : plainName "com/example/allotree/allotree/ComponentsFindPinLaw" = true := by first | (simp [plainName, overriddenIn]; done) | decide +kernel
theorem ef_8 (m : MethodId) (x0 : Addr) (x1 : Int32) (x2 : Int32) : entryFrame m #[(.ref x0), (.int x1), (.int x2)] 5 = mkF m 0 #[.val (.ref x0), .val (.int x1), .val (.int x2), .unset, .unset] [] := by first | (simp [entryFrame, mkF, argsToLocals, Value.category]; done) | rfl
def Q8 (Z : State) (a1 : Addr) (x y : Nat) (lab : Nat → Int32) (h0 : Heap) (n0 : Nat) (v : Option Value) (h : Heap) (L : List Loc) : Prop := v = none ∧ Fr n0 L ∧ n0 ≤ h.size ∧ Keep h0 h [a1] ∧ own_P Z h a1 4 (own_merge lab x y)
set_option maxRecDepth 65536 in
set_option maxHeartbeats 40000000 in
theorem own_m0 {p : Program} {l : Launch} {e : Env} {R : Room} {s : State} {m : MethodId} {args : Array Value} {below : List Frame} {meth : Method} {c : Code} {T0 : State} {locs : List Loc} {cells slots : Nat} {Z : State} {a0 : Array Value} {n0 : Nat} {a1 : Addr} {xv yv : Int32} {x y : Nat} {lab : Nat → Int32}
    (X0 : Stand p l e R s m args below meth c T0 locs cells slots) (hx : p.tables.exec = Jvm.exec) (hZ : Z.Warmed39 s.vm) (hw : ∀ d ∈ tables_1, d.before a0 Z = true) (hby : c.code = method_2_code) (hown : s.vm.findClass "com/example/allotree/allotree/ComponentsFindPinLaw" = some m.cls) (N0 : Fr n0 locs) (g_a1 : n0 ≤ a1) (A : own_P Z T0.heap a1 4 (own_mm 0 lab x y)) :
    ∃ (T' : State) (locs' : List Loc), Stand p l e R s m args below meth c T' locs' cells slots ∧ Fr n0 locs' ∧ Keep T0.heap T'.heap [a1] ∧ own_P Z T'.heap a1 4 (own_mm 1 lab x y) ∧ ∀ target, Steps p.tables e below (T'.setTop (mkF m 21 #[.val (.ref a1), .val (.int xv), .val (.int yv), .val (.int (lab y)), .val (.int (lab x))] [])) target → Steps p.tables e below (T0.setTop (mkF m 9 #[.val (.ref a1), .val (.int xv), .val (.int yv), .val (.int (lab y)), .val (.int (lab x))] [])) target := by
  obtain ⟨c0, Ar0, S0, H0⟩ := id A
  have hk : own_mm 0 lab x y 0 = lab 0 := if_neg (fun z => absurd z.1 (by decide))
  by_cases h : lab 0 = lab y
  · obtain ⟨T1, h1, X1, e1, W1, st1⟩ := stI X0 hx hZ rfl Ar0 (j := (0 : Int32)) (own_in (n := 0) S0 (by decide) (by decide)) (g := (mkF m 20 #[.val (.ref a1), .val (.int xv), .val (.int yv), .val (.int (lab y)), .val (.int (lab x))] [(.int (lab x)), (.int (0 : Int32)), (.ref a1)])) rfl rfl (hb hby d8_20)
    have B1 : own_P Z h1 a1 4 (own_mm 1 lab x y) := own_P.congr (own_P.store (n := 0) A W1 (by decide) (by decide)) fun j hj => by
      show (if j = 0 then lab x else if j < 0 ∧ lab j = lab y then lab x else lab j) = if j < 1 ∧ lab j = lab y then lab x else lab j
      by_cases q : j = 0
      · rw [if_pos q, if_pos ⟨by omega, by rw [q]; exact h⟩]
      · rw [if_neg q]
        by_cases q2 : j < 0 ∧ lab j = lab y
        · rw [if_pos q2, if_pos ⟨by omega, q2.2⟩]
        · rw [if_neg q2, if_neg (fun z => q2 ⟨by omega, z.2⟩)]
    refine ⟨T1, _, X1, Fr.snoc X1 N0 g_a1, by rw [e1]; exact Keep.of_wr W1, by rw [e1]; exact B1, fun target kt => ?_⟩
    show Steps p.tables e below (T0.setTop (mkF m 9 #[.val (.ref a1), .val (.int xv), .val (.int yv), .val (.int (lab y)), .val (.int (lab x))] [])) _
    refine XS.aloadN X0.here hx rfl (hb hby d8_9) rfl rfl ?_
    show Steps p.tables e below (T0.setTop (mkF m 10 #[.val (.ref a1), .val (.int xv), .val (.int yv), .val (.int (lab y)), .val (.int (lab x))] [(.ref a1)])) _
    refine XS.iconst X0.here hx rfl (hb hby d8_10) ?_
    show Steps p.tables e below (T0.setTop (mkF m 11 #[.val (.ref a1), .val (.int xv), .val (.int yv), .val (.int (lab y)), .val (.int (lab x))] [(.int (0 : Int32)), (.ref a1)])) _
    refine X0.iaload hx (j := (0 : Int32)) (v := (.int (lab 0))) Ar0.1 (State.isArrayOf_alike hZ.alike Ar0.2.1) Ar0.2.2 (own_in (n := 0) S0 (by decide) (by decide)) (own_at (n := 0) H0 (by decide) (by decide) hk) (g := (mkF m 11 #[.val (.ref a1), .val (.int xv), .val (.int yv), .val (.int (lab y)), .val (.int (lab x))] [(.int (0 : Int32)), (.ref a1)])) rfl rfl (hb hby d8_11) _ ?_
    show Steps p.tables e below (T0.setTop (mkF m 12 #[.val (.ref a1), .val (.int xv), .val (.int yv), .val (.int (lab y)), .val (.int (lab x))] [(.int (lab 0))])) _
    refine XS.iloadN X0.here hx rfl (hb hby d8_12) rfl ?_
    show Steps p.tables e below (T0.setTop (mkF m 13 #[.val (.ref a1), .val (.int xv), .val (.int yv), .val (.int (lab y)), .val (.int (lab x))] [(.int (lab y)), (.int (lab 0))])) _
    refine XS.icmpNo X0.here hx rfl (hb hby d8_13) rfl (teq h).2 ?_
    show Steps p.tables e below (T0.setTop (mkF m 16 #[.val (.ref a1), .val (.int xv), .val (.int yv), .val (.int (lab y)), .val (.int (lab x))] [])) _
    refine XS.aloadN X0.here hx rfl (hb hby d8_16) rfl rfl ?_
    show Steps p.tables e below (T0.setTop (mkF m 17 #[.val (.ref a1), .val (.int xv), .val (.int yv), .val (.int (lab y)), .val (.int (lab x))] [(.ref a1)])) _
    refine XS.iconst X0.here hx rfl (hb hby d8_17) ?_
    show Steps p.tables e below (T0.setTop (mkF m 18 #[.val (.ref a1), .val (.int xv), .val (.int yv), .val (.int (lab y)), .val (.int (lab x))] [(.int (0 : Int32)), (.ref a1)])) _
    refine XS.iload X0.here hx rfl (hb hby d8_18) rfl ?_
    show Steps p.tables e below (T0.setTop (mkF m 20 #[.val (.ref a1), .val (.int xv), .val (.int yv), .val (.int (lab y)), .val (.int (lab x))] [(.int (lab x)), (.int (0 : Int32)), (.ref a1)])) _
    refine st1 _ ?_
    exact kt
  · refine ⟨T0, locs, X0, N0, Keep.refl _ _, own_P.congr A fun j hj => ?_, fun target kt => ?_⟩
    · show (if j < 0 ∧ lab j = lab y then lab x else lab j) = if j < 1 ∧ lab j = lab y then lab x else lab j
      by_cases q2 : j < 0 ∧ lab j = lab y
      · rw [if_pos q2, if_pos ⟨by omega, q2.2⟩]
      · rw [if_neg q2, if_neg (fun z => by
          by_cases q : j = 0
          · exact h (by rw [← q]; exact z.2)
          · exact q2 ⟨by omega, z.2⟩)]
    · show Steps p.tables e below (T0.setTop (mkF m 9 #[.val (.ref a1), .val (.int xv), .val (.int yv), .val (.int (lab y)), .val (.int (lab x))] [])) _
      refine XS.aloadN X0.here hx rfl (hb hby d8_9) rfl rfl ?_
      show Steps p.tables e below (T0.setTop (mkF m 10 #[.val (.ref a1), .val (.int xv), .val (.int yv), .val (.int (lab y)), .val (.int (lab x))] [(.ref a1)])) _
      refine XS.iconst X0.here hx rfl (hb hby d8_10) ?_
      show Steps p.tables e below (T0.setTop (mkF m 11 #[.val (.ref a1), .val (.int xv), .val (.int yv), .val (.int (lab y)), .val (.int (lab x))] [(.int (0 : Int32)), (.ref a1)])) _
      refine X0.iaload hx (j := (0 : Int32)) (v := (.int (lab 0))) Ar0.1 (State.isArrayOf_alike hZ.alike Ar0.2.1) Ar0.2.2 (own_in (n := 0) S0 (by decide) (by decide)) (own_at (n := 0) H0 (by decide) (by decide) hk) (g := (mkF m 11 #[.val (.ref a1), .val (.int xv), .val (.int yv), .val (.int (lab y)), .val (.int (lab x))] [(.int (0 : Int32)), (.ref a1)])) rfl rfl (hb hby d8_11) _ ?_
      show Steps p.tables e below (T0.setTop (mkF m 12 #[.val (.ref a1), .val (.int xv), .val (.int yv), .val (.int (lab y)), .val (.int (lab x))] [(.int (lab 0))])) _
      refine XS.iloadN X0.here hx rfl (hb hby d8_12) rfl ?_
      show Steps p.tables e below (T0.setTop (mkF m 13 #[.val (.ref a1), .val (.int xv), .val (.int yv), .val (.int (lab y)), .val (.int (lab x))] [(.int (lab y)), (.int (lab 0))])) _
      refine XS.icmpYes X0.here hx rfl (pc0 := 13) (pc' := 21) rfl (hb hby d8_13) rfl (feq h).2 (by decide) (by decide) ?_
      exact kt
set_option maxRecDepth 65536 in
set_option maxHeartbeats 40000000 in
theorem own_m1 {p : Program} {l : Launch} {e : Env} {R : Room} {s : State} {m : MethodId} {args : Array Value} {below : List Frame} {meth : Method} {c : Code} {T0 : State} {locs : List Loc} {cells slots : Nat} {Z : State} {a0 : Array Value} {n0 : Nat} {a1 : Addr} {xv yv : Int32} {x y : Nat} {lab : Nat → Int32}
    (X0 : Stand p l e R s m args below meth c T0 locs cells slots) (hx : p.tables.exec = Jvm.exec) (hZ : Z.Warmed39 s.vm) (hw : ∀ d ∈ tables_1, d.before a0 Z = true) (hby : c.code = method_2_code) (hown : s.vm.findClass "com/example/allotree/allotree/ComponentsFindPinLaw" = some m.cls) (N0 : Fr n0 locs) (g_a1 : n0 ≤ a1) (A : own_P Z T0.heap a1 4 (own_mm 1 lab x y)) :
    ∃ (T' : State) (locs' : List Loc), Stand p l e R s m args below meth c T' locs' cells slots ∧ Fr n0 locs' ∧ Keep T0.heap T'.heap [a1] ∧ own_P Z T'.heap a1 4 (own_mm 2 lab x y) ∧ ∀ target, Steps p.tables e below (T'.setTop (mkF m 33 #[.val (.ref a1), .val (.int xv), .val (.int yv), .val (.int (lab y)), .val (.int (lab x))] [])) target → Steps p.tables e below (T0.setTop (mkF m 21 #[.val (.ref a1), .val (.int xv), .val (.int yv), .val (.int (lab y)), .val (.int (lab x))] [])) target := by
  obtain ⟨c0, Ar0, S0, H0⟩ := id A
  have hk : own_mm 1 lab x y 1 = lab 1 := if_neg (fun z => absurd z.1 (by decide))
  by_cases h : lab 1 = lab y
  · obtain ⟨T1, h1, X1, e1, W1, st1⟩ := stI X0 hx hZ rfl Ar0 (j := (1 : Int32)) (own_in (n := 1) S0 (by decide) (by decide)) (g := (mkF m 32 #[.val (.ref a1), .val (.int xv), .val (.int yv), .val (.int (lab y)), .val (.int (lab x))] [(.int (lab x)), (.int (1 : Int32)), (.ref a1)])) rfl rfl (hb hby d8_32)
    have B1 : own_P Z h1 a1 4 (own_mm 2 lab x y) := own_P.congr (own_P.store (n := 1) A W1 (by decide) (by decide)) fun j hj => by
      show (if j = 1 then lab x else if j < 1 ∧ lab j = lab y then lab x else lab j) = if j < 2 ∧ lab j = lab y then lab x else lab j
      by_cases q : j = 1
      · rw [if_pos q, if_pos ⟨by omega, by rw [q]; exact h⟩]
      · rw [if_neg q]
        by_cases q2 : j < 1 ∧ lab j = lab y
        · rw [if_pos q2, if_pos ⟨by omega, q2.2⟩]
        · rw [if_neg q2, if_neg (fun z => q2 ⟨by omega, z.2⟩)]
    refine ⟨T1, _, X1, Fr.snoc X1 N0 g_a1, by rw [e1]; exact Keep.of_wr W1, by rw [e1]; exact B1, fun target kt => ?_⟩
    show Steps p.tables e below (T0.setTop (mkF m 21 #[.val (.ref a1), .val (.int xv), .val (.int yv), .val (.int (lab y)), .val (.int (lab x))] [])) _
    refine XS.aloadN X0.here hx rfl (hb hby d8_21) rfl rfl ?_
    show Steps p.tables e below (T0.setTop (mkF m 22 #[.val (.ref a1), .val (.int xv), .val (.int yv), .val (.int (lab y)), .val (.int (lab x))] [(.ref a1)])) _
    refine XS.iconst X0.here hx rfl (hb hby d8_22) ?_
    show Steps p.tables e below (T0.setTop (mkF m 23 #[.val (.ref a1), .val (.int xv), .val (.int yv), .val (.int (lab y)), .val (.int (lab x))] [(.int (1 : Int32)), (.ref a1)])) _
    refine X0.iaload hx (j := (1 : Int32)) (v := (.int (lab 1))) Ar0.1 (State.isArrayOf_alike hZ.alike Ar0.2.1) Ar0.2.2 (own_in (n := 1) S0 (by decide) (by decide)) (own_at (n := 1) H0 (by decide) (by decide) hk) (g := (mkF m 23 #[.val (.ref a1), .val (.int xv), .val (.int yv), .val (.int (lab y)), .val (.int (lab x))] [(.int (1 : Int32)), (.ref a1)])) rfl rfl (hb hby d8_23) _ ?_
    show Steps p.tables e below (T0.setTop (mkF m 24 #[.val (.ref a1), .val (.int xv), .val (.int yv), .val (.int (lab y)), .val (.int (lab x))] [(.int (lab 1))])) _
    refine XS.iloadN X0.here hx rfl (hb hby d8_24) rfl ?_
    show Steps p.tables e below (T0.setTop (mkF m 25 #[.val (.ref a1), .val (.int xv), .val (.int yv), .val (.int (lab y)), .val (.int (lab x))] [(.int (lab y)), (.int (lab 1))])) _
    refine XS.icmpNo X0.here hx rfl (hb hby d8_25) rfl (teq h).2 ?_
    show Steps p.tables e below (T0.setTop (mkF m 28 #[.val (.ref a1), .val (.int xv), .val (.int yv), .val (.int (lab y)), .val (.int (lab x))] [])) _
    refine XS.aloadN X0.here hx rfl (hb hby d8_28) rfl rfl ?_
    show Steps p.tables e below (T0.setTop (mkF m 29 #[.val (.ref a1), .val (.int xv), .val (.int yv), .val (.int (lab y)), .val (.int (lab x))] [(.ref a1)])) _
    refine XS.iconst X0.here hx rfl (hb hby d8_29) ?_
    show Steps p.tables e below (T0.setTop (mkF m 30 #[.val (.ref a1), .val (.int xv), .val (.int yv), .val (.int (lab y)), .val (.int (lab x))] [(.int (1 : Int32)), (.ref a1)])) _
    refine XS.iload X0.here hx rfl (hb hby d8_30) rfl ?_
    show Steps p.tables e below (T0.setTop (mkF m 32 #[.val (.ref a1), .val (.int xv), .val (.int yv), .val (.int (lab y)), .val (.int (lab x))] [(.int (lab x)), (.int (1 : Int32)), (.ref a1)])) _
    refine st1 _ ?_
    exact kt
  · refine ⟨T0, locs, X0, N0, Keep.refl _ _, own_P.congr A fun j hj => ?_, fun target kt => ?_⟩
    · show (if j < 1 ∧ lab j = lab y then lab x else lab j) = if j < 2 ∧ lab j = lab y then lab x else lab j
      by_cases q2 : j < 1 ∧ lab j = lab y
      · rw [if_pos q2, if_pos ⟨by omega, q2.2⟩]
      · rw [if_neg q2, if_neg (fun z => by
          by_cases q : j = 1
          · exact h (by rw [← q]; exact z.2)
          · exact q2 ⟨by omega, z.2⟩)]
    · show Steps p.tables e below (T0.setTop (mkF m 21 #[.val (.ref a1), .val (.int xv), .val (.int yv), .val (.int (lab y)), .val (.int (lab x))] [])) _
      refine XS.aloadN X0.here hx rfl (hb hby d8_21) rfl rfl ?_
      show Steps p.tables e below (T0.setTop (mkF m 22 #[.val (.ref a1), .val (.int xv), .val (.int yv), .val (.int (lab y)), .val (.int (lab x))] [(.ref a1)])) _
      refine XS.iconst X0.here hx rfl (hb hby d8_22) ?_
      show Steps p.tables e below (T0.setTop (mkF m 23 #[.val (.ref a1), .val (.int xv), .val (.int yv), .val (.int (lab y)), .val (.int (lab x))] [(.int (1 : Int32)), (.ref a1)])) _
      refine X0.iaload hx (j := (1 : Int32)) (v := (.int (lab 1))) Ar0.1 (State.isArrayOf_alike hZ.alike Ar0.2.1) Ar0.2.2 (own_in (n := 1) S0 (by decide) (by decide)) (own_at (n := 1) H0 (by decide) (by decide) hk) (g := (mkF m 23 #[.val (.ref a1), .val (.int xv), .val (.int yv), .val (.int (lab y)), .val (.int (lab x))] [(.int (1 : Int32)), (.ref a1)])) rfl rfl (hb hby d8_23) _ ?_
      show Steps p.tables e below (T0.setTop (mkF m 24 #[.val (.ref a1), .val (.int xv), .val (.int yv), .val (.int (lab y)), .val (.int (lab x))] [(.int (lab 1))])) _
      refine XS.iloadN X0.here hx rfl (hb hby d8_24) rfl ?_
      show Steps p.tables e below (T0.setTop (mkF m 25 #[.val (.ref a1), .val (.int xv), .val (.int yv), .val (.int (lab y)), .val (.int (lab x))] [(.int (lab y)), (.int (lab 1))])) _
      refine XS.icmpYes X0.here hx rfl (pc0 := 25) (pc' := 33) rfl (hb hby d8_25) rfl (feq h).2 (by decide) (by decide) ?_
      exact kt
set_option maxRecDepth 65536 in
set_option maxHeartbeats 40000000 in
theorem own_m2 {p : Program} {l : Launch} {e : Env} {R : Room} {s : State} {m : MethodId} {args : Array Value} {below : List Frame} {meth : Method} {c : Code} {T0 : State} {locs : List Loc} {cells slots : Nat} {Z : State} {a0 : Array Value} {n0 : Nat} {a1 : Addr} {xv yv : Int32} {x y : Nat} {lab : Nat → Int32}
    (X0 : Stand p l e R s m args below meth c T0 locs cells slots) (hx : p.tables.exec = Jvm.exec) (hZ : Z.Warmed39 s.vm) (hw : ∀ d ∈ tables_1, d.before a0 Z = true) (hby : c.code = method_2_code) (hown : s.vm.findClass "com/example/allotree/allotree/ComponentsFindPinLaw" = some m.cls) (N0 : Fr n0 locs) (g_a1 : n0 ≤ a1) (A : own_P Z T0.heap a1 4 (own_mm 2 lab x y)) :
    ∃ (T' : State) (locs' : List Loc), Stand p l e R s m args below meth c T' locs' cells slots ∧ Fr n0 locs' ∧ Keep T0.heap T'.heap [a1] ∧ own_P Z T'.heap a1 4 (own_mm 3 lab x y) ∧ ∀ target, Steps p.tables e below (T'.setTop (mkF m 45 #[.val (.ref a1), .val (.int xv), .val (.int yv), .val (.int (lab y)), .val (.int (lab x))] [])) target → Steps p.tables e below (T0.setTop (mkF m 33 #[.val (.ref a1), .val (.int xv), .val (.int yv), .val (.int (lab y)), .val (.int (lab x))] [])) target := by
  obtain ⟨c0, Ar0, S0, H0⟩ := id A
  have hk : own_mm 2 lab x y 2 = lab 2 := if_neg (fun z => absurd z.1 (by decide))
  by_cases h : lab 2 = lab y
  · obtain ⟨T1, h1, X1, e1, W1, st1⟩ := stI X0 hx hZ rfl Ar0 (j := (2 : Int32)) (own_in (n := 2) S0 (by decide) (by decide)) (g := (mkF m 44 #[.val (.ref a1), .val (.int xv), .val (.int yv), .val (.int (lab y)), .val (.int (lab x))] [(.int (lab x)), (.int (2 : Int32)), (.ref a1)])) rfl rfl (hb hby d8_44)
    have B1 : own_P Z h1 a1 4 (own_mm 3 lab x y) := own_P.congr (own_P.store (n := 2) A W1 (by decide) (by decide)) fun j hj => by
      show (if j = 2 then lab x else if j < 2 ∧ lab j = lab y then lab x else lab j) = if j < 3 ∧ lab j = lab y then lab x else lab j
      by_cases q : j = 2
      · rw [if_pos q, if_pos ⟨by omega, by rw [q]; exact h⟩]
      · rw [if_neg q]
        by_cases q2 : j < 2 ∧ lab j = lab y
        · rw [if_pos q2, if_pos ⟨by omega, q2.2⟩]
        · rw [if_neg q2, if_neg (fun z => q2 ⟨by omega, z.2⟩)]
    refine ⟨T1, _, X1, Fr.snoc X1 N0 g_a1, by rw [e1]; exact Keep.of_wr W1, by rw [e1]; exact B1, fun target kt => ?_⟩
    show Steps p.tables e below (T0.setTop (mkF m 33 #[.val (.ref a1), .val (.int xv), .val (.int yv), .val (.int (lab y)), .val (.int (lab x))] [])) _
    refine XS.aloadN X0.here hx rfl (hb hby d8_33) rfl rfl ?_
    show Steps p.tables e below (T0.setTop (mkF m 34 #[.val (.ref a1), .val (.int xv), .val (.int yv), .val (.int (lab y)), .val (.int (lab x))] [(.ref a1)])) _
    refine XS.iconst X0.here hx rfl (hb hby d8_34) ?_
    show Steps p.tables e below (T0.setTop (mkF m 35 #[.val (.ref a1), .val (.int xv), .val (.int yv), .val (.int (lab y)), .val (.int (lab x))] [(.int (2 : Int32)), (.ref a1)])) _
    refine X0.iaload hx (j := (2 : Int32)) (v := (.int (lab 2))) Ar0.1 (State.isArrayOf_alike hZ.alike Ar0.2.1) Ar0.2.2 (own_in (n := 2) S0 (by decide) (by decide)) (own_at (n := 2) H0 (by decide) (by decide) hk) (g := (mkF m 35 #[.val (.ref a1), .val (.int xv), .val (.int yv), .val (.int (lab y)), .val (.int (lab x))] [(.int (2 : Int32)), (.ref a1)])) rfl rfl (hb hby d8_35) _ ?_
    show Steps p.tables e below (T0.setTop (mkF m 36 #[.val (.ref a1), .val (.int xv), .val (.int yv), .val (.int (lab y)), .val (.int (lab x))] [(.int (lab 2))])) _
    refine XS.iloadN X0.here hx rfl (hb hby d8_36) rfl ?_
    show Steps p.tables e below (T0.setTop (mkF m 37 #[.val (.ref a1), .val (.int xv), .val (.int yv), .val (.int (lab y)), .val (.int (lab x))] [(.int (lab y)), (.int (lab 2))])) _
    refine XS.icmpNo X0.here hx rfl (hb hby d8_37) rfl (teq h).2 ?_
    show Steps p.tables e below (T0.setTop (mkF m 40 #[.val (.ref a1), .val (.int xv), .val (.int yv), .val (.int (lab y)), .val (.int (lab x))] [])) _
    refine XS.aloadN X0.here hx rfl (hb hby d8_40) rfl rfl ?_
    show Steps p.tables e below (T0.setTop (mkF m 41 #[.val (.ref a1), .val (.int xv), .val (.int yv), .val (.int (lab y)), .val (.int (lab x))] [(.ref a1)])) _
    refine XS.iconst X0.here hx rfl (hb hby d8_41) ?_
    show Steps p.tables e below (T0.setTop (mkF m 42 #[.val (.ref a1), .val (.int xv), .val (.int yv), .val (.int (lab y)), .val (.int (lab x))] [(.int (2 : Int32)), (.ref a1)])) _
    refine XS.iload X0.here hx rfl (hb hby d8_42) rfl ?_
    show Steps p.tables e below (T0.setTop (mkF m 44 #[.val (.ref a1), .val (.int xv), .val (.int yv), .val (.int (lab y)), .val (.int (lab x))] [(.int (lab x)), (.int (2 : Int32)), (.ref a1)])) _
    refine st1 _ ?_
    exact kt
  · refine ⟨T0, locs, X0, N0, Keep.refl _ _, own_P.congr A fun j hj => ?_, fun target kt => ?_⟩
    · show (if j < 2 ∧ lab j = lab y then lab x else lab j) = if j < 3 ∧ lab j = lab y then lab x else lab j
      by_cases q2 : j < 2 ∧ lab j = lab y
      · rw [if_pos q2, if_pos ⟨by omega, q2.2⟩]
      · rw [if_neg q2, if_neg (fun z => by
          by_cases q : j = 2
          · exact h (by rw [← q]; exact z.2)
          · exact q2 ⟨by omega, z.2⟩)]
    · show Steps p.tables e below (T0.setTop (mkF m 33 #[.val (.ref a1), .val (.int xv), .val (.int yv), .val (.int (lab y)), .val (.int (lab x))] [])) _
      refine XS.aloadN X0.here hx rfl (hb hby d8_33) rfl rfl ?_
      show Steps p.tables e below (T0.setTop (mkF m 34 #[.val (.ref a1), .val (.int xv), .val (.int yv), .val (.int (lab y)), .val (.int (lab x))] [(.ref a1)])) _
      refine XS.iconst X0.here hx rfl (hb hby d8_34) ?_
      show Steps p.tables e below (T0.setTop (mkF m 35 #[.val (.ref a1), .val (.int xv), .val (.int yv), .val (.int (lab y)), .val (.int (lab x))] [(.int (2 : Int32)), (.ref a1)])) _
      refine X0.iaload hx (j := (2 : Int32)) (v := (.int (lab 2))) Ar0.1 (State.isArrayOf_alike hZ.alike Ar0.2.1) Ar0.2.2 (own_in (n := 2) S0 (by decide) (by decide)) (own_at (n := 2) H0 (by decide) (by decide) hk) (g := (mkF m 35 #[.val (.ref a1), .val (.int xv), .val (.int yv), .val (.int (lab y)), .val (.int (lab x))] [(.int (2 : Int32)), (.ref a1)])) rfl rfl (hb hby d8_35) _ ?_
      show Steps p.tables e below (T0.setTop (mkF m 36 #[.val (.ref a1), .val (.int xv), .val (.int yv), .val (.int (lab y)), .val (.int (lab x))] [(.int (lab 2))])) _
      refine XS.iloadN X0.here hx rfl (hb hby d8_36) rfl ?_
      show Steps p.tables e below (T0.setTop (mkF m 37 #[.val (.ref a1), .val (.int xv), .val (.int yv), .val (.int (lab y)), .val (.int (lab x))] [(.int (lab y)), (.int (lab 2))])) _
      refine XS.icmpYes X0.here hx rfl (pc0 := 37) (pc' := 45) rfl (hb hby d8_37) rfl (feq h).2 (by decide) (by decide) ?_
      exact kt
set_option maxRecDepth 65536 in
set_option maxHeartbeats 40000000 in
theorem own_m3 {p : Program} {l : Launch} {e : Env} {R : Room} {s : State} {m : MethodId} {args : Array Value} {below : List Frame} {meth : Method} {c : Code} {T0 : State} {locs : List Loc} {cells slots : Nat} {Z : State} {a0 : Array Value} {n0 : Nat} {a1 : Addr} {xv yv : Int32} {x y : Nat} {lab : Nat → Int32}
    (X0 : Stand p l e R s m args below meth c T0 locs cells slots) (hx : p.tables.exec = Jvm.exec) (hZ : Z.Warmed39 s.vm) (hw : ∀ d ∈ tables_1, d.before a0 Z = true) (hby : c.code = method_2_code) (hown : s.vm.findClass "com/example/allotree/allotree/ComponentsFindPinLaw" = some m.cls) (N0 : Fr n0 locs) (g_a1 : n0 ≤ a1) (A : own_P Z T0.heap a1 4 (own_mm 3 lab x y)) :
    ∃ (T' : State) (locs' : List Loc), Stand p l e R s m args below meth c T' locs' cells slots ∧ Fr n0 locs' ∧ Keep T0.heap T'.heap [a1] ∧ own_P Z T'.heap a1 4 (own_mm 4 lab x y) ∧ ∀ target, Steps p.tables e below (T'.setTop (mkF m 57 #[.val (.ref a1), .val (.int xv), .val (.int yv), .val (.int (lab y)), .val (.int (lab x))] [])) target → Steps p.tables e below (T0.setTop (mkF m 45 #[.val (.ref a1), .val (.int xv), .val (.int yv), .val (.int (lab y)), .val (.int (lab x))] [])) target := by
  obtain ⟨c0, Ar0, S0, H0⟩ := id A
  have hk : own_mm 3 lab x y 3 = lab 3 := if_neg (fun z => absurd z.1 (by decide))
  by_cases h : lab 3 = lab y
  · obtain ⟨T1, h1, X1, e1, W1, st1⟩ := stI X0 hx hZ rfl Ar0 (j := (3 : Int32)) (own_in (n := 3) S0 (by decide) (by decide)) (g := (mkF m 56 #[.val (.ref a1), .val (.int xv), .val (.int yv), .val (.int (lab y)), .val (.int (lab x))] [(.int (lab x)), (.int (3 : Int32)), (.ref a1)])) rfl rfl (hb hby d8_56)
    have B1 : own_P Z h1 a1 4 (own_mm 4 lab x y) := own_P.congr (own_P.store (n := 3) A W1 (by decide) (by decide)) fun j hj => by
      show (if j = 3 then lab x else if j < 3 ∧ lab j = lab y then lab x else lab j) = if j < 4 ∧ lab j = lab y then lab x else lab j
      by_cases q : j = 3
      · rw [if_pos q, if_pos ⟨by omega, by rw [q]; exact h⟩]
      · rw [if_neg q]
        by_cases q2 : j < 3 ∧ lab j = lab y
        · rw [if_pos q2, if_pos ⟨by omega, q2.2⟩]
        · rw [if_neg q2, if_neg (fun z => q2 ⟨by omega, z.2⟩)]
    refine ⟨T1, _, X1, Fr.snoc X1 N0 g_a1, by rw [e1]; exact Keep.of_wr W1, by rw [e1]; exact B1, fun target kt => ?_⟩
    show Steps p.tables e below (T0.setTop (mkF m 45 #[.val (.ref a1), .val (.int xv), .val (.int yv), .val (.int (lab y)), .val (.int (lab x))] [])) _
    refine XS.aloadN X0.here hx rfl (hb hby d8_45) rfl rfl ?_
    show Steps p.tables e below (T0.setTop (mkF m 46 #[.val (.ref a1), .val (.int xv), .val (.int yv), .val (.int (lab y)), .val (.int (lab x))] [(.ref a1)])) _
    refine XS.iconst X0.here hx rfl (hb hby d8_46) ?_
    show Steps p.tables e below (T0.setTop (mkF m 47 #[.val (.ref a1), .val (.int xv), .val (.int yv), .val (.int (lab y)), .val (.int (lab x))] [(.int (3 : Int32)), (.ref a1)])) _
    refine X0.iaload hx (j := (3 : Int32)) (v := (.int (lab 3))) Ar0.1 (State.isArrayOf_alike hZ.alike Ar0.2.1) Ar0.2.2 (own_in (n := 3) S0 (by decide) (by decide)) (own_at (n := 3) H0 (by decide) (by decide) hk) (g := (mkF m 47 #[.val (.ref a1), .val (.int xv), .val (.int yv), .val (.int (lab y)), .val (.int (lab x))] [(.int (3 : Int32)), (.ref a1)])) rfl rfl (hb hby d8_47) _ ?_
    show Steps p.tables e below (T0.setTop (mkF m 48 #[.val (.ref a1), .val (.int xv), .val (.int yv), .val (.int (lab y)), .val (.int (lab x))] [(.int (lab 3))])) _
    refine XS.iloadN X0.here hx rfl (hb hby d8_48) rfl ?_
    show Steps p.tables e below (T0.setTop (mkF m 49 #[.val (.ref a1), .val (.int xv), .val (.int yv), .val (.int (lab y)), .val (.int (lab x))] [(.int (lab y)), (.int (lab 3))])) _
    refine XS.icmpNo X0.here hx rfl (hb hby d8_49) rfl (teq h).2 ?_
    show Steps p.tables e below (T0.setTop (mkF m 52 #[.val (.ref a1), .val (.int xv), .val (.int yv), .val (.int (lab y)), .val (.int (lab x))] [])) _
    refine XS.aloadN X0.here hx rfl (hb hby d8_52) rfl rfl ?_
    show Steps p.tables e below (T0.setTop (mkF m 53 #[.val (.ref a1), .val (.int xv), .val (.int yv), .val (.int (lab y)), .val (.int (lab x))] [(.ref a1)])) _
    refine XS.iconst X0.here hx rfl (hb hby d8_53) ?_
    show Steps p.tables e below (T0.setTop (mkF m 54 #[.val (.ref a1), .val (.int xv), .val (.int yv), .val (.int (lab y)), .val (.int (lab x))] [(.int (3 : Int32)), (.ref a1)])) _
    refine XS.iload X0.here hx rfl (hb hby d8_54) rfl ?_
    show Steps p.tables e below (T0.setTop (mkF m 56 #[.val (.ref a1), .val (.int xv), .val (.int yv), .val (.int (lab y)), .val (.int (lab x))] [(.int (lab x)), (.int (3 : Int32)), (.ref a1)])) _
    refine st1 _ ?_
    exact kt
  · refine ⟨T0, locs, X0, N0, Keep.refl _ _, own_P.congr A fun j hj => ?_, fun target kt => ?_⟩
    · show (if j < 3 ∧ lab j = lab y then lab x else lab j) = if j < 4 ∧ lab j = lab y then lab x else lab j
      by_cases q2 : j < 3 ∧ lab j = lab y
      · rw [if_pos q2, if_pos ⟨by omega, q2.2⟩]
      · rw [if_neg q2, if_neg (fun z => by
          by_cases q : j = 3
          · exact h (by rw [← q]; exact z.2)
          · exact q2 ⟨by omega, z.2⟩)]
    · show Steps p.tables e below (T0.setTop (mkF m 45 #[.val (.ref a1), .val (.int xv), .val (.int yv), .val (.int (lab y)), .val (.int (lab x))] [])) _
      refine XS.aloadN X0.here hx rfl (hb hby d8_45) rfl rfl ?_
      show Steps p.tables e below (T0.setTop (mkF m 46 #[.val (.ref a1), .val (.int xv), .val (.int yv), .val (.int (lab y)), .val (.int (lab x))] [(.ref a1)])) _
      refine XS.iconst X0.here hx rfl (hb hby d8_46) ?_
      show Steps p.tables e below (T0.setTop (mkF m 47 #[.val (.ref a1), .val (.int xv), .val (.int yv), .val (.int (lab y)), .val (.int (lab x))] [(.int (3 : Int32)), (.ref a1)])) _
      refine X0.iaload hx (j := (3 : Int32)) (v := (.int (lab 3))) Ar0.1 (State.isArrayOf_alike hZ.alike Ar0.2.1) Ar0.2.2 (own_in (n := 3) S0 (by decide) (by decide)) (own_at (n := 3) H0 (by decide) (by decide) hk) (g := (mkF m 47 #[.val (.ref a1), .val (.int xv), .val (.int yv), .val (.int (lab y)), .val (.int (lab x))] [(.int (3 : Int32)), (.ref a1)])) rfl rfl (hb hby d8_47) _ ?_
      show Steps p.tables e below (T0.setTop (mkF m 48 #[.val (.ref a1), .val (.int xv), .val (.int yv), .val (.int (lab y)), .val (.int (lab x))] [(.int (lab 3))])) _
      refine XS.iloadN X0.here hx rfl (hb hby d8_48) rfl ?_
      show Steps p.tables e below (T0.setTop (mkF m 49 #[.val (.ref a1), .val (.int xv), .val (.int yv), .val (.int (lab y)), .val (.int (lab x))] [(.int (lab y)), (.int (lab 3))])) _
      refine XS.icmpYes X0.here hx rfl (pc0 := 49) (pc' := 57) rfl (hb hby d8_49) rfl (feq h).2 (by decide) (by decide) ?_
      exact kt
set_option maxRecDepth 65536 in
set_option maxHeartbeats 40000000 in
theorem rm8 (l : Launch) (Z : State) (a0 : Array Value) (hw : ∀ d ∈ tables_1, d.before a0 Z = true) (ws : List Jvm.Cond) (a1 : Addr) (x y : Nat) (lab : Nat → Int32) (h0 : Heap) (n0 : Nat) (Z0 : n0 ≤ h0.size) (hx4 : x < 4) (hy4 : y < 4) (A : own_P Z h0 a1 4 lab) (g_a1 : n0 ≤ a1) :
    MetFree l (⟨"com/example/allotree/allotree/ComponentsFindPinLaw", "merge", "([III)V"⟩ : MethodName) (head1 (Jvm.Cond.code (⟨"com/example/allotree/allotree/ComponentsFindPinLaw", "merge", "([III)V"⟩ : MethodName) method_2_code 5 none :: ws) ({ frames := 0, cells := 0, slots := 0, locals := 0 } : Room)) (fun a U => a = #[(.ref a1), (.int (Int32.ofNat x)), (.int (Int32.ofNat y))] ∧ Z.Warmed39 U.vm ∧ U.heap = h0) (fun _ _ _ _ _ => True) (fun _ U o U' => ∃ v L, o = .returned v ∧ Q8 Z a1 x y lab h0 n0 v U'.heap L ∧ FrameEnd U o U' L ({ frames := 0, cells := 0, slots := 0, locals := 0 } : Room).cells ({ frames := 0, cells := 0, slots := 0, locals := 0 } : Room).slots) := by
  refine MetFree.of_bodySF (plainFor_of_name pn_8) hisR ?_
  intro p e s m args below meth c s₁ Bd hml0 hP hK
  obtain ⟨rfl, hZ, hh⟩ := hP
  have hx := Bd.exec
  have hby := Bd.bytes
  have hml : c.maxLocals = 5 := hml0
  have hown : s.vm.findClass "com/example/allotree/allotree/ComponentsFindPinLaw" = some m.cls := findClass_of_methodNamed Bd.named
  have hnm := (name_of_methodNamed Bd.named Bd.method).1
  have X0 : Stand p l e ({ frames := 0, cells := 0, slots := 0, locals := 0 } : Room) s m #[(.ref a1), (.int (Int32.ofNat x)), (.int (Int32.ofNat y))] below meth c s₁ [] 0 0 := Stand.of_body Bd
  have e0 : s₁.heap = h0 := by rw [← hh, Bd.state]; rfl
  have N0 := Fr.nil n0
  have pre0 : ∀ t, Steps p.tables e below (s₁.setTop (mkF m 0 #[.val (.ref a1), .val (.int (Int32.ofNat x)), .val (.int (Int32.ofNat y)), .unset, .unset] [])) t → Steps p.tables e below (s₁.setTop (entryFrame m #[(.ref a1), (.int (Int32.ofNat x)), (.int (Int32.ofNat y))] 5)) t := fun t k => castTop (ef_8 m a1 ((Int32.ofNat x)) ((Int32.ofNat y))) k
  obtain ⟨c0, Ar0, S0, H0⟩ := id A
  have B0 : own_P Z s₁.heap a1 4 (own_mm 0 lab x y) := by rw [e0]; exact own_P.congr A fun j hj => (if_neg (fun z => absurd z.1 (by omega))).symm
  obtain ⟨T1, L1, X1, N1, K1, B1, st1⟩ := own_m0 (xv := Int32.ofNat x) (yv := Int32.ofNat y) X0 hx hZ hw hby hown N0 g_a1 B0
  obtain ⟨T2, L2, X2, N2, K2, B2, st2⟩ := own_m1 (xv := Int32.ofNat x) (yv := Int32.ofNat y) X1 hx hZ hw hby hown N1 g_a1 B1
  obtain ⟨T3, L3, X3, N3, K3, B3, st3⟩ := own_m2 (xv := Int32.ofNat x) (yv := Int32.ofNat y) X2 hx hZ hw hby hown N2 g_a1 B2
  obtain ⟨T4, L4, X4, N4, K4, B4, st4⟩ := own_m3 (xv := Int32.ofNat x) (yv := Int32.ofNat y) X3 hx hZ hw hby hown N3 g_a1 B3
  have K04 := ((K1.trans K2 (fun z hz => Or.inl hz)).trans K3 (fun z hz => Or.inl hz)).trans K4 (fun z hz => Or.inl hz)
  rw [e0] at K04
  obtain ⟨fs, hr, hrun, hended, hW, hsame⟩ := X4.leave (v := none) (fun _ => rfl)
  refine ⟨_, _, pre0 _ ?_, hrun, hended, _, _, rfl, ?_, ⟨_, rfl⟩, hW, hsame.mono (by decide) (by decide)⟩
  · show Steps p.tables e below (s₁.setTop (mkF m 0 #[.val (.ref a1), .val (.int (Int32.ofNat x)), .val (.int (Int32.ofNat y)), .unset, .unset] [])) _
    refine XS.aloadN X0.here hx rfl (hb hby d8_0) rfl rfl ?_
    show Steps p.tables e below (s₁.setTop (mkF m 1 #[.val (.ref a1), .val (.int (Int32.ofNat x)), .val (.int (Int32.ofNat y)), .unset, .unset] [(.ref a1)])) _
    refine XS.iloadN X0.here hx rfl (hb hby d8_1) rfl ?_
    show Steps p.tables e below (s₁.setTop (mkF m 2 #[.val (.ref a1), .val (.int (Int32.ofNat x)), .val (.int (Int32.ofNat y)), .unset, .unset] [(.int (Int32.ofNat y)), (.ref a1)])) _
    refine X0.iaload hx (j := (Int32.ofNat y)) (v := (.int (lab y))) (by rw [e0]; exact Ar0.1) (State.isArrayOf_alike hZ.alike Ar0.2.1) Ar0.2.2 (own_in S0 (by omega) (by omega)) (own_at H0 (by omega) (by omega) rfl) (g := (mkF m 2 #[.val (.ref a1), .val (.int (Int32.ofNat x)), .val (.int (Int32.ofNat y)), .unset, .unset] [(.int (Int32.ofNat y)), (.ref a1)])) rfl rfl (hb hby d8_2) _ ?_
    show Steps p.tables e below (s₁.setTop (mkF m 3 #[.val (.ref a1), .val (.int (Int32.ofNat x)), .val (.int (Int32.ofNat y)), .unset, .unset] [(.int (lab y))])) _
    refine XS.istoreN X0.here hx rfl (hb hby d8_3) rfl (l' := #[.val (.ref a1), .val (.int (Int32.ofNat x)), .val (.int (Int32.ofNat y)), .val (.int (lab y)), .unset]) rfl ?_
    show Steps p.tables e below (s₁.setTop (mkF m 4 #[.val (.ref a1), .val (.int (Int32.ofNat x)), .val (.int (Int32.ofNat y)), .val (.int (lab y)), .unset] [])) _
    refine XS.aloadN X0.here hx rfl (hb hby d8_4) rfl rfl ?_
    show Steps p.tables e below (s₁.setTop (mkF m 5 #[.val (.ref a1), .val (.int (Int32.ofNat x)), .val (.int (Int32.ofNat y)), .val (.int (lab y)), .unset] [(.ref a1)])) _
    refine XS.iloadN X0.here hx rfl (hb hby d8_5) rfl ?_
    show Steps p.tables e below (s₁.setTop (mkF m 6 #[.val (.ref a1), .val (.int (Int32.ofNat x)), .val (.int (Int32.ofNat y)), .val (.int (lab y)), .unset] [(.int (Int32.ofNat x)), (.ref a1)])) _
    refine X0.iaload hx (j := (Int32.ofNat x)) (v := (.int (lab x))) (by rw [e0]; exact Ar0.1) (State.isArrayOf_alike hZ.alike Ar0.2.1) Ar0.2.2 (own_in S0 (by omega) (by omega)) (own_at H0 (by omega) (by omega) rfl) (g := (mkF m 6 #[.val (.ref a1), .val (.int (Int32.ofNat x)), .val (.int (Int32.ofNat y)), .val (.int (lab y)), .unset] [(.int (Int32.ofNat x)), (.ref a1)])) rfl rfl (hb hby d8_6) _ ?_
    show Steps p.tables e below (s₁.setTop (mkF m 7 #[.val (.ref a1), .val (.int (Int32.ofNat x)), .val (.int (Int32.ofNat y)), .val (.int (lab y)), .unset] [(.int (lab x))])) _
    refine XS.istore X0.here hx rfl (hb hby d8_7) rfl (l' := #[.val (.ref a1), .val (.int (Int32.ofNat x)), .val (.int (Int32.ofNat y)), .val (.int (lab y)), .val (.int (lab x))]) rfl ?_
    show Steps p.tables e below (s₁.setTop (mkF m 9 #[.val (.ref a1), .val (.int (Int32.ofNat x)), .val (.int (Int32.ofNat y)), .val (.int (lab y)), .val (.int (lab x))] [])) _
    refine st1 _ ?_
    show Steps p.tables e below (T1.setTop (mkF m 21 #[.val (.ref a1), .val (.int (Int32.ofNat x)), .val (.int (Int32.ofNat y)), .val (.int (lab y)), .val (.int (lab x))] [])) _
    refine st2 _ ?_
    show Steps p.tables e below (T2.setTop (mkF m 33 #[.val (.ref a1), .val (.int (Int32.ofNat x)), .val (.int (Int32.ofNat y)), .val (.int (lab y)), .val (.int (lab x))] [])) _
    refine st3 _ ?_
    show Steps p.tables e below (T3.setTop (mkF m 45 #[.val (.ref a1), .val (.int (Int32.ofNat x)), .val (.int (Int32.ofNat y)), .val (.int (lab y)), .val (.int (lab x))] [])) _
    refine st4 _ ?_
    show Steps p.tables e below (T4.setTop (mkF m 57 #[.val (.ref a1), .val (.int (Int32.ofNat x)), .val (.int (Int32.ofNat y)), .val (.int (lab y)), .val (.int (lab x))] [])) _
    exact X4.returnOut hx Bd.returns (hb hby d8_57) hr
  · show Q8 Z a1 x y lab h0 n0 _ T4.heap _
    exact ⟨rfl, N4, Nat.le_trans Z0 K04.1, K04, own_P.congr B4 fun j hj => by show (if j < 4 ∧ lab j = lab y then lab x else lab j) = if lab j = lab y then lab x else lab j; by_cases q : lab j = lab y; (rw [if_pos ⟨hj, q⟩, if_pos q]); (rw [if_neg (fun z => q z.2), if_neg q])⟩
theorem own_le3 (u : Nat) (hu : u < 4) : ¬ ((3 : Int32) < Int32.ofNat u) := by
  rw [Int32.lt_iff_toInt_lt, own_toNat u hu, show (3 : Int32).toInt = 3 from rfl]; omega
theorem d9_0 : decode method_3_code 0 = .ok (.aload_n 1, 1) := by decide +kernel
theorem d9_1 : decode method_3_code 1 = .ok (.iload_n 2, 1) := by decide +kernel
theorem d9_2 : decode method_3_code 2 = .ok (.iaload, 1) := by decide +kernel
theorem d9_3 : decode method_3_code 3 = .ok (.istore_n 3, 1) := by decide +kernel
theorem d9_4 : decode method_3_code 4 = .ok (.iload_n 3, 1) := by decide +kernel
theorem d9_5 : decode method_3_code 5 = .ok (.ifCond .lt 8, 3) := by decide +kernel
theorem d9_8 : decode method_3_code 8 = .ok (.iload_n 3, 1) := by decide +kernel
theorem d9_9 : decode method_3_code 9 = .ok (.iconst 3, 1) := by decide +kernel
theorem d9_10 : decode method_3_code 10 = .ok (.if_icmp .le 5, 3) := by decide +kernel
theorem d9_13 : decode method_3_code 13 = .ok (.iconst 0, 1) := by decide +kernel
theorem d9_14 : decode method_3_code 14 = .ok (.ireturn, 1) := by decide +kernel
theorem d9_15 : decode method_3_code 15 = .ok (.aload_n 0, 1) := by decide +kernel
theorem d9_16 : decode method_3_code 16 = .ok (.iload_n 3, 1) := by decide +kernel
theorem d9_17 : decode method_3_code 17 = .ok (.iaload, 1) := by decide +kernel
theorem d9_18 : decode method_3_code 18 = .ok (.aload_n 0, 1) := by decide +kernel
theorem d9_19 : decode method_3_code 19 = .ok (.iload_n 2, 1) := by decide +kernel
theorem d9_20 : decode method_3_code 20 = .ok (.iaload, 1) := by decide +kernel
theorem d9_21 : decode method_3_code 21 = .ok (.if_icmp .ne 7, 3) := by decide +kernel
theorem d9_24 : decode method_3_code 24 = .ok (.iconst 1, 1) := by decide +kernel
theorem d9_25 : decode method_3_code 25 = .ok (.goto 4, 3) := by decide +kernel
theorem d9_28 : decode method_3_code 28 = .ok (.iconst 0, 1) := by decide +kernel
theorem d9_29 : decode method_3_code 29 = .ok (.ireturn, 1) := by decide +kernel
theorem pn_9 : plainName "com/example/allotree/allotree/ComponentsFindPinLaw" = true := by first | (simp [plainName, overriddenIn]; done) | decide +kernel
theorem ef_9 (m : MethodId) (x0 : Addr) (x1 : Addr) (x2 : Int32) : entryFrame m #[(.ref x0), (.ref x1), (.int x2)] 4 = mkF m 0 #[.val (.ref x0), .val (.ref x1), .val (.int x2), .unset] [] := by first | (simp [entryFrame, mkF, argsToLocals, Value.category]; done) | rfl
def Q9 (Z : State) (a1 a2 : Addr) (i u : Nat) (lab r : Nat → Int32) (h0 : Heap) (n0 : Nat) (v : Option Value) (h : Heap) (L : List Loc) : Prop := v = some (.int (1 : Int32)) ∧ Fr n0 L ∧ h = h0
set_option maxRecDepth 65536 in
set_option maxHeartbeats 40000000 in
theorem rm9 (l : Launch) (Z : State) (a0 : Array Value) (hw : ∀ d ∈ tables_1, d.before a0 Z = true) (ws : List Jvm.Cond) (a1 a2 : Addr) (i u : Nat) (lab r : Nat → Int32) (h0 : Heap) (n0 : Nat) (Z0 : n0 ≤ h0.size) (hi : i < 4) (hu : u < 4) (A : own_P Z h0 a1 4 lab) (A2 : own_P Z h0 a2 4 r) (hri : r i = Int32.ofNat u) (hl : lab u = lab i) :
    MetFree l (⟨"com/example/allotree/allotree/ComponentsFindPinLaw", "inPart", "([I[II)Z"⟩ : MethodName) (head1 (Jvm.Cond.code (⟨"com/example/allotree/allotree/ComponentsFindPinLaw", "inPart", "([I[II)Z"⟩ : MethodName) method_3_code 4 (some .boolean) :: ws) ({ frames := 0, cells := 0, slots := 0, locals := 0 } : Room)) (fun a U => a = #[(.ref a1), (.ref a2), (.int (Int32.ofNat i))] ∧ Z.Warmed39 U.vm ∧ U.heap = h0) (fun _ _ _ _ _ => True) (fun _ U o U' => ∃ v L, o = .returned v ∧ Q9 Z a1 a2 i u lab r h0 n0 v U'.heap L ∧ FrameEnd U o U' L ({ frames := 0, cells := 0, slots := 0, locals := 0 } : Room).cells ({ frames := 0, cells := 0, slots := 0, locals := 0 } : Room).slots) := by
  refine MetFree.of_bodySF (plainFor_of_name pn_9) hisR ?_
  intro p e s m args below meth c s₁ Bd hml0 hP hK
  obtain ⟨rfl, hZ, hh⟩ := hP
  have hx := Bd.exec
  have hby := Bd.bytes
  have hml : c.maxLocals = 4 := hml0
  have hown : s.vm.findClass "com/example/allotree/allotree/ComponentsFindPinLaw" = some m.cls := findClass_of_methodNamed Bd.named
  have hnm := (name_of_methodNamed Bd.named Bd.method).1
  have X0 : Stand p l e ({ frames := 0, cells := 0, slots := 0, locals := 0 } : Room) s m #[(.ref a1), (.ref a2), (.int (Int32.ofNat i))] below meth c s₁ [] 0 0 := Stand.of_body Bd
  have e0 : s₁.heap = h0 := by rw [← hh, Bd.state]; rfl
  have N0 := Fr.nil n0
  have pre0 : ∀ t, Steps p.tables e below (s₁.setTop (mkF m 0 #[.val (.ref a1), .val (.ref a2), .val (.int (Int32.ofNat i)), .unset] [])) t → Steps p.tables e below (s₁.setTop (entryFrame m #[(.ref a1), (.ref a2), (.int (Int32.ofNat i))] 4)) t := fun t k => castTop (ef_9 m a1 a2 ((Int32.ofNat i))) k
  obtain ⟨c0, Ar0, S0, H0⟩ := id A
  obtain ⟨c2, Ar2, S2, H2⟩ := id A2
  obtain ⟨fs, hr, hrun, hended, hW, hsame⟩ := X0.leave (v := some (.int (1 : Int32))) (fun h => by rw [Bd.returns] at h; cases h)
  refine ⟨_, _, pre0 _ ?_, hrun, hended, _, _, rfl, ?_, ⟨_, rfl⟩, hW, hsame.mono (by decide) (by decide)⟩
  · show Steps p.tables e below (s₁.setTop (mkF m 0 #[.val (.ref a1), .val (.ref a2), .val (.int (Int32.ofNat i)), .unset] [])) _
    refine XS.aloadN X0.here hx rfl (hb hby d9_0) rfl rfl ?_
    show Steps p.tables e below (s₁.setTop (mkF m 1 #[.val (.ref a1), .val (.ref a2), .val (.int (Int32.ofNat i)), .unset] [(.ref a2)])) _
    refine XS.iloadN X0.here hx rfl (hb hby d9_1) rfl ?_
    show Steps p.tables e below (s₁.setTop (mkF m 2 #[.val (.ref a1), .val (.ref a2), .val (.int (Int32.ofNat i)), .unset] [(.int (Int32.ofNat i)), (.ref a2)])) _
    refine X0.iaload hx (j := (Int32.ofNat i)) (v := (.int (Int32.ofNat u))) (by rw [e0]; exact Ar2.1) (State.isArrayOf_alike hZ.alike Ar2.2.1) Ar2.2.2 (own_in S2 (by omega) (by omega)) (own_at H2 (by omega) (by omega) hri) (g := (mkF m 2 #[.val (.ref a1), .val (.ref a2), .val (.int (Int32.ofNat i)), .unset] [(.int (Int32.ofNat i)), (.ref a2)])) rfl rfl (hb hby d9_2) _ ?_
    show Steps p.tables e below (s₁.setTop (mkF m 3 #[.val (.ref a1), .val (.ref a2), .val (.int (Int32.ofNat i)), .unset] [(.int (Int32.ofNat u))])) _
    refine XS.istoreN X0.here hx rfl (hb hby d9_3) rfl (l' := #[.val (.ref a1), .val (.ref a2), .val (.int (Int32.ofNat i)), .val (.int (Int32.ofNat u))]) rfl ?_
    show Steps p.tables e below (s₁.setTop (mkF m 4 #[.val (.ref a1), .val (.ref a2), .val (.int (Int32.ofNat i)), .val (.int (Int32.ofNat u))] [])) _
    refine XS.iloadN X0.here hx rfl (hb hby d9_4) rfl ?_
    show Steps p.tables e below (s₁.setTop (mkF m 5 #[.val (.ref a1), .val (.ref a2), .val (.int (Int32.ofNat i)), .val (.int (Int32.ofNat u))] [(.int (Int32.ofNat u))])) _
    refine XS.ifNo X0.here hx rfl (hb hby d9_5) rfl ((if0 _ _).trans (flt (own_ofNeg u hu)).1) ?_
    show Steps p.tables e below (s₁.setTop (mkF m 8 #[.val (.ref a1), .val (.ref a2), .val (.int (Int32.ofNat i)), .val (.int (Int32.ofNat u))] [])) _
    refine XS.iloadN X0.here hx rfl (hb hby d9_8) rfl ?_
    show Steps p.tables e below (s₁.setTop (mkF m 9 #[.val (.ref a1), .val (.ref a2), .val (.int (Int32.ofNat i)), .val (.int (Int32.ofNat u))] [(.int (Int32.ofNat u))])) _
    refine XS.iconst X0.here hx rfl (hb hby d9_9) ?_
    show Steps p.tables e below (s₁.setTop (mkF m 10 #[.val (.ref a1), .val (.ref a2), .val (.int (Int32.ofNat i)), .val (.int (Int32.ofNat u))] [(.int (3 : Int32)), (.int (Int32.ofNat u))])) _
    refine XS.icmpYes X0.here hx rfl (pc0 := 10) (pc' := 15) rfl (hb hby d9_10) rfl (flt (own_le3 u hu)).2.2.2 (by decide) (by decide) ?_
    show Steps p.tables e below (s₁.setTop (mkF m 15 #[.val (.ref a1), .val (.ref a2), .val (.int (Int32.ofNat i)), .val (.int (Int32.ofNat u))] [])) _
    refine XS.aloadN X0.here hx rfl (hb hby d9_15) rfl rfl ?_
    show Steps p.tables e below (s₁.setTop (mkF m 16 #[.val (.ref a1), .val (.ref a2), .val (.int (Int32.ofNat i)), .val (.int (Int32.ofNat u))] [(.ref a1)])) _
    refine XS.iloadN X0.here hx rfl (hb hby d9_16) rfl ?_
    show Steps p.tables e below (s₁.setTop (mkF m 17 #[.val (.ref a1), .val (.ref a2), .val (.int (Int32.ofNat i)), .val (.int (Int32.ofNat u))] [(.int (Int32.ofNat u)), (.ref a1)])) _
    refine X0.iaload hx (j := (Int32.ofNat u)) (v := (.int (lab u))) (by rw [e0]; exact Ar0.1) (State.isArrayOf_alike hZ.alike Ar0.2.1) Ar0.2.2 (own_in S0 (by omega) (by omega)) (own_at H0 (by omega) (by omega) rfl) (g := (mkF m 17 #[.val (.ref a1), .val (.ref a2), .val (.int (Int32.ofNat i)), .val (.int (Int32.ofNat u))] [(.int (Int32.ofNat u)), (.ref a1)])) rfl rfl (hb hby d9_17) _ ?_
    show Steps p.tables e below (s₁.setTop (mkF m 18 #[.val (.ref a1), .val (.ref a2), .val (.int (Int32.ofNat i)), .val (.int (Int32.ofNat u))] [(.int (lab u))])) _
    refine XS.aloadN X0.here hx rfl (hb hby d9_18) rfl rfl ?_
    show Steps p.tables e below (s₁.setTop (mkF m 19 #[.val (.ref a1), .val (.ref a2), .val (.int (Int32.ofNat i)), .val (.int (Int32.ofNat u))] [(.ref a1), (.int (lab u))])) _
    refine XS.iloadN X0.here hx rfl (hb hby d9_19) rfl ?_
    show Steps p.tables e below (s₁.setTop (mkF m 20 #[.val (.ref a1), .val (.ref a2), .val (.int (Int32.ofNat i)), .val (.int (Int32.ofNat u))] [(.int (Int32.ofNat i)), (.ref a1), (.int (lab u))])) _
    refine X0.iaload hx (j := (Int32.ofNat i)) (v := (.int (lab i))) (by rw [e0]; exact Ar0.1) (State.isArrayOf_alike hZ.alike Ar0.2.1) Ar0.2.2 (own_in S0 (by omega) (by omega)) (own_at H0 (by omega) (by omega) rfl) (g := (mkF m 20 #[.val (.ref a1), .val (.ref a2), .val (.int (Int32.ofNat i)), .val (.int (Int32.ofNat u))] [(.int (Int32.ofNat i)), (.ref a1), (.int (lab u))])) rfl rfl (hb hby d9_20) _ ?_
    show Steps p.tables e below (s₁.setTop (mkF m 21 #[.val (.ref a1), .val (.ref a2), .val (.int (Int32.ofNat i)), .val (.int (Int32.ofNat u))] [(.int (lab i)), (.int (lab u))])) _
    refine XS.icmpNo X0.here hx rfl (hb hby d9_21) rfl (teq hl).2 ?_
    show Steps p.tables e below (s₁.setTop (mkF m 24 #[.val (.ref a1), .val (.ref a2), .val (.int (Int32.ofNat i)), .val (.int (Int32.ofNat u))] [])) _
    refine XS.iconst X0.here hx rfl (hb hby d9_24) ?_
    show Steps p.tables e below (s₁.setTop (mkF m 25 #[.val (.ref a1), .val (.ref a2), .val (.int (Int32.ofNat i)), .val (.int (Int32.ofNat u))] [(.int (1 : Int32))])) _
    refine XS.goto X0.here hx rfl (pc0 := 25) (pc' := 29) rfl (hb hby d9_25) (by decide) (by decide) ?_
    show Steps p.tables e below (s₁.setTop (mkF m 29 #[.val (.ref a1), .val (.ref a2), .val (.int (Int32.ofNat i)), .val (.int (Int32.ofNat u))] [(.int (1 : Int32))])) _
    exact retN X0 hx (t := .boolean) Bd.returns (by simp) (hb hby d9_29) hr
  · show Q9 Z a1 a2 i u lab r h0 n0 _ s₁.heap _
    exact ⟨rfl, N0, e0⟩
theorem d10_0 : decode method_4_code 0 = .ok (.aload_n 1, 1) := by decide +kernel
theorem d10_1 : decode method_4_code 1 = .ok (.iload_n 2, 1) := by decide +kernel
theorem d10_2 : decode method_4_code 2 = .ok (.iaload, 1) := by decide +kernel
theorem d10_3 : decode method_4_code 3 = .ok (.aload_n 1, 1) := by decide +kernel
theorem d10_4 : decode method_4_code 4 = .ok (.iload_n 3, 1) := by decide +kernel
theorem d10_5 : decode method_4_code 5 = .ok (.iaload, 1) := by decide +kernel
theorem d10_6 : decode method_4_code 6 = .ok (.if_icmp .ne 7, 3) := by decide +kernel
theorem d10_9 : decode method_4_code 9 = .ok (.iconst 1, 1) := by decide +kernel
theorem d10_10 : decode method_4_code 10 = .ok (.goto 4, 3) := by decide +kernel
theorem d10_13 : decode method_4_code 13 = .ok (.iconst 0, 1) := by decide +kernel
theorem d10_14 : decode method_4_code 14 = .ok (.aload_n 0, 1) := by decide +kernel
theorem d10_15 : decode method_4_code 15 = .ok (.iload_n 2, 1) := by decide +kernel
theorem d10_16 : decode method_4_code 16 = .ok (.iaload, 1) := by decide +kernel
theorem d10_17 : decode method_4_code 17 = .ok (.aload_n 0, 1) := by decide +kernel
theorem d10_18 : decode method_4_code 18 = .ok (.iload_n 3, 1) := by decide +kernel
theorem d10_19 : decode method_4_code 19 = .ok (.iaload, 1) := by decide +kernel
theorem d10_20 : decode method_4_code 20 = .ok (.if_icmp .ne 7, 3) := by decide +kernel
theorem d10_23 : decode method_4_code 23 = .ok (.iconst 1, 1) := by decide +kernel
theorem d10_24 : decode method_4_code 24 = .ok (.goto 4, 3) := by decide +kernel
theorem d10_27 : decode method_4_code 27 = .ok (.iconst 0, 1) := by decide +kernel
theorem d10_28 : decode method_4_code 28 = .ok (.if_icmp .ne 7, 3) := by decide +kernel
theorem d10_31 : decode method_4_code 31 = .ok (.iconst 1, 1) := by decide +kernel
theorem d10_32 : decode method_4_code 32 = .ok (.goto 4, 3) := by decide +kernel
theorem d10_35 : decode method_4_code 35 = .ok (.iconst 0, 1) := by decide +kernel
theorem d10_36 : decode method_4_code 36 = .ok (.ireturn, 1) := by decide +kernel
theorem pn_10 : plainName "com/example/allotree/allotree/ComponentsFindPinLaw" = true := by first | (simp [plainName, overriddenIn]; done) | decide +kernel
theorem ef_10 (m : MethodId) (x0 : Addr) (x1 : Addr) (x2 : Int32) (x3 : Int32) : entryFrame m #[(.ref x0), (.ref x1), (.int x2), (.int x3)] 4 = mkF m 0 #[.val (.ref x0), .val (.ref x1), .val (.int x2), .val (.int x3)] [] := by first | (simp [entryFrame, mkF, argsToLocals, Value.category]; done) | rfl
def Q10 (Z : State) (a1 a2 : Addr) (i j : Nat) (lab r : Nat → Int32) (h0 : Heap) (n0 : Nat) (v : Option Value) (h : Heap) (L : List Loc) : Prop := v = some (.int (1 : Int32)) ∧ Fr n0 L ∧ h = h0
set_option maxRecDepth 65536 in
set_option maxHeartbeats 40000000 in
theorem rm10 (l : Launch) (Z : State) (a0 : Array Value) (hw : ∀ d ∈ tables_1, d.before a0 Z = true) (ws : List Jvm.Cond) (a1 a2 : Addr) (i j : Nat) (lab r : Nat → Int32) (h0 : Heap) (n0 : Nat) (Z0 : n0 ≤ h0.size) (hi : i < 4) (hj : j < 4) (A : own_P Z h0 a1 4 lab) (A2 : own_P Z h0 a2 4 r) (hri : r i = r j ↔ lab i = lab j) :
    MetFree l (⟨"com/example/allotree/allotree/ComponentsFindPinLaw", "pair", "([I[III)Z"⟩ : MethodName) (head1 (Jvm.Cond.code (⟨"com/example/allotree/allotree/ComponentsFindPinLaw", "pair", "([I[III)Z"⟩ : MethodName) method_4_code 4 (some .boolean) :: ws) ({ frames := 0, cells := 0, slots := 0, locals := 0 } : Room)) (fun a U => a = #[(.ref a1), (.ref a2), (.int (Int32.ofNat i)), (.int (Int32.ofNat j))] ∧ Z.Warmed39 U.vm ∧ U.heap = h0) (fun _ _ _ _ _ => True) (fun _ U o U' => ∃ v L, o = .returned v ∧ Q10 Z a1 a2 i j lab r h0 n0 v U'.heap L ∧ FrameEnd U o U' L ({ frames := 0, cells := 0, slots := 0, locals := 0 } : Room).cells ({ frames := 0, cells := 0, slots := 0, locals := 0 } : Room).slots) := by
  refine MetFree.of_bodySF (plainFor_of_name pn_10) hisR ?_
  intro p e s m args below meth c s₁ Bd hml0 hP hK
  obtain ⟨rfl, hZ, hh⟩ := hP
  have hx := Bd.exec
  have hby := Bd.bytes
  have hml : c.maxLocals = 4 := hml0
  have hown : s.vm.findClass "com/example/allotree/allotree/ComponentsFindPinLaw" = some m.cls := findClass_of_methodNamed Bd.named
  have hnm := (name_of_methodNamed Bd.named Bd.method).1
  have X0 : Stand p l e ({ frames := 0, cells := 0, slots := 0, locals := 0 } : Room) s m #[(.ref a1), (.ref a2), (.int (Int32.ofNat i)), (.int (Int32.ofNat j))] below meth c s₁ [] 0 0 := Stand.of_body Bd
  have e0 : s₁.heap = h0 := by rw [← hh, Bd.state]; rfl
  have N0 := Fr.nil n0
  have pre0 : ∀ t, Steps p.tables e below (s₁.setTop (mkF m 0 #[.val (.ref a1), .val (.ref a2), .val (.int (Int32.ofNat i)), .val (.int (Int32.ofNat j))] [])) t → Steps p.tables e below (s₁.setTop (entryFrame m #[(.ref a1), (.ref a2), (.int (Int32.ofNat i)), (.int (Int32.ofNat j))] 4)) t := fun t k => castTop (ef_10 m a1 a2 ((Int32.ofNat i)) ((Int32.ofNat j))) k
  obtain ⟨c0, Ar0, S0, H0⟩ := id A
  obtain ⟨c2, Ar2, S2, H2⟩ := id A2
  by_cases h : r i = r j
  · obtain ⟨fs, hr, hrun, hended, hW, hsame⟩ := X0.leave (v := some (.int (1 : Int32))) (fun h => by rw [Bd.returns] at h; cases h)
    refine ⟨_, _, pre0 _ ?_, hrun, hended, _, _, rfl, ?_, ⟨_, rfl⟩, hW, hsame.mono (by decide) (by decide)⟩
    · show Steps p.tables e below (s₁.setTop (mkF m 0 #[.val (.ref a1), .val (.ref a2), .val (.int (Int32.ofNat i)), .val (.int (Int32.ofNat j))] [])) _
      refine XS.aloadN X0.here hx rfl (hb hby d10_0) rfl rfl ?_
      show Steps p.tables e below (s₁.setTop (mkF m 1 #[.val (.ref a1), .val (.ref a2), .val (.int (Int32.ofNat i)), .val (.int (Int32.ofNat j))] [(.ref a2)])) _
      refine XS.iloadN X0.here hx rfl (hb hby d10_1) rfl ?_
      show Steps p.tables e below (s₁.setTop (mkF m 2 #[.val (.ref a1), .val (.ref a2), .val (.int (Int32.ofNat i)), .val (.int (Int32.ofNat j))] [(.int (Int32.ofNat i)), (.ref a2)])) _
      refine X0.iaload hx (j := (Int32.ofNat i)) (v := (.int (r i))) (by rw [e0]; exact Ar2.1) (State.isArrayOf_alike hZ.alike Ar2.2.1) Ar2.2.2 (own_in S2 (by omega) (by omega)) (own_at H2 (by omega) (by omega) rfl) (g := (mkF m 2 #[.val (.ref a1), .val (.ref a2), .val (.int (Int32.ofNat i)), .val (.int (Int32.ofNat j))] [(.int (Int32.ofNat i)), (.ref a2)])) rfl rfl (hb hby d10_2) _ ?_
      show Steps p.tables e below (s₁.setTop (mkF m 3 #[.val (.ref a1), .val (.ref a2), .val (.int (Int32.ofNat i)), .val (.int (Int32.ofNat j))] [(.int (r i))])) _
      refine XS.aloadN X0.here hx rfl (hb hby d10_3) rfl rfl ?_
      show Steps p.tables e below (s₁.setTop (mkF m 4 #[.val (.ref a1), .val (.ref a2), .val (.int (Int32.ofNat i)), .val (.int (Int32.ofNat j))] [(.ref a2), (.int (r i))])) _
      refine XS.iloadN X0.here hx rfl (hb hby d10_4) rfl ?_
      show Steps p.tables e below (s₁.setTop (mkF m 5 #[.val (.ref a1), .val (.ref a2), .val (.int (Int32.ofNat i)), .val (.int (Int32.ofNat j))] [(.int (Int32.ofNat j)), (.ref a2), (.int (r i))])) _
      refine X0.iaload hx (j := (Int32.ofNat j)) (v := (.int (r j))) (by rw [e0]; exact Ar2.1) (State.isArrayOf_alike hZ.alike Ar2.2.1) Ar2.2.2 (own_in S2 (by omega) (by omega)) (own_at H2 (by omega) (by omega) rfl) (g := (mkF m 5 #[.val (.ref a1), .val (.ref a2), .val (.int (Int32.ofNat i)), .val (.int (Int32.ofNat j))] [(.int (Int32.ofNat j)), (.ref a2), (.int (r i))])) rfl rfl (hb hby d10_5) _ ?_
      show Steps p.tables e below (s₁.setTop (mkF m 6 #[.val (.ref a1), .val (.ref a2), .val (.int (Int32.ofNat i)), .val (.int (Int32.ofNat j))] [(.int (r j)), (.int (r i))])) _
      refine XS.icmpNo X0.here hx rfl (hb hby d10_6) rfl (teq h).2 ?_
      show Steps p.tables e below (s₁.setTop (mkF m 9 #[.val (.ref a1), .val (.ref a2), .val (.int (Int32.ofNat i)), .val (.int (Int32.ofNat j))] [])) _
      refine XS.iconst X0.here hx rfl (hb hby d10_9) ?_
      show Steps p.tables e below (s₁.setTop (mkF m 10 #[.val (.ref a1), .val (.ref a2), .val (.int (Int32.ofNat i)), .val (.int (Int32.ofNat j))] [(.int (1 : Int32))])) _
      refine XS.goto X0.here hx rfl (pc0 := 10) (pc' := 14) rfl (hb hby d10_10) (by decide) (by decide) ?_
      show Steps p.tables e below (s₁.setTop (mkF m 14 #[.val (.ref a1), .val (.ref a2), .val (.int (Int32.ofNat i)), .val (.int (Int32.ofNat j))] [(.int (1 : Int32))])) _
      refine XS.aloadN X0.here hx rfl (hb hby d10_14) rfl rfl ?_
      show Steps p.tables e below (s₁.setTop (mkF m 15 #[.val (.ref a1), .val (.ref a2), .val (.int (Int32.ofNat i)), .val (.int (Int32.ofNat j))] [(.ref a1), (.int (1 : Int32))])) _
      refine XS.iloadN X0.here hx rfl (hb hby d10_15) rfl ?_
      show Steps p.tables e below (s₁.setTop (mkF m 16 #[.val (.ref a1), .val (.ref a2), .val (.int (Int32.ofNat i)), .val (.int (Int32.ofNat j))] [(.int (Int32.ofNat i)), (.ref a1), (.int (1 : Int32))])) _
      refine X0.iaload hx (j := (Int32.ofNat i)) (v := (.int (lab i))) (by rw [e0]; exact Ar0.1) (State.isArrayOf_alike hZ.alike Ar0.2.1) Ar0.2.2 (own_in S0 (by omega) (by omega)) (own_at H0 (by omega) (by omega) rfl) (g := (mkF m 16 #[.val (.ref a1), .val (.ref a2), .val (.int (Int32.ofNat i)), .val (.int (Int32.ofNat j))] [(.int (Int32.ofNat i)), (.ref a1), (.int (1 : Int32))])) rfl rfl (hb hby d10_16) _ ?_
      show Steps p.tables e below (s₁.setTop (mkF m 17 #[.val (.ref a1), .val (.ref a2), .val (.int (Int32.ofNat i)), .val (.int (Int32.ofNat j))] [(.int (lab i)), (.int (1 : Int32))])) _
      refine XS.aloadN X0.here hx rfl (hb hby d10_17) rfl rfl ?_
      show Steps p.tables e below (s₁.setTop (mkF m 18 #[.val (.ref a1), .val (.ref a2), .val (.int (Int32.ofNat i)), .val (.int (Int32.ofNat j))] [(.ref a1), (.int (lab i)), (.int (1 : Int32))])) _
      refine XS.iloadN X0.here hx rfl (hb hby d10_18) rfl ?_
      show Steps p.tables e below (s₁.setTop (mkF m 19 #[.val (.ref a1), .val (.ref a2), .val (.int (Int32.ofNat i)), .val (.int (Int32.ofNat j))] [(.int (Int32.ofNat j)), (.ref a1), (.int (lab i)), (.int (1 : Int32))])) _
      refine X0.iaload hx (j := (Int32.ofNat j)) (v := (.int (lab j))) (by rw [e0]; exact Ar0.1) (State.isArrayOf_alike hZ.alike Ar0.2.1) Ar0.2.2 (own_in S0 (by omega) (by omega)) (own_at H0 (by omega) (by omega) rfl) (g := (mkF m 19 #[.val (.ref a1), .val (.ref a2), .val (.int (Int32.ofNat i)), .val (.int (Int32.ofNat j))] [(.int (Int32.ofNat j)), (.ref a1), (.int (lab i)), (.int (1 : Int32))])) rfl rfl (hb hby d10_19) _ ?_
      show Steps p.tables e below (s₁.setTop (mkF m 20 #[.val (.ref a1), .val (.ref a2), .val (.int (Int32.ofNat i)), .val (.int (Int32.ofNat j))] [(.int (lab j)), (.int (lab i)), (.int (1 : Int32))])) _
      refine XS.icmpNo X0.here hx rfl (hb hby d10_20) rfl (teq (hri.1 h)).2 ?_
      show Steps p.tables e below (s₁.setTop (mkF m 23 #[.val (.ref a1), .val (.ref a2), .val (.int (Int32.ofNat i)), .val (.int (Int32.ofNat j))] [(.int (1 : Int32))])) _
      refine XS.iconst X0.here hx rfl (hb hby d10_23) ?_
      show Steps p.tables e below (s₁.setTop (mkF m 24 #[.val (.ref a1), .val (.ref a2), .val (.int (Int32.ofNat i)), .val (.int (Int32.ofNat j))] [(.int (1 : Int32)), (.int (1 : Int32))])) _
      refine XS.goto X0.here hx rfl (pc0 := 24) (pc' := 28) rfl (hb hby d10_24) (by decide) (by decide) ?_
      show Steps p.tables e below (s₁.setTop (mkF m 28 #[.val (.ref a1), .val (.ref a2), .val (.int (Int32.ofNat i)), .val (.int (Int32.ofNat j))] [(.int (1 : Int32)), (.int (1 : Int32))])) _
      refine XS.icmpNo X0.here hx rfl (hb hby d10_28) rfl (teq rfl).2 ?_
      show Steps p.tables e below (s₁.setTop (mkF m 31 #[.val (.ref a1), .val (.ref a2), .val (.int (Int32.ofNat i)), .val (.int (Int32.ofNat j))] [])) _
      refine XS.iconst X0.here hx rfl (hb hby d10_31) ?_
      show Steps p.tables e below (s₁.setTop (mkF m 32 #[.val (.ref a1), .val (.ref a2), .val (.int (Int32.ofNat i)), .val (.int (Int32.ofNat j))] [(.int (1 : Int32))])) _
      refine XS.goto X0.here hx rfl (pc0 := 32) (pc' := 36) rfl (hb hby d10_32) (by decide) (by decide) ?_
      show Steps p.tables e below (s₁.setTop (mkF m 36 #[.val (.ref a1), .val (.ref a2), .val (.int (Int32.ofNat i)), .val (.int (Int32.ofNat j))] [(.int (1 : Int32))])) _
      exact retN X0 hx (t := .boolean) Bd.returns (by simp) (hb hby d10_36) hr
    · show Q10 Z a1 a2 i j lab r h0 n0 _ s₁.heap _
      exact ⟨rfl, N0, e0⟩
  · obtain ⟨fs, hr, hrun, hended, hW, hsame⟩ := X0.leave (v := some (.int (1 : Int32))) (fun h => by rw [Bd.returns] at h; cases h)
    refine ⟨_, _, pre0 _ ?_, hrun, hended, _, _, rfl, ?_, ⟨_, rfl⟩, hW, hsame.mono (by decide) (by decide)⟩
    · show Steps p.tables e below (s₁.setTop (mkF m 0 #[.val (.ref a1), .val (.ref a2), .val (.int (Int32.ofNat i)), .val (.int (Int32.ofNat j))] [])) _
      refine XS.aloadN X0.here hx rfl (hb hby d10_0) rfl rfl ?_
      show Steps p.tables e below (s₁.setTop (mkF m 1 #[.val (.ref a1), .val (.ref a2), .val (.int (Int32.ofNat i)), .val (.int (Int32.ofNat j))] [(.ref a2)])) _
      refine XS.iloadN X0.here hx rfl (hb hby d10_1) rfl ?_
      show Steps p.tables e below (s₁.setTop (mkF m 2 #[.val (.ref a1), .val (.ref a2), .val (.int (Int32.ofNat i)), .val (.int (Int32.ofNat j))] [(.int (Int32.ofNat i)), (.ref a2)])) _
      refine X0.iaload hx (j := (Int32.ofNat i)) (v := (.int (r i))) (by rw [e0]; exact Ar2.1) (State.isArrayOf_alike hZ.alike Ar2.2.1) Ar2.2.2 (own_in S2 (by omega) (by omega)) (own_at H2 (by omega) (by omega) rfl) (g := (mkF m 2 #[.val (.ref a1), .val (.ref a2), .val (.int (Int32.ofNat i)), .val (.int (Int32.ofNat j))] [(.int (Int32.ofNat i)), (.ref a2)])) rfl rfl (hb hby d10_2) _ ?_
      show Steps p.tables e below (s₁.setTop (mkF m 3 #[.val (.ref a1), .val (.ref a2), .val (.int (Int32.ofNat i)), .val (.int (Int32.ofNat j))] [(.int (r i))])) _
      refine XS.aloadN X0.here hx rfl (hb hby d10_3) rfl rfl ?_
      show Steps p.tables e below (s₁.setTop (mkF m 4 #[.val (.ref a1), .val (.ref a2), .val (.int (Int32.ofNat i)), .val (.int (Int32.ofNat j))] [(.ref a2), (.int (r i))])) _
      refine XS.iloadN X0.here hx rfl (hb hby d10_4) rfl ?_
      show Steps p.tables e below (s₁.setTop (mkF m 5 #[.val (.ref a1), .val (.ref a2), .val (.int (Int32.ofNat i)), .val (.int (Int32.ofNat j))] [(.int (Int32.ofNat j)), (.ref a2), (.int (r i))])) _
      refine X0.iaload hx (j := (Int32.ofNat j)) (v := (.int (r j))) (by rw [e0]; exact Ar2.1) (State.isArrayOf_alike hZ.alike Ar2.2.1) Ar2.2.2 (own_in S2 (by omega) (by omega)) (own_at H2 (by omega) (by omega) rfl) (g := (mkF m 5 #[.val (.ref a1), .val (.ref a2), .val (.int (Int32.ofNat i)), .val (.int (Int32.ofNat j))] [(.int (Int32.ofNat j)), (.ref a2), (.int (r i))])) rfl rfl (hb hby d10_5) _ ?_
      show Steps p.tables e below (s₁.setTop (mkF m 6 #[.val (.ref a1), .val (.ref a2), .val (.int (Int32.ofNat i)), .val (.int (Int32.ofNat j))] [(.int (r j)), (.int (r i))])) _
      refine XS.icmpYes X0.here hx rfl (pc0 := 6) (pc' := 13) rfl (hb hby d10_6) rfl (feq h).2 (by decide) (by decide) ?_
      show Steps p.tables e below (s₁.setTop (mkF m 13 #[.val (.ref a1), .val (.ref a2), .val (.int (Int32.ofNat i)), .val (.int (Int32.ofNat j))] [])) _
      refine XS.iconst X0.here hx rfl (hb hby d10_13) ?_
      show Steps p.tables e below (s₁.setTop (mkF m 14 #[.val (.ref a1), .val (.ref a2), .val (.int (Int32.ofNat i)), .val (.int (Int32.ofNat j))] [(.int (0 : Int32))])) _
      refine XS.aloadN X0.here hx rfl (hb hby d10_14) rfl rfl ?_
      show Steps p.tables e below (s₁.setTop (mkF m 15 #[.val (.ref a1), .val (.ref a2), .val (.int (Int32.ofNat i)), .val (.int (Int32.ofNat j))] [(.ref a1), (.int (0 : Int32))])) _
      refine XS.iloadN X0.here hx rfl (hb hby d10_15) rfl ?_
      show Steps p.tables e below (s₁.setTop (mkF m 16 #[.val (.ref a1), .val (.ref a2), .val (.int (Int32.ofNat i)), .val (.int (Int32.ofNat j))] [(.int (Int32.ofNat i)), (.ref a1), (.int (0 : Int32))])) _
      refine X0.iaload hx (j := (Int32.ofNat i)) (v := (.int (lab i))) (by rw [e0]; exact Ar0.1) (State.isArrayOf_alike hZ.alike Ar0.2.1) Ar0.2.2 (own_in S0 (by omega) (by omega)) (own_at H0 (by omega) (by omega) rfl) (g := (mkF m 16 #[.val (.ref a1), .val (.ref a2), .val (.int (Int32.ofNat i)), .val (.int (Int32.ofNat j))] [(.int (Int32.ofNat i)), (.ref a1), (.int (0 : Int32))])) rfl rfl (hb hby d10_16) _ ?_
      show Steps p.tables e below (s₁.setTop (mkF m 17 #[.val (.ref a1), .val (.ref a2), .val (.int (Int32.ofNat i)), .val (.int (Int32.ofNat j))] [(.int (lab i)), (.int (0 : Int32))])) _
      refine XS.aloadN X0.here hx rfl (hb hby d10_17) rfl rfl ?_
      show Steps p.tables e below (s₁.setTop (mkF m 18 #[.val (.ref a1), .val (.ref a2), .val (.int (Int32.ofNat i)), .val (.int (Int32.ofNat j))] [(.ref a1), (.int (lab i)), (.int (0 : Int32))])) _
      refine XS.iloadN X0.here hx rfl (hb hby d10_18) rfl ?_
      show Steps p.tables e below (s₁.setTop (mkF m 19 #[.val (.ref a1), .val (.ref a2), .val (.int (Int32.ofNat i)), .val (.int (Int32.ofNat j))] [(.int (Int32.ofNat j)), (.ref a1), (.int (lab i)), (.int (0 : Int32))])) _
      refine X0.iaload hx (j := (Int32.ofNat j)) (v := (.int (lab j))) (by rw [e0]; exact Ar0.1) (State.isArrayOf_alike hZ.alike Ar0.2.1) Ar0.2.2 (own_in S0 (by omega) (by omega)) (own_at H0 (by omega) (by omega) rfl) (g := (mkF m 19 #[.val (.ref a1), .val (.ref a2), .val (.int (Int32.ofNat i)), .val (.int (Int32.ofNat j))] [(.int (Int32.ofNat j)), (.ref a1), (.int (lab i)), (.int (0 : Int32))])) rfl rfl (hb hby d10_19) _ ?_
      show Steps p.tables e below (s₁.setTop (mkF m 20 #[.val (.ref a1), .val (.ref a2), .val (.int (Int32.ofNat i)), .val (.int (Int32.ofNat j))] [(.int (lab j)), (.int (lab i)), (.int (0 : Int32))])) _
      refine XS.icmpYes X0.here hx rfl (pc0 := 20) (pc' := 27) rfl (hb hby d10_20) rfl (feq (fun z => h (hri.2 z))).2 (by decide) (by decide) ?_
      show Steps p.tables e below (s₁.setTop (mkF m 27 #[.val (.ref a1), .val (.ref a2), .val (.int (Int32.ofNat i)), .val (.int (Int32.ofNat j))] [(.int (0 : Int32))])) _
      refine XS.iconst X0.here hx rfl (hb hby d10_27) ?_
      show Steps p.tables e below (s₁.setTop (mkF m 28 #[.val (.ref a1), .val (.ref a2), .val (.int (Int32.ofNat i)), .val (.int (Int32.ofNat j))] [(.int (0 : Int32)), (.int (0 : Int32))])) _
      refine XS.icmpNo X0.here hx rfl (hb hby d10_28) rfl (teq rfl).2 ?_
      show Steps p.tables e below (s₁.setTop (mkF m 31 #[.val (.ref a1), .val (.ref a2), .val (.int (Int32.ofNat i)), .val (.int (Int32.ofNat j))] [])) _
      refine XS.iconst X0.here hx rfl (hb hby d10_31) ?_
      show Steps p.tables e below (s₁.setTop (mkF m 32 #[.val (.ref a1), .val (.ref a2), .val (.int (Int32.ofNat i)), .val (.int (Int32.ofNat j))] [(.int (1 : Int32))])) _
      refine XS.goto X0.here hx rfl (pc0 := 32) (pc' := 36) rfl (hb hby d10_32) (by decide) (by decide) ?_
      show Steps p.tables e below (s₁.setTop (mkF m 36 #[.val (.ref a1), .val (.ref a2), .val (.int (Int32.ofNat i)), .val (.int (Int32.ofNat j))] [(.int (1 : Int32))])) _
      exact retN X0 hx (t := .boolean) Bd.returns (by simp) (hb hby d10_36) hr
    · show Q10 Z a1 a2 i j lab r h0 n0 _ s₁.heap _
      exact ⟨rfl, N0, e0⟩
theorem pn_0 : plainName "com/example/allotree/allotree/ComponentsFindPinLaw" = true := by first | (simp [plainName, overriddenIn]; done) | decide +kernel
theorem ef_0 (m : MethodId) (x0 : Int32) (x1 : Int32) (x2 : Int32) (x3 : Int32) (x4 : Int32) (x5 : Int32) : entryFrame m #[(.int x0), (.int x1), (.int x2), (.int x3), (.int x4), (.int x5)] maxLocals = mkF m 0 #[.val (.int x0), .val (.int x1), .val (.int x2), .val (.int x3), .val (.int x4), .val (.int x5), .unset, .unset, .unset, .unset, .unset, .unset, .unset, .unset, .unset, .unset, .unset, .unset] [] := by first | (simp [entryFrame, mkF, argsToLocals, Value.category, maxLocals]; done) | rfl
theorem own_C.wr {Z : State} {h h' : Heap} {n0 : Nat} {b pa a : Addr} {p : Nat → Int32} {sl : Nat} {v : Value} (X : own_C Z h n0 b pa p) (W : Wr h h' a sl v) (q1 : b ≠ a) (q2 : pa ≠ a) : own_C Z h' n0 b pa p := ⟨X.1.wr W, X.2.1.other W (Or.inl q1), own_A.other X.2.2.1 W q2, X.2.2.2⟩
theorem own_ni {a b : Addr} (h : a ≠ b) : a ∉ [b] := fun z => h (List.mem_singleton.mp z)
theorem own_and3 (k : Int32) : ∃ n : Nat, n < 4 ∧ k &&& (3 : Int32) = Int32.ofNat n := by
  have e : (k &&& 3).toInt = k.toInt % 2 ^ 2 := Jvm.Kit.i32_mask k 3 (k := 2) (by decide) (by decide)
  refine ⟨((k &&& 3).toInt).toNat, by omega, Int32.toInt_inj.mp ?_⟩
  rw [Int32.toInt_ofNat_of_lt (by omega)]
  omega
theorem own_pairs {B : Int} {p lab : Nat → Int32} {d : Nat → Nat} (h : own_I B p lab d) {i j u v : Nat} (hu : u < 4) (hv : v < 4) (pu : (p u).toInt < 0) (pv : (p v).toInt < 0) (lu : lab u = lab i) (lv : lab v = lab j) : Int32.ofNat u = Int32.ofNat v ↔ lab i = lab j :=
  ⟨fun z => by have e := own_inj hu hv z; rw [← lu, ← lv, e], fun z => by rw [h.2.2 u v hu hv pu pv (by rw [lu, lv, z])]⟩
theorem own_roots {p q : Nat → Int32} (h : own_same p q) {u : Nat} (hu : u < 4) (pu : (p u).toInt < 0) : (q u).toInt < 0 := by rw [h u hu pu]; exact pu
set_option maxRecDepth 65536 in
set_option maxHeartbeats 40000000 in
theorem own_cJoin {p : Program} {l : Launch} {e : Env} {s : State} {m : MethodId} {args : Array Value} {below : List Frame} {meth : Method} {c : Code} {T0 : State} {locs : List Loc} {cells slots : Nat} {Z : State} {a0 : Array Value} {n0 : Nat} {pc : Nat} {Ls : Array Slot} {b pa : Addr} {x y : Nat} {pp lab : Nat → Int32} {d : Nat → Nat} {B : Int}
    (X0 : Stand p l e room_1 s m args below meth c T0 locs cells slots) (hx : p.tables.exec = Jvm.exec) (hZ : Z.Warmed39 s.vm) (hw : ∀ d ∈ tables_1, d.before a0 Z = true) (hby : c.code = code) (hown : s.vm.findClass "com/example/allotree/allotree/ComponentsFindPinLaw" = some m.cls) (hml : c.maxLocals = 18) (hcl : cells + 0 ≤ room_1.cells) (hsl : slots + 0 ≤ room_1.slots) (N0 : Fr n0 locs) (Z0 : n0 ≤ T0.heap.size) (hLs : Ls.size = 18) (hx4 : x < 4) (hy4 : y < 4) (hB : 0 ≤ B) (hB2 : B ≤ 1000) (hC : own_C Z T0.heap n0 b pa pp) (hI : own_I B pp lab d) (hd : decode c.code pc = .ok (.invokevirtual 14, 3)) :
    ∃ (T' : State) (locs' : List Loc) (p' : Nat → Int32) (d' : Nat → Nat), Stand p l e room_1 s m args below meth c T' locs' cells slots ∧ Fr n0 locs' ∧ n0 ≤ T'.heap.size ∧ Keep T0.heap T'.heap [pa] ∧ own_C Z T'.heap n0 b pa p' ∧ own_I (2 * B) p' (own_merge lab x y) d' ∧ ∀ target, Steps p.tables e below (T'.setTop (mkF m (pc + 3) Ls [])) target → Steps p.tables e below (T0.setTop (mkF m pc Ls [(.int (Int32.ofNat y)), (.int (Int32.ofNat x)), (.ref b)])) target := by
  obtain ⟨cq, kq, qa, qb, qc⟩ := isOf hZ rfl hC.1
  obtain ⟨_, _, ⟨T1, L1, k1, n1⟩, -, X1, ⟨Lc1, hQ1, l1, y1, z1⟩, st1⟩ := X0.virtualBack hx (y := (⟨"com/example/allotree/allotree/Components", "join", "(II)V"⟩ : MethodName)) (z := (⟨"com/example/allotree/allotree/Components", "join", "(II)V"⟩ : MethodName)) hown (mvT hZ (hw _ (List.mem_of_getElem? (i := 26) rfl))) (mvT hZ (hw _ (List.mem_of_getElem? (i := 27) rfl))) (notFace_of_selects (args := #[]) (mvT hZ (hw _ (List.mem_of_getElem? (i := 29) rfl)))) (mvT hZ (hw _ (List.mem_of_getElem? (i := 29) rfl))) (mvT hZ (hw _ (List.mem_of_getElem? (i := 28) rfl))) (by decide) (backOf (W := 0) (rm6 l Z a0 hw [] b pa x y pp lab d B T0.heap n0 Z0 hx4 hy4 hB hB2 hC hI) hZ (hw _ (List.mem_of_getElem? (i := 30) rfl)) (hw _ (List.mem_of_getElem? (i := 2) rfl)) (by decide) (by decide)) qa qc (g := (mkF m pc Ls [(.int (Int32.ofNat y)), (.int (Int32.ofNat x)), (.ref b)])) rfl (by rw [hml]; exact hLs) (Steps.refl _) (argsL := [(.int (Int32.ofNat x)), (.int (Int32.ofNat y))]) (rest := []) (lenOf pd_join rfl) rfl (by show 2 * 0 + _ ≤ _; exact Nat.le_of_eq rfl) hd (fun _ _ => ⟨rfl, rfl, hcl, hsl⟩)
  dsimp only [Pt.U, Pt.locs, Pt.cells, Pt.slots] at X1 l1 y1 z1 st1 hQ1
  subst l1 y1 z1
  obtain ⟨rfl, N1q, Z1, K1, p1, d1, C1, I1⟩ := hQ1
  exact ⟨T1, _, p1, d1, X1, Fr.app N0 N1q, Z1, K1, C1, I1, fun target k => st1.trans k⟩
set_option maxRecDepth 65536 in
set_option maxHeartbeats 40000000 in
theorem own_cMerge {p : Program} {l : Launch} {e : Env} {s : State} {m : MethodId} {args : Array Value} {below : List Frame} {meth : Method} {c : Code} {T0 : State} {locs : List Loc} {cells slots : Nat} {Z : State} {a0 : Array Value} {n0 : Nat} {pc : Nat} {Ls : Array Slot} {la : Addr} {x y : Nat} {lab : Nat → Int32}
    (X0 : Stand p l e room_1 s m args below meth c T0 locs cells slots) (hx : p.tables.exec = Jvm.exec) (hZ : Z.Warmed39 s.vm) (hw : ∀ d ∈ tables_1, d.before a0 Z = true) (hby : c.code = code) (hown : s.vm.findClass "com/example/allotree/allotree/ComponentsFindPinLaw" = some m.cls) (hml : c.maxLocals = 18) (hcl : cells + 0 ≤ room_1.cells) (hsl : slots + 0 ≤ room_1.slots) (N0 : Fr n0 locs) (Z0 : n0 ≤ T0.heap.size) (hLs : Ls.size = 18) (hx4 : x < 4) (hy4 : y < 4) (A : own_P Z T0.heap la 4 lab) (g_la : n0 ≤ la) (hd : decode c.code pc = .ok (.invokestatic 18, 3)) :
    ∃ (T' : State) (locs' : List Loc), Stand p l e room_1 s m args below meth c T' locs' cells slots ∧ Fr n0 locs' ∧ n0 ≤ T'.heap.size ∧ Keep T0.heap T'.heap [la] ∧ own_P Z T'.heap la 4 (own_merge lab x y) ∧ ∀ target, Steps p.tables e below (T'.setTop (mkF m (pc + 3) Ls [])) target → Steps p.tables e below (T0.setTop (mkF m pc Ls [(.int (Int32.ofNat y)), (.int (Int32.ofNat x)), (.ref la)])) target := by
  obtain ⟨_, _, ⟨T1, L1, k1, n1⟩, -, X1, ⟨Lc1, hQ1, l1, y1, z1⟩, st1⟩ := Jvm.LawKit.callS X0 hx (y := (⟨"com/example/allotree/allotree/ComponentsFindPinLaw", "merge", "([III)V"⟩ : MethodName)) hown (mvT hZ (hw _ (List.mem_of_getElem? (i := 36) rfl))) (mvT hZ (hw _ (List.mem_of_getElem? (i := 37) rfl))) (mvT hZ (hw _ (List.mem_of_getElem? (i := 38) rfl))) (mvT hZ (hw _ (List.mem_of_getElem? (i := 39) rfl))) (by decide) (backOf (W := 0) (rm8 l Z a0 hw [] la x y lab T0.heap n0 Z0 hx4 hy4 A g_la) hZ (hw _ (List.mem_of_getElem? (i := 39) rfl)) (hw _ (List.mem_of_getElem? (i := 38) rfl)) (by decide) (by decide)) (g := (mkF m pc Ls [(.int (Int32.ofNat y)), (.int (Int32.ofNat x)), (.ref la)])) rfl (by rw [hml]; exact hLs) (argsL := [(.ref la), (.int (Int32.ofNat x)), (.int (Int32.ofNat y))]) (rest := []) (lenOf pd_merge rfl) rfl (by show 2 * 0 + _ ≤ _; exact Nat.le_of_eq rfl) hd (fun _ _ => ⟨rfl, rfl, hcl, hsl⟩)
  dsimp only [Pt.U, Pt.locs, Pt.cells, Pt.slots] at X1 l1 y1 z1 st1 hQ1
  subst l1 y1 z1
  obtain ⟨rfl, N1q, Z1, K1, B1⟩ := hQ1
  exact ⟨T1, _, X1, Fr.app N0 N1q, Z1, K1, B1, st1⟩
set_option maxRecDepth 65536 in
set_option maxHeartbeats 40000000 in
theorem own_cFind2 {p : Program} {l : Launch} {e : Env} {s : State} {m : MethodId} {args : Array Value} {below : List Frame} {meth : Method} {c : Code} {T0 : State} {locs : List Loc} {cells slots : Nat} {Z : State} {a0 : Array Value} {n0 : Nat} {pc : Nat} {Ls : Array Slot} {ra : Addr} {ik : Int32} {b pa : Addr} {x : Nat} {pp lab : Nat → Int32} {d : Nat → Nat} {B : Int}
    (X0 : Stand p l e room_1 s m args below meth c T0 locs cells slots) (hx : p.tables.exec = Jvm.exec) (hZ : Z.Warmed39 s.vm) (hw : ∀ d ∈ tables_1, d.before a0 Z = true) (hby : c.code = code) (hown : s.vm.findClass "com/example/allotree/allotree/ComponentsFindPinLaw" = some m.cls) (hml : c.maxLocals = 18) (hcl : cells + 0 ≤ room_1.cells) (hsl : slots + 0 ≤ room_1.slots) (N0 : Fr n0 locs) (Z0 : n0 ≤ T0.heap.size) (hLs : Ls.size = 18) (hx4 : x < 4) (hB : 0 ≤ B) (hC : own_C Z T0.heap n0 b pa pp) (hI : own_I B pp lab d) (hd : decode c.code pc = .ok (.invokevirtual 24, 3)) :
    ∃ (T' : State) (locs' : List Loc) (p' : Nat → Int32) (rx : Nat), Stand p l e room_1 s m args below meth c T' locs' cells slots ∧ Fr n0 locs' ∧ n0 ≤ T'.heap.size ∧ Keep T0.heap T'.heap [pa] ∧ own_C Z T'.heap n0 b pa p' ∧ own_I B p' lab d ∧ own_same pp p' ∧ rx < 4 ∧ (p' rx).toInt < 0 ∧ lab rx = lab x ∧ ∀ target, Steps p.tables e below (T'.setTop (mkF m (pc + 3) Ls [(.int (Int32.ofNat rx)), (.int ik), (.ref ra)])) target → Steps p.tables e below (T0.setTop (mkF m pc Ls [(.int (Int32.ofNat x)), (.ref b), (.int ik), (.ref ra)])) target := by
  obtain ⟨cq, kq, qa, qb, qc⟩ := isOf hZ rfl hC.1
  obtain ⟨_, _, ⟨T1, L1, k1, n1⟩, -, X1, ⟨Lc1, hQ1, l1, y1, z1⟩, st1⟩ := X0.virtualBack hx (y := (⟨"com/example/allotree/allotree/Components", "find", "(I)I"⟩ : MethodName)) (z := (⟨"com/example/allotree/allotree/Components", "find", "(I)I"⟩ : MethodName)) hown (mvT hZ (hw _ (List.mem_of_getElem? (i := 40) rfl))) (mvT hZ (hw _ (List.mem_of_getElem? (i := 32) rfl))) (notFace_of_selects (args := #[]) (mvT hZ (hw _ (List.mem_of_getElem? (i := 34) rfl)))) (mvT hZ (hw _ (List.mem_of_getElem? (i := 34) rfl))) (mvT hZ (hw _ (List.mem_of_getElem? (i := 33) rfl))) (by decide) (backOf (W := 2) (rm7 l Z a0 hw [] b pa x pp lab d B T0.heap n0 Z0 hx4 hB hC hI) hZ (hw _ (List.mem_of_getElem? (i := 35) rfl)) (hw _ (List.mem_of_getElem? (i := 2) rfl)) (by decide) (by decide)) qa qc (g := (mkF m pc Ls [(.int (Int32.ofNat x)), (.ref b), (.int ik), (.ref ra)])) rfl (by rw [hml]; exact hLs) (Steps.refl _) (argsL := [(.int (Int32.ofNat x))]) (rest := [(.int ik), (.ref ra)]) (lenOf pd_find rfl) rfl (by show 2 * 0 + _ ≤ _; exact Nat.le_of_eq rfl) hd (fun _ _ => ⟨rfl, rfl, hcl, hsl⟩)
  dsimp only [Pt.U, Pt.locs, Pt.cells, Pt.slots] at X1 l1 y1 z1 st1 hQ1
  subst l1 y1 z1
  obtain ⟨N1q, Z1, K1, p1, r1, rfl, a1, b1, c1, C1, I1, S1⟩ := hQ1
  exact ⟨T1, _, p1, r1, X1, Fr.app N0 N1q, Z1, K1, C1, I1, S1, a1, b1, c1, fun target k => st1.trans k⟩
set_option maxRecDepth 65536 in
set_option maxHeartbeats 40000000 in
theorem own_cFind {p : Program} {l : Launch} {e : Env} {s : State} {m : MethodId} {args : Array Value} {below : List Frame} {meth : Method} {c : Code} {T0 : State} {locs : List Loc} {cells slots : Nat} {Z : State} {a0 : Array Value} {n0 : Nat} {pc : Nat} {Ls : Array Slot} {b pa : Addr} {x : Nat} {pp lab : Nat → Int32} {d : Nat → Nat} {B : Int}
    (X0 : Stand p l e room_1 s m args below meth c T0 locs cells slots) (hx : p.tables.exec = Jvm.exec) (hZ : Z.Warmed39 s.vm) (hw : ∀ d ∈ tables_1, d.before a0 Z = true) (hby : c.code = code) (hown : s.vm.findClass "com/example/allotree/allotree/ComponentsFindPinLaw" = some m.cls) (hml : c.maxLocals = 18) (hcl : cells + 0 ≤ room_1.cells) (hsl : slots + 0 ≤ room_1.slots) (N0 : Fr n0 locs) (Z0 : n0 ≤ T0.heap.size) (hLs : Ls.size = 18) (hx4 : x < 4) (hB : 0 ≤ B) (hC : own_C Z T0.heap n0 b pa pp) (hI : own_I B pp lab d) (hd : decode c.code pc = .ok (.invokevirtual 24, 3)) :
    ∃ (T' : State) (locs' : List Loc) (p' : Nat → Int32) (rx : Nat), Stand p l e room_1 s m args below meth c T' locs' cells slots ∧ Fr n0 locs' ∧ n0 ≤ T'.heap.size ∧ Keep T0.heap T'.heap [pa] ∧ own_C Z T'.heap n0 b pa p' ∧ own_I B p' lab d ∧ own_same pp p' ∧ rx < 4 ∧ (p' rx).toInt < 0 ∧ lab rx = lab x ∧ ∀ target, Steps p.tables e below (T'.setTop (mkF m (pc + 3) Ls [(.int (Int32.ofNat rx))])) target → Steps p.tables e below (T0.setTop (mkF m pc Ls [(.int (Int32.ofNat x)), (.ref b)])) target := by
  obtain ⟨cq, kq, qa, qb, qc⟩ := isOf hZ rfl hC.1
  obtain ⟨_, _, ⟨T1, L1, k1, n1⟩, -, X1, ⟨Lc1, hQ1, l1, y1, z1⟩, st1⟩ := X0.virtualBack hx (y := (⟨"com/example/allotree/allotree/Components", "find", "(I)I"⟩ : MethodName)) (z := (⟨"com/example/allotree/allotree/Components", "find", "(I)I"⟩ : MethodName)) hown (mvT hZ (hw _ (List.mem_of_getElem? (i := 40) rfl))) (mvT hZ (hw _ (List.mem_of_getElem? (i := 32) rfl))) (notFace_of_selects (args := #[]) (mvT hZ (hw _ (List.mem_of_getElem? (i := 34) rfl)))) (mvT hZ (hw _ (List.mem_of_getElem? (i := 34) rfl))) (mvT hZ (hw _ (List.mem_of_getElem? (i := 33) rfl))) (by decide) (backOf (W := 0) (rm7 l Z a0 hw [] b pa x pp lab d B T0.heap n0 Z0 hx4 hB hC hI) hZ (hw _ (List.mem_of_getElem? (i := 35) rfl)) (hw _ (List.mem_of_getElem? (i := 2) rfl)) (by decide) (by decide)) qa qc (g := (mkF m pc Ls [(.int (Int32.ofNat x)), (.ref b)])) rfl (by rw [hml]; exact hLs) (Steps.refl _) (argsL := [(.int (Int32.ofNat x))]) (rest := []) (lenOf pd_find rfl) rfl (by show 2 * 0 + _ ≤ _; exact Nat.le_of_eq rfl) hd (fun _ _ => ⟨rfl, rfl, hcl, hsl⟩)
  dsimp only [Pt.U, Pt.locs, Pt.cells, Pt.slots] at X1 l1 y1 z1 st1 hQ1
  subst l1 y1 z1
  obtain ⟨N1q, Z1, K1, p1, r1, rfl, a1, b1, c1, C1, I1, S1⟩ := hQ1
  exact ⟨T1, _, p1, r1, X1, Fr.app N0 N1q, Z1, K1, C1, I1, S1, a1, b1, c1, fun target k => st1.trans k⟩
set_option maxRecDepth 65536 in
set_option maxHeartbeats 40000000 in
theorem own_cIn {p : Program} {l : Launch} {e : Env} {s : State} {m : MethodId} {args : Array Value} {below : List Frame} {meth : Method} {c : Code} {T0 : State} {locs : List Loc} {cells slots : Nat} {Z : State} {a0 : Array Value} {n0 : Nat} {pc : Nat} {Ls : Array Slot} {la ra : Addr} {i u : Nat} {lab r : Nat → Int32}
    (X0 : Stand p l e room_1 s m args below meth c T0 locs cells slots) (hx : p.tables.exec = Jvm.exec) (hZ : Z.Warmed39 s.vm) (hw : ∀ d ∈ tables_1, d.before a0 Z = true) (hby : c.code = code) (hown : s.vm.findClass "com/example/allotree/allotree/ComponentsFindPinLaw" = some m.cls) (hml : c.maxLocals = 18) (hcl : cells + 0 ≤ room_1.cells) (hsl : slots + 0 ≤ room_1.slots) (N0 : Fr n0 locs) (Z0 : n0 ≤ T0.heap.size) (hLs : Ls.size = 18) (hi : i < 4) (hu : u < 4) (A : own_P Z T0.heap la 4 lab) (A2 : own_P Z T0.heap ra 4 r) (hri : r i = Int32.ofNat u) (hl : lab u = lab i) (hd : decode c.code pc = .ok (.invokestatic 28, 3)) :
    ∃ (T' : State) (locs' : List Loc), Stand p l e room_1 s m args below meth c T' locs' cells slots ∧ Fr n0 locs' ∧ n0 ≤ T'.heap.size ∧ T'.heap = T0.heap ∧ ∀ target, Steps p.tables e below (T'.setTop (mkF m (pc + 3) Ls [(.int (1 : Int32))])) target → Steps p.tables e below (T0.setTop (mkF m pc Ls [(.int (Int32.ofNat i)), (.ref ra), (.ref la)])) target := by
  obtain ⟨_, _, ⟨T1, L1, k1, n1⟩, -, X1, ⟨Lc1, hQ1, l1, y1, z1⟩, st1⟩ := Jvm.LawKit.callS X0 hx (y := (⟨"com/example/allotree/allotree/ComponentsFindPinLaw", "inPart", "([I[II)Z"⟩ : MethodName)) hown (mvT hZ (hw _ (List.mem_of_getElem? (i := 41) rfl))) (mvT hZ (hw _ (List.mem_of_getElem? (i := 42) rfl))) (mvT hZ (hw _ (List.mem_of_getElem? (i := 38) rfl))) (mvT hZ (hw _ (List.mem_of_getElem? (i := 43) rfl))) (by decide) (backOf (W := 0) (rm9 l Z a0 hw [] la ra i u lab r T0.heap n0 Z0 hi hu A A2 hri hl) hZ (hw _ (List.mem_of_getElem? (i := 43) rfl)) (hw _ (List.mem_of_getElem? (i := 38) rfl)) (by decide) (by decide)) (g := (mkF m pc Ls [(.int (Int32.ofNat i)), (.ref ra), (.ref la)])) rfl (by rw [hml]; exact hLs) (argsL := [(.ref la), (.ref ra), (.int (Int32.ofNat i))]) (rest := []) (lenOf pd_in rfl) rfl (by show 2 * 0 + _ ≤ _; exact Nat.le_of_eq rfl) hd (fun _ _ => ⟨rfl, rfl, hcl, hsl⟩)
  dsimp only [Pt.U, Pt.locs, Pt.cells, Pt.slots] at X1 l1 y1 z1 st1 hQ1
  subst l1 y1 z1
  obtain ⟨rfl, N1q, e1⟩ := hQ1
  exact ⟨T1, _, X1, Fr.app N0 N1q, by rw [e1]; exact Z0, e1, st1⟩
set_option maxRecDepth 65536 in
set_option maxHeartbeats 40000000 in
theorem own_cPair {p : Program} {l : Launch} {e : Env} {s : State} {m : MethodId} {args : Array Value} {below : List Frame} {meth : Method} {c : Code} {T0 : State} {locs : List Loc} {cells slots : Nat} {Z : State} {a0 : Array Value} {n0 : Nat} {pc : Nat} {Ls : Array Slot} {la ra : Addr} {i j : Nat} {lab r : Nat → Int32}
    (X0 : Stand p l e room_1 s m args below meth c T0 locs cells slots) (hx : p.tables.exec = Jvm.exec) (hZ : Z.Warmed39 s.vm) (hw : ∀ d ∈ tables_1, d.before a0 Z = true) (hby : c.code = code) (hown : s.vm.findClass "com/example/allotree/allotree/ComponentsFindPinLaw" = some m.cls) (hml : c.maxLocals = 18) (hcl : cells + 0 ≤ room_1.cells) (hsl : slots + 0 ≤ room_1.slots) (N0 : Fr n0 locs) (Z0 : n0 ≤ T0.heap.size) (hLs : Ls.size = 18) (hi : i < 4) (hj : j < 4) (A : own_P Z T0.heap la 4 lab) (A2 : own_P Z T0.heap ra 4 r) (hri : r i = r j ↔ lab i = lab j) (hd : decode c.code pc = .ok (.invokestatic 32, 3)) :
    ∃ (T' : State) (locs' : List Loc), Stand p l e room_1 s m args below meth c T' locs' cells slots ∧ Fr n0 locs' ∧ n0 ≤ T'.heap.size ∧ T'.heap = T0.heap ∧ ∀ target, Steps p.tables e below (T'.setTop (mkF m (pc + 3) Ls [(.int (1 : Int32))])) target → Steps p.tables e below (T0.setTop (mkF m pc Ls [(.int (Int32.ofNat j)), (.int (Int32.ofNat i)), (.ref ra), (.ref la)])) target := by
  obtain ⟨_, _, ⟨T1, L1, k1, n1⟩, -, X1, ⟨Lc1, hQ1, l1, y1, z1⟩, st1⟩ := Jvm.LawKit.callS X0 hx (y := (⟨"com/example/allotree/allotree/ComponentsFindPinLaw", "pair", "([I[III)Z"⟩ : MethodName)) hown (mvT hZ (hw _ (List.mem_of_getElem? (i := 44) rfl))) (mvT hZ (hw _ (List.mem_of_getElem? (i := 45) rfl))) (mvT hZ (hw _ (List.mem_of_getElem? (i := 38) rfl))) (mvT hZ (hw _ (List.mem_of_getElem? (i := 46) rfl))) (by decide) (backOf (W := 0) (rm10 l Z a0 hw [] la ra i j lab r T0.heap n0 Z0 hi hj A A2 hri) hZ (hw _ (List.mem_of_getElem? (i := 46) rfl)) (hw _ (List.mem_of_getElem? (i := 38) rfl)) (by decide) (by decide)) (g := (mkF m pc Ls [(.int (Int32.ofNat j)), (.int (Int32.ofNat i)), (.ref ra), (.ref la)])) rfl (by rw [hml]; exact hLs) (argsL := [(.ref la), (.ref ra), (.int (Int32.ofNat i)), (.int (Int32.ofNat j))]) (rest := []) (lenOf pd_pair rfl) rfl (by show 2 * 0 + _ ≤ _; exact Nat.le_of_eq rfl) hd (fun _ _ => ⟨rfl, rfl, hcl, hsl⟩)
  dsimp only [Pt.U, Pt.locs, Pt.cells, Pt.slots] at X1 l1 y1 z1 st1 hQ1
  subst l1 y1 z1
  obtain ⟨rfl, N1q, e1⟩ := hQ1
  exact ⟨T1, _, X1, Fr.app N0 N1q, by rw [e1]; exact Z0, e1, st1⟩
set_option maxRecDepth 65536 in
set_option maxHeartbeats 40000000 in
theorem own_start {p : Program} {l : Launch} {e : Env} {R : Room} {s : State} {m : MethodId} {args : Array Value} {below : List Frame} {meth : Method} {c : Code} {T0 : State} {locs : List Loc} {cells slots : Nat} {Z : State} {a0 : Array Value} {b la : Addr} {p1 p2 p3 p4 p5 p6 : Int32} {na nb nc nd ne nf : Nat}
    (X0 : Stand p l e R s m args below meth c T0 locs cells slots) (hx : p.tables.exec = Jvm.exec) (hZ : Z.Warmed39 s.vm) (hw : ∀ d ∈ tables_1, d.before a0 Z = true) (hby : c.code = code) (hown : s.vm.findClass "com/example/allotree/allotree/ComponentsFindPinLaw" = some m.cls) (e1 : p1 &&& (3 : Int32) = Int32.ofNat na) (e2 : p2 &&& (3 : Int32) = Int32.ofNat nb) (e3 : p3 &&& (3 : Int32) = Int32.ofNat nc) (e4 : p4 &&& (3 : Int32) = Int32.ofNat nd) (e5 : p5 &&& (3 : Int32) = Int32.ofNat ne) (e6 : p6 &&& (3 : Int32) = Int32.ofNat nf) :
    ∀ target, Steps p.tables e below (T0.setTop (mkF m 68 #[.val (.int p1), .val (.int p2), .val (.int p3), .val (.int p4), .val (.int p5), .val (.int p6), .val (.ref b), .val (.ref la), .val (.int (Int32.ofNat na)), .val (.int (Int32.ofNat nb)), .val (.int (Int32.ofNat nc)), .val (.int (Int32.ofNat nd)), .val (.int (Int32.ofNat ne)), .val (.int (Int32.ofNat nf)), .unset, .unset, .unset, .unset] [])) target → Steps p.tables e below (T0.setTop (mkF m 36 #[.val (.int p1), .val (.int p2), .val (.int p3), .val (.int p4), .val (.int p5), .val (.int p6), .val (.ref b), .val (.ref la), .unset, .unset, .unset, .unset, .unset, .unset, .unset, .unset, .unset, .unset] [])) target := by
  intro target kt
  show Steps p.tables e below (T0.setTop (mkF m 36 #[.val (.int p1), .val (.int p2), .val (.int p3), .val (.int p4), .val (.int p5), .val (.int p6), .val (.ref b), .val (.ref la), .unset, .unset, .unset, .unset, .unset, .unset, .unset, .unset, .unset, .unset] [])) _
  refine XS.iloadN X0.here hx rfl (hb hby at_36) rfl ?_
  show Steps p.tables e below (T0.setTop (mkF m 37 #[.val (.int p1), .val (.int p2), .val (.int p3), .val (.int p4), .val (.int p5), .val (.int p6), .val (.ref b), .val (.ref la), .unset, .unset, .unset, .unset, .unset, .unset, .unset, .unset, .unset, .unset] [(.int p1)])) _
  refine XS.iconst X0.here hx rfl (hb hby at_37) ?_
  show Steps p.tables e below (T0.setTop (mkF m 38 #[.val (.int p1), .val (.int p2), .val (.int p3), .val (.int p4), .val (.int p5), .val (.int p6), .val (.ref b), .val (.ref la), .unset, .unset, .unset, .unset, .unset, .unset, .unset, .unset, .unset, .unset] [(.int (3 : Int32)), (.int p1)])) _
  refine XS.iand X0.here hx rfl (hb hby at_38) rfl ?_
  show Steps p.tables e below (T0.setTop (mkF m 39 #[.val (.int p1), .val (.int p2), .val (.int p3), .val (.int p4), .val (.int p5), .val (.int p6), .val (.ref b), .val (.ref la), .unset, .unset, .unset, .unset, .unset, .unset, .unset, .unset, .unset, .unset] [(.int (p1 &&& (3 : Int32)))])) _
  refine XS.istore X0.here hx rfl (hb hby at_39) rfl (l' := #[.val (.int p1), .val (.int p2), .val (.int p3), .val (.int p4), .val (.int p5), .val (.int p6), .val (.ref b), .val (.ref la), .val (.int (p1 &&& (3 : Int32))), .unset, .unset, .unset, .unset, .unset, .unset, .unset, .unset, .unset]) rfl ?_
  show Steps p.tables e below (T0.setTop (mkF m 41 #[.val (.int p1), .val (.int p2), .val (.int p3), .val (.int p4), .val (.int p5), .val (.int p6), .val (.ref b), .val (.ref la), .val (.int (p1 &&& (3 : Int32))), .unset, .unset, .unset, .unset, .unset, .unset, .unset, .unset, .unset] [])) _
  refine XS.iloadN X0.here hx rfl (hb hby at_41) rfl ?_
  show Steps p.tables e below (T0.setTop (mkF m 42 #[.val (.int p1), .val (.int p2), .val (.int p3), .val (.int p4), .val (.int p5), .val (.int p6), .val (.ref b), .val (.ref la), .val (.int (p1 &&& (3 : Int32))), .unset, .unset, .unset, .unset, .unset, .unset, .unset, .unset, .unset] [(.int p2)])) _
  refine XS.iconst X0.here hx rfl (hb hby at_42) ?_
  show Steps p.tables e below (T0.setTop (mkF m 43 #[.val (.int p1), .val (.int p2), .val (.int p3), .val (.int p4), .val (.int p5), .val (.int p6), .val (.ref b), .val (.ref la), .val (.int (p1 &&& (3 : Int32))), .unset, .unset, .unset, .unset, .unset, .unset, .unset, .unset, .unset] [(.int (3 : Int32)), (.int p2)])) _
  refine XS.iand X0.here hx rfl (hb hby at_43) rfl ?_
  show Steps p.tables e below (T0.setTop (mkF m 44 #[.val (.int p1), .val (.int p2), .val (.int p3), .val (.int p4), .val (.int p5), .val (.int p6), .val (.ref b), .val (.ref la), .val (.int (p1 &&& (3 : Int32))), .unset, .unset, .unset, .unset, .unset, .unset, .unset, .unset, .unset] [(.int (p2 &&& (3 : Int32)))])) _
  refine XS.istore X0.here hx rfl (hb hby at_44) rfl (l' := #[.val (.int p1), .val (.int p2), .val (.int p3), .val (.int p4), .val (.int p5), .val (.int p6), .val (.ref b), .val (.ref la), .val (.int (p1 &&& (3 : Int32))), .val (.int (p2 &&& (3 : Int32))), .unset, .unset, .unset, .unset, .unset, .unset, .unset, .unset]) rfl ?_
  show Steps p.tables e below (T0.setTop (mkF m 46 #[.val (.int p1), .val (.int p2), .val (.int p3), .val (.int p4), .val (.int p5), .val (.int p6), .val (.ref b), .val (.ref la), .val (.int (p1 &&& (3 : Int32))), .val (.int (p2 &&& (3 : Int32))), .unset, .unset, .unset, .unset, .unset, .unset, .unset, .unset] [])) _
  refine XS.iloadN X0.here hx rfl (hb hby at_46) rfl ?_
  show Steps p.tables e below (T0.setTop (mkF m 47 #[.val (.int p1), .val (.int p2), .val (.int p3), .val (.int p4), .val (.int p5), .val (.int p6), .val (.ref b), .val (.ref la), .val (.int (p1 &&& (3 : Int32))), .val (.int (p2 &&& (3 : Int32))), .unset, .unset, .unset, .unset, .unset, .unset, .unset, .unset] [(.int p3)])) _
  refine XS.iconst X0.here hx rfl (hb hby at_47) ?_
  show Steps p.tables e below (T0.setTop (mkF m 48 #[.val (.int p1), .val (.int p2), .val (.int p3), .val (.int p4), .val (.int p5), .val (.int p6), .val (.ref b), .val (.ref la), .val (.int (p1 &&& (3 : Int32))), .val (.int (p2 &&& (3 : Int32))), .unset, .unset, .unset, .unset, .unset, .unset, .unset, .unset] [(.int (3 : Int32)), (.int p3)])) _
  refine XS.iand X0.here hx rfl (hb hby at_48) rfl ?_
  show Steps p.tables e below (T0.setTop (mkF m 49 #[.val (.int p1), .val (.int p2), .val (.int p3), .val (.int p4), .val (.int p5), .val (.int p6), .val (.ref b), .val (.ref la), .val (.int (p1 &&& (3 : Int32))), .val (.int (p2 &&& (3 : Int32))), .unset, .unset, .unset, .unset, .unset, .unset, .unset, .unset] [(.int (p3 &&& (3 : Int32)))])) _
  refine XS.istore X0.here hx rfl (hb hby at_49) rfl (l' := #[.val (.int p1), .val (.int p2), .val (.int p3), .val (.int p4), .val (.int p5), .val (.int p6), .val (.ref b), .val (.ref la), .val (.int (p1 &&& (3 : Int32))), .val (.int (p2 &&& (3 : Int32))), .val (.int (p3 &&& (3 : Int32))), .unset, .unset, .unset, .unset, .unset, .unset, .unset]) rfl ?_
  show Steps p.tables e below (T0.setTop (mkF m 51 #[.val (.int p1), .val (.int p2), .val (.int p3), .val (.int p4), .val (.int p5), .val (.int p6), .val (.ref b), .val (.ref la), .val (.int (p1 &&& (3 : Int32))), .val (.int (p2 &&& (3 : Int32))), .val (.int (p3 &&& (3 : Int32))), .unset, .unset, .unset, .unset, .unset, .unset, .unset] [])) _
  refine XS.iloadN X0.here hx rfl (hb hby at_51) rfl ?_
  show Steps p.tables e below (T0.setTop (mkF m 52 #[.val (.int p1), .val (.int p2), .val (.int p3), .val (.int p4), .val (.int p5), .val (.int p6), .val (.ref b), .val (.ref la), .val (.int (p1 &&& (3 : Int32))), .val (.int (p2 &&& (3 : Int32))), .val (.int (p3 &&& (3 : Int32))), .unset, .unset, .unset, .unset, .unset, .unset, .unset] [(.int p4)])) _
  refine XS.iconst X0.here hx rfl (hb hby at_52) ?_
  show Steps p.tables e below (T0.setTop (mkF m 53 #[.val (.int p1), .val (.int p2), .val (.int p3), .val (.int p4), .val (.int p5), .val (.int p6), .val (.ref b), .val (.ref la), .val (.int (p1 &&& (3 : Int32))), .val (.int (p2 &&& (3 : Int32))), .val (.int (p3 &&& (3 : Int32))), .unset, .unset, .unset, .unset, .unset, .unset, .unset] [(.int (3 : Int32)), (.int p4)])) _
  refine XS.iand X0.here hx rfl (hb hby at_53) rfl ?_
  show Steps p.tables e below (T0.setTop (mkF m 54 #[.val (.int p1), .val (.int p2), .val (.int p3), .val (.int p4), .val (.int p5), .val (.int p6), .val (.ref b), .val (.ref la), .val (.int (p1 &&& (3 : Int32))), .val (.int (p2 &&& (3 : Int32))), .val (.int (p3 &&& (3 : Int32))), .unset, .unset, .unset, .unset, .unset, .unset, .unset] [(.int (p4 &&& (3 : Int32)))])) _
  refine XS.istore X0.here hx rfl (hb hby at_54) rfl (l' := #[.val (.int p1), .val (.int p2), .val (.int p3), .val (.int p4), .val (.int p5), .val (.int p6), .val (.ref b), .val (.ref la), .val (.int (p1 &&& (3 : Int32))), .val (.int (p2 &&& (3 : Int32))), .val (.int (p3 &&& (3 : Int32))), .val (.int (p4 &&& (3 : Int32))), .unset, .unset, .unset, .unset, .unset, .unset]) rfl ?_
  show Steps p.tables e below (T0.setTop (mkF m 56 #[.val (.int p1), .val (.int p2), .val (.int p3), .val (.int p4), .val (.int p5), .val (.int p6), .val (.ref b), .val (.ref la), .val (.int (p1 &&& (3 : Int32))), .val (.int (p2 &&& (3 : Int32))), .val (.int (p3 &&& (3 : Int32))), .val (.int (p4 &&& (3 : Int32))), .unset, .unset, .unset, .unset, .unset, .unset] [])) _
  refine XS.iload X0.here hx rfl (hb hby at_56) rfl ?_
  show Steps p.tables e below (T0.setTop (mkF m 58 #[.val (.int p1), .val (.int p2), .val (.int p3), .val (.int p4), .val (.int p5), .val (.int p6), .val (.ref b), .val (.ref la), .val (.int (p1 &&& (3 : Int32))), .val (.int (p2 &&& (3 : Int32))), .val (.int (p3 &&& (3 : Int32))), .val (.int (p4 &&& (3 : Int32))), .unset, .unset, .unset, .unset, .unset, .unset] [(.int p5)])) _
  refine XS.iconst X0.here hx rfl (hb hby at_58) ?_
  show Steps p.tables e below (T0.setTop (mkF m 59 #[.val (.int p1), .val (.int p2), .val (.int p3), .val (.int p4), .val (.int p5), .val (.int p6), .val (.ref b), .val (.ref la), .val (.int (p1 &&& (3 : Int32))), .val (.int (p2 &&& (3 : Int32))), .val (.int (p3 &&& (3 : Int32))), .val (.int (p4 &&& (3 : Int32))), .unset, .unset, .unset, .unset, .unset, .unset] [(.int (3 : Int32)), (.int p5)])) _
  refine XS.iand X0.here hx rfl (hb hby at_59) rfl ?_
  show Steps p.tables e below (T0.setTop (mkF m 60 #[.val (.int p1), .val (.int p2), .val (.int p3), .val (.int p4), .val (.int p5), .val (.int p6), .val (.ref b), .val (.ref la), .val (.int (p1 &&& (3 : Int32))), .val (.int (p2 &&& (3 : Int32))), .val (.int (p3 &&& (3 : Int32))), .val (.int (p4 &&& (3 : Int32))), .unset, .unset, .unset, .unset, .unset, .unset] [(.int (p5 &&& (3 : Int32)))])) _
  refine XS.istore X0.here hx rfl (hb hby at_60) rfl (l' := #[.val (.int p1), .val (.int p2), .val (.int p3), .val (.int p4), .val (.int p5), .val (.int p6), .val (.ref b), .val (.ref la), .val (.int (p1 &&& (3 : Int32))), .val (.int (p2 &&& (3 : Int32))), .val (.int (p3 &&& (3 : Int32))), .val (.int (p4 &&& (3 : Int32))), .val (.int (p5 &&& (3 : Int32))), .unset, .unset, .unset, .unset, .unset]) rfl ?_
  show Steps p.tables e below (T0.setTop (mkF m 62 #[.val (.int p1), .val (.int p2), .val (.int p3), .val (.int p4), .val (.int p5), .val (.int p6), .val (.ref b), .val (.ref la), .val (.int (p1 &&& (3 : Int32))), .val (.int (p2 &&& (3 : Int32))), .val (.int (p3 &&& (3 : Int32))), .val (.int (p4 &&& (3 : Int32))), .val (.int (p5 &&& (3 : Int32))), .unset, .unset, .unset, .unset, .unset] [])) _
  refine XS.iload X0.here hx rfl (hb hby at_62) rfl ?_
  show Steps p.tables e below (T0.setTop (mkF m 64 #[.val (.int p1), .val (.int p2), .val (.int p3), .val (.int p4), .val (.int p5), .val (.int p6), .val (.ref b), .val (.ref la), .val (.int (p1 &&& (3 : Int32))), .val (.int (p2 &&& (3 : Int32))), .val (.int (p3 &&& (3 : Int32))), .val (.int (p4 &&& (3 : Int32))), .val (.int (p5 &&& (3 : Int32))), .unset, .unset, .unset, .unset, .unset] [(.int p6)])) _
  refine XS.iconst X0.here hx rfl (hb hby at_64) ?_
  show Steps p.tables e below (T0.setTop (mkF m 65 #[.val (.int p1), .val (.int p2), .val (.int p3), .val (.int p4), .val (.int p5), .val (.int p6), .val (.ref b), .val (.ref la), .val (.int (p1 &&& (3 : Int32))), .val (.int (p2 &&& (3 : Int32))), .val (.int (p3 &&& (3 : Int32))), .val (.int (p4 &&& (3 : Int32))), .val (.int (p5 &&& (3 : Int32))), .unset, .unset, .unset, .unset, .unset] [(.int (3 : Int32)), (.int p6)])) _
  refine XS.iand X0.here hx rfl (hb hby at_65) rfl ?_
  show Steps p.tables e below (T0.setTop (mkF m 66 #[.val (.int p1), .val (.int p2), .val (.int p3), .val (.int p4), .val (.int p5), .val (.int p6), .val (.ref b), .val (.ref la), .val (.int (p1 &&& (3 : Int32))), .val (.int (p2 &&& (3 : Int32))), .val (.int (p3 &&& (3 : Int32))), .val (.int (p4 &&& (3 : Int32))), .val (.int (p5 &&& (3 : Int32))), .unset, .unset, .unset, .unset, .unset] [(.int (p6 &&& (3 : Int32)))])) _
  refine XS.istore X0.here hx rfl (hb hby at_66) rfl (l' := #[.val (.int p1), .val (.int p2), .val (.int p3), .val (.int p4), .val (.int p5), .val (.int p6), .val (.ref b), .val (.ref la), .val (.int (p1 &&& (3 : Int32))), .val (.int (p2 &&& (3 : Int32))), .val (.int (p3 &&& (3 : Int32))), .val (.int (p4 &&& (3 : Int32))), .val (.int (p5 &&& (3 : Int32))), .val (.int (p6 &&& (3 : Int32))), .unset, .unset, .unset, .unset]) rfl ?_
  show Steps p.tables e below (T0.setTop (mkF m 68 #[.val (.int p1), .val (.int p2), .val (.int p3), .val (.int p4), .val (.int p5), .val (.int p6), .val (.ref b), .val (.ref la), .val (.int (p1 &&& (3 : Int32))), .val (.int (p2 &&& (3 : Int32))), .val (.int (p3 &&& (3 : Int32))), .val (.int (p4 &&& (3 : Int32))), .val (.int (p5 &&& (3 : Int32))), .val (.int (p6 &&& (3 : Int32))), .unset, .unset, .unset, .unset] [])) _
  rw [e1, e2, e3, e4, e5, e6]
  exact kt
-- 2. THE CONTRACT: what this body leaves is yours
def Q0 (Z : State) (p1 : Int32) (p2 : Int32) (p3 : Int32) (p4 : Int32) (p5 : Int32) (p6 : Int32) (h0 : Heap) (n0 : Nat) (v : Option Value) (h : Heap) (L : List Loc) : Prop := v = some (.int (1 : Int32)) ∧ Fr n0 L
-- its room: frames: the greatest, locals: the greatest, cells 3 + .., slots 10 + ..: rm1: frames + 1; locals 1 + 1 + 11 + its room's locals; its cells and slots besides; rm3: frames + 1; locals 0 + 2 + 11 + its room's locals; its cells and slots besides; rm6: frames + 1; locals 0 + 6 + 11 + its room's locals; its cells and slots besides; rm8: frames + 1; locals 0 + 5 + 11 + its room's locals; its cells and slots besides; rm6: frames + 1; locals 0 + 6 + 11 + its room's locals; its cells and slots besides; rm8: frames + 1; locals 0 + 5 + 11 + its room's locals; its cells and slots besides; rm6: frames + 1; locals 0 + 6 + 11 + its room's locals; its cells and slots besides; rm8: frames + 1; locals 0 + 5 + 11 + its room's locals; its cells and slots besides; rm7: frames + 1; locals 2 + 4 + 11 + its room's locals; its cells and slots besides; rm7: frames + 1; locals 2 + 4 + 11 + its room's locals; its cells and slots besides; rm7: frames + 1; locals 2 + 4 + 11 + its room's locals; its cells and slots besides; rm7: frames + 1; locals 2 + 4 + 11 + its room's locals; its cells and slots besides; rm9: frames + 1; locals 0 + 4 + 11 + its room's locals; its cells and slots besides; rm9: frames + 1; locals 0 + 4 + 11 + its room's locals; its cells and slots besides; rm9: frames + 1; locals 0 + 4 + 11 + its room's locals; its cells and slots besides; rm9: frames + 1; locals 0 + 4 + 11 + its room's locals; its cells and slots besides; rm10: frames + 1; locals 0 + 4 + 11 + its room's locals; its cells and slots besides; rm10: frames + 1; locals 0 + 4 + 11 + its room's locals; its cells and slots besides; rm10: frames + 1; locals 0 + 4 + 11 + its room's locals; its cells and slots besides; rm10: frames + 1; locals 0 + 4 + 11 + its room's locals; its cells and slots besides; rm10: frames + 1; locals 0 + 4 + 11 + its room's locals; its cells and slots besides; rm10: frames + 1; locals 0 + 4 + 11 + its room's locals; its cells and slots besides; rm7: frames + 1; locals 0 + 4 + 11 + its room's locals; its cells and slots besides
set_option maxRecDepth 65536 in
set_option maxHeartbeats 40000000 in
theorem rm0 (l : Launch) (Z : State) (a0 : Array Value) (hw : ∀ d ∈ tables_1, d.before a0 Z = true) (ws : List Jvm.Cond) (p1 : Int32) (p2 : Int32) (p3 : Int32) (p4 : Int32) (p5 : Int32) (p6 : Int32) (h0 : Heap) (n0 : Nat) (Z0 : n0 ≤ h0.size) :
    MetFree l x (head1 (Jvm.Cond.code x code maxLocals ret :: ws) room_1) (fun a U => a = #[(.int p1), (.int p2), (.int p3), (.int p4), (.int p5), (.int p6)] ∧ Z.Warmed39 U.vm ∧ U.heap = h0) (fun _ _ _ _ _ => True) (fun _ U o U' => ∃ v L, o = .returned v ∧ Q0 Z p1 p2 p3 p4 p5 p6 h0 n0 v U'.heap L ∧ FrameEnd U o U' L room_1.cells room_1.slots) := by
  refine MetFree.of_bodySF (plainFor_of_name pn_0) hisR ?_
  intro p e s m args below meth c s₁ Bd hml0 hP hK
  obtain ⟨rfl, hZ, hh⟩ := hP
  have hx := Bd.exec
  have hby := Bd.bytes
  have hml : c.maxLocals = 18 := hml0
  have hown : s.vm.findClass "com/example/allotree/allotree/ComponentsFindPinLaw" = some m.cls := findClass_of_methodNamed Bd.named
  have hnm := (name_of_methodNamed Bd.named Bd.method).1
  have X0 : Stand p l e room_1 s m #[(.int p1), (.int p2), (.int p3), (.int p4), (.int p5), (.int p6)] below meth c s₁ [] 0 0 := Stand.of_body Bd
  have e0 : s₁.heap = h0 := by rw [← hh, Bd.state]; rfl
  have N0 := Fr.nil n0
  have pre0 : ∀ t, Steps p.tables e below (s₁.setTop (mkF m 0 #[.val (.int p1), .val (.int p2), .val (.int p3), .val (.int p4), .val (.int p5), .val (.int p6), .unset, .unset, .unset, .unset, .unset, .unset, .unset, .unset, .unset, .unset, .unset, .unset] [])) t → Steps p.tables e below (s₁.setTop (entryFrame m #[(.int p1), (.int p2), (.int p3), (.int p4), (.int p5), (.int p6)] maxLocals)) t := fun t k => castTop (ef_0 m p1 p2 p3 p4 p5 p6) k
  obtain ⟨na, hna, ena⟩ := own_and3 p1
  obtain ⟨nb, hnb, enb⟩ := own_and3 p2
  obtain ⟨nc, hnc, enc⟩ := own_and3 p3
  obtain ⟨nd, hnd, end1⟩ := own_and3 p4
  obtain ⟨ne, hne, ene⟩ := own_and3 p5
  obtain ⟨nf, hnf, enf⟩ := own_and3 p6
  obtain ⟨T1, h1, X1, e1, E1, A1, D1, -, st1⟩ := newO X0 hx hZ hown (hw _ (List.mem_of_getElem? (i := 0) rfl)) (hw _ (List.mem_of_getElem? (i := 1) rfl)) (hw _ (List.mem_of_getElem? (i := 2) rfl)) e0 (g := (mkF m 0 #[.val (.int p1), .val (.int p2), .val (.int p3), .val (.int p4), .val (.int p5), .val (.int p6), .unset, .unset, .unset, .unset, .unset, .unset, .unset, .unset, .unset, .unset, .unset, .unset] [])) rfl (hb hby at_0) (by decide) (by decide)
  obtain ⟨b, gb⟩ : ∃ z, z = h0.size := ⟨_, rfl⟩
  rw [← gb] at A1 D1 st1
  have F1 : Fld Z h1 b "com/example/allotree/allotree/Components" "parent" "[I" .null := D1 (Or.inl (hw _ (List.mem_of_getElem? (i := 11) rfl))) (ty := (.array .int)) (by decide)
  have G1 : Fld Z h1 b "com/example/allotree/allotree/Components" "vertexCount" "I" (.int 0) := D1 (Or.inl (hw _ (List.mem_of_getElem? (i := 18) rfl))) (ty := .int) (by decide)
  have g_b : n0 ≤ b := Nat.le_trans Z0 (Nat.le_of_eq gb.symm)
  obtain ⟨_, _, ⟨T2, L2, k2, n2⟩, -, X2, ⟨Lc2, hQ2, l2, y2, z2⟩, st2⟩ := X1.specialBack hx (y := (⟨"com/example/allotree/allotree/Components", "<init>", "()V"⟩ : MethodName)) rfl hown (mvT hZ (hw _ (List.mem_of_getElem? (i := 3) rfl))) (mvT hZ (hw _ (List.mem_of_getElem? (i := 4) rfl))) (mvT hZ (hw _ (List.mem_of_getElem? (i := 5) rfl))) (by decide) (backOf (W := 1) (rm1 l Z a0 hw [] b h1 n0 (Nat.le_trans Z0 E1.1) A1 F1 G1 g_b) hZ (hw _ (List.mem_of_getElem? (i := 5) rfl)) (hw _ (List.mem_of_getElem? (i := 2) rfl)) (by decide) (by decide)) (g := (mkF m 4 #[.val (.int p1), .val (.int p2), .val (.int p3), .val (.int p4), .val (.int p5), .val (.int p6), .unset, .unset, .unset, .unset, .unset, .unset, .unset, .unset, .unset, .unset, .unset, .unset] [(.ref b), (.ref b)])) rfl (by rw [hml]; rfl) (Steps.refl _) (a := b) (argsL := []) (rest := [(.ref b)]) (lenOf pd_v rfl) rfl (by show 2 * 0 + _ ≤ _; exact Nat.le_of_eq rfl) (hb hby at_4) (fun _ _ => ⟨rfl, e1, (by decide : 1 + 1 ≤ _), (by decide : 2 + 16 ≤ _)⟩)
  dsimp only [Pt.U, Pt.locs, Pt.cells, Pt.slots] at X2 l2 y2 z2 st2 hQ2
  subst l2 y2 z2
  obtain ⟨rfl, N2q, Z2, pa, C2, G2⟩ := hQ2
  have N2 := Fr.app N0 N2q
  obtain ⟨cq3, kq3, q3a, q3b, q3c⟩ := isOf hZ rfl C2.1
  obtain ⟨_, _, ⟨T3, L3, k3, n3⟩, -, X3, ⟨Lc3, hQ3, l3, y3, z3⟩, st3⟩ := X2.virtualBack hx (y := (⟨"com/example/allotree/allotree/Components", "addVertices", "(I)V"⟩ : MethodName)) (z := (⟨"com/example/allotree/allotree/Components", "addVertices", "(I)V"⟩ : MethodName)) hown (mvT hZ (hw _ (List.mem_of_getElem? (i := 12) rfl))) (mvT hZ (hw _ (List.mem_of_getElem? (i := 13) rfl))) (notFace_of_selects (args := #[]) (mvT hZ (hw _ (List.mem_of_getElem? (i := 15) rfl)))) (mvT hZ (hw _ (List.mem_of_getElem? (i := 15) rfl))) (mvT hZ (hw _ (List.mem_of_getElem? (i := 14) rfl))) (by decide) (backOf (W := 0) (rm3 l Z a0 hw [] b pa T2.heap n0 Z2 C2 G2 g_b) hZ (hw _ (List.mem_of_getElem? (i := 16) rfl)) (hw _ (List.mem_of_getElem? (i := 2) rfl)) (by decide) (by decide)) q3a q3c (g := (mkF m 12 #[.val (.int p1), .val (.int p2), .val (.int p3), .val (.int p4), .val (.int p5), .val (.int p6), .val (.ref b), .unset, .unset, .unset, .unset, .unset, .unset, .unset, .unset, .unset, .unset, .unset] [(.int (4 : Int32)), (.ref b)])) rfl (by rw [hml]; rfl) (Steps.refl _) (argsL := [(.int (4 : Int32))]) (rest := []) (lenOf pd_add rfl) rfl (by show 2 * 0 + _ ≤ _; exact Nat.le_of_eq rfl) (hb hby at_12) (fun _ _ => ⟨rfl, rfl, (by decide : 2 + 0 ≤ _), (by decide : 18 + 0 ≤ _)⟩)
  dsimp only [Pt.U, Pt.locs, Pt.cells, Pt.slots] at X3 l3 y3 z3 st3 hQ3
  subst l3 y3 z3
  obtain ⟨rfl, N3q, Z3, C3⟩ := hQ3
  have N3 := Fr.app N2 N3q
  obtain ⟨T4, h4, k4, X4, e4, E4, A4, st4⟩ := newP X3 hx hZ (hw _ (List.mem_of_getElem? (i := 9) rfl)) rfl (g := (mkF m 16 #[.val (.int p1), .val (.int p2), .val (.int p3), .val (.int p4), .val (.int p5), .val (.int p6), .val (.ref b), .unset, .unset, .unset, .unset, .unset, .unset, .unset, .unset, .unset, .unset, .unset] [(.int (4 : Int32))])) rfl (hb hby at_16) rfl (by decide) (cap := 4) (by decide) (by decide) (by decide) (by decide)
  obtain ⟨la, gla⟩ : ∃ z, z = T3.heap.size := ⟨_, rfl⟩
  rw [← gla] at A4 st4
  have g_la : n0 ≤ la := Nat.le_trans Z3 (Nat.le_of_eq gla.symm)
  have P4 : own_P Z h4 la 4 (fun _ => 0) := own_A.new (ty := .int) A4 rfl
  have Z4 : n0 ≤ h4.size := Nat.le_trans Z3 E4.1
  have ne_bl : b ≠ la := by rw [gla]; exact Nat.ne_of_lt C3.1.lt
  have ne_pl : pa ≠ la := by rw [gla]; exact Nat.ne_of_lt (own_A.lt C3.2.2.1)
  have C4 := C3.ext E4
  have N4 := N3
  obtain ⟨c5, Ar5, S5, H5⟩ := id P4
  obtain ⟨T5, h5, X5, e5, W5, st5⟩ := stI X4 hx hZ e4 Ar5 (j := (0 : Int32)) (own_in (n := 0) S5 (by decide) (by decide)) (g := (mkF m 21 #[.val (.int p1), .val (.int p2), .val (.int p3), .val (.int p4), .val (.int p5), .val (.int p6), .val (.ref b), .unset, .unset, .unset, .unset, .unset, .unset, .unset, .unset, .unset, .unset, .unset] [(.int (0 : Int32)), (.int (0 : Int32)), (.ref la), (.ref la)])) rfl rfl (hb hby at_21)
  have P5 := own_P.store (n := 0) P4 W5 (by decide) (by decide)
  have C5 := C4.wr W5 ne_bl ne_pl
  have N5 := Fr.snoc X5 N4 g_la
  have Z5 : n0 ≤ h5.size := Nat.le_trans Z4 (Keep.of_wr W5).1
  obtain ⟨c6, Ar6, S6, H6⟩ := id P5
  obtain ⟨T6, h6, X6, e6, W6, st6⟩ := stI X5 hx hZ e5 Ar6 (j := (1 : Int32)) (own_in (n := 1) S6 (by decide) (by decide)) (g := (mkF m 25 #[.val (.int p1), .val (.int p2), .val (.int p3), .val (.int p4), .val (.int p5), .val (.int p6), .val (.ref b), .unset, .unset, .unset, .unset, .unset, .unset, .unset, .unset, .unset, .unset, .unset] [(.int (1 : Int32)), (.int (1 : Int32)), (.ref la), (.ref la)])) rfl rfl (hb hby at_25)
  have P6 := own_P.store (n := 1) P5 W6 (by decide) (by decide)
  have C6 := C5.wr W6 ne_bl ne_pl
  have N6 := Fr.snoc X6 N5 g_la
  have Z6 : n0 ≤ h6.size := Nat.le_trans Z5 (Keep.of_wr W6).1
  obtain ⟨c7, Ar7, S7, H7⟩ := id P6
  obtain ⟨T7, h7, X7, e7, W7, st7⟩ := stI X6 hx hZ e6 Ar7 (j := (2 : Int32)) (own_in (n := 2) S7 (by decide) (by decide)) (g := (mkF m 29 #[.val (.int p1), .val (.int p2), .val (.int p3), .val (.int p4), .val (.int p5), .val (.int p6), .val (.ref b), .unset, .unset, .unset, .unset, .unset, .unset, .unset, .unset, .unset, .unset, .unset] [(.int (2 : Int32)), (.int (2 : Int32)), (.ref la), (.ref la)])) rfl rfl (hb hby at_29)
  have P7 := own_P.store (n := 2) P6 W7 (by decide) (by decide)
  have C7 := C6.wr W7 ne_bl ne_pl
  have N7 := Fr.snoc X7 N6 g_la
  have Z7 : n0 ≤ h7.size := Nat.le_trans Z6 (Keep.of_wr W7).1
  obtain ⟨c8, Ar8, S8, H8⟩ := id P7
  obtain ⟨T8, h8, X8, e8, W8, st8⟩ := stI X7 hx hZ e7 Ar8 (j := (3 : Int32)) (own_in (n := 3) S8 (by decide) (by decide)) (g := (mkF m 33 #[.val (.int p1), .val (.int p2), .val (.int p3), .val (.int p4), .val (.int p5), .val (.int p6), .val (.ref b), .unset, .unset, .unset, .unset, .unset, .unset, .unset, .unset, .unset, .unset, .unset] [(.int (3 : Int32)), (.int (3 : Int32)), (.ref la), (.ref la)])) rfl rfl (hb hby at_33)
  have P8 := own_P.store (n := 3) P7 W8 (by decide) (by decide)
  have C8 := C7.wr W8 ne_bl ne_pl
  have N8 := Fr.snoc X8 N7 g_la
  have Z8 : n0 ≤ h8.size := Nat.le_trans Z7 (Keep.of_wr W8).1
  have lab0 : own_P Z h8 la 4 (fun j => Int32.ofNat j) := own_P.congr P8 fun j hj => by
    match j, hj with
    | 0, _ => rfl | 1, _ => rfl | 2, _ => rfl | 3, _ => rfl
  have I8 : own_I 1 (own_fl 4) (fun j => Int32.ofNat j) (fun _ => 0) := own_init
  have Y8 : n0 ≤ T8.heap.size := by rw [e8]; exact Z8
  have C8t : own_C Z T8.heap n0 b pa (own_fl 4) := by rw [e8]; exact C8
  have A8t : own_P Z T8.heap la 4 (fun j => Int32.ofNat j) := by rw [e8]; exact lab0
  obtain ⟨T10, L10, p10, d10, X10, N10, Z10, K10, C10, I10, st10⟩ := own_cJoin (x := na) (y := nb) (Ls := #[.val (.int p1), .val (.int p2), .val (.int p3), .val (.int p4), .val (.int p5), .val (.int p6), .val (.ref b), .val (.ref la), .val (.int (Int32.ofNat na)), .val (.int (Int32.ofNat nb)), .val (.int (Int32.ofNat nc)), .val (.int (Int32.ofNat nd)), .val (.int (Int32.ofNat ne)), .val (.int (Int32.ofNat nf)), .unset, .unset, .unset, .unset]) X8 hx hZ hw hby hown hml (by decide) (by decide) N8 Y8 rfl hna hnb (by decide) (by decide) C8t I8 (hb hby at_74)
  have A10 := own_A.keep A8t K10 (own_ni (fun z => ne_pl z.symm))
  obtain ⟨T11, L11, X11, N11, Z11, K11, A11, st11⟩ := own_cMerge (x := na) (y := nb) (Ls := #[.val (.int p1), .val (.int p2), .val (.int p3), .val (.int p4), .val (.int p5), .val (.int p6), .val (.ref b), .val (.ref la), .val (.int (Int32.ofNat na)), .val (.int (Int32.ofNat nb)), .val (.int (Int32.ofNat nc)), .val (.int (Int32.ofNat nd)), .val (.int (Int32.ofNat ne)), .val (.int (Int32.ofNat nf)), .unset, .unset, .unset, .unset]) X10 hx hZ hw hby hown hml (by decide) (by decide) N10 Z10 rfl hna hnb A10 g_la (hb hby at_83)
  have C11 := C10.keep K11 (own_ni ne_bl) (own_ni ne_pl)
  have I11 := I10
  obtain ⟨T12, L12, p12, d12, X12, N12, Z12, K12, C12, I12, st12⟩ := own_cJoin (x := nc) (y := nd) (Ls := #[.val (.int p1), .val (.int p2), .val (.int p3), .val (.int p4), .val (.int p5), .val (.int p6), .val (.ref b), .val (.ref la), .val (.int (Int32.ofNat na)), .val (.int (Int32.ofNat nb)), .val (.int (Int32.ofNat nc)), .val (.int (Int32.ofNat nd)), .val (.int (Int32.ofNat ne)), .val (.int (Int32.ofNat nf)), .unset, .unset, .unset, .unset]) X11 hx hZ hw hby hown hml (by decide) (by decide) N11 Z11 rfl hnc hnd (by decide) (by decide) C11 I11 (hb hby at_92)
  have A12 := own_A.keep A11 K12 (own_ni (fun z => ne_pl z.symm))
  obtain ⟨T13, L13, X13, N13, Z13, K13, A13, st13⟩ := own_cMerge (x := nc) (y := nd) (Ls := #[.val (.int p1), .val (.int p2), .val (.int p3), .val (.int p4), .val (.int p5), .val (.int p6), .val (.ref b), .val (.ref la), .val (.int (Int32.ofNat na)), .val (.int (Int32.ofNat nb)), .val (.int (Int32.ofNat nc)), .val (.int (Int32.ofNat nd)), .val (.int (Int32.ofNat ne)), .val (.int (Int32.ofNat nf)), .unset, .unset, .unset, .unset]) X12 hx hZ hw hby hown hml (by decide) (by decide) N12 Z12 rfl hnc hnd A12 g_la (hb hby at_101)
  have C13 := C12.keep K13 (own_ni ne_bl) (own_ni ne_pl)
  have I13 := I12
  obtain ⟨T14, L14, p14, d14, X14, N14, Z14, K14, C14, I14, st14⟩ := own_cJoin (x := ne) (y := nf) (Ls := #[.val (.int p1), .val (.int p2), .val (.int p3), .val (.int p4), .val (.int p5), .val (.int p6), .val (.ref b), .val (.ref la), .val (.int (Int32.ofNat na)), .val (.int (Int32.ofNat nb)), .val (.int (Int32.ofNat nc)), .val (.int (Int32.ofNat nd)), .val (.int (Int32.ofNat ne)), .val (.int (Int32.ofNat nf)), .unset, .unset, .unset, .unset]) X13 hx hZ hw hby hown hml (by decide) (by decide) N13 Z13 rfl hne hnf (by decide) (by decide) C13 I13 (hb hby at_110)
  have A14 := own_A.keep A13 K14 (own_ni (fun z => ne_pl z.symm))
  obtain ⟨T15, L15, X15, N15, Z15, K15, A15, st15⟩ := own_cMerge (x := ne) (y := nf) (Ls := #[.val (.int p1), .val (.int p2), .val (.int p3), .val (.int p4), .val (.int p5), .val (.int p6), .val (.ref b), .val (.ref la), .val (.int (Int32.ofNat na)), .val (.int (Int32.ofNat nb)), .val (.int (Int32.ofNat nc)), .val (.int (Int32.ofNat nd)), .val (.int (Int32.ofNat ne)), .val (.int (Int32.ofNat nf)), .unset, .unset, .unset, .unset]) X14 hx hZ hw hby hown hml (by decide) (by decide) N14 Z14 rfl hne hnf A14 g_la (hb hby at_119)
  have C15 := C14.keep K15 (own_ni ne_bl) (own_ni ne_pl)
  have I15 := I14
  obtain ⟨lab, hlab⟩ : ∃ z, own_merge (own_merge (own_merge (fun j => Int32.ofNat j) na nb) nc nd) ne nf = z := ⟨_, rfl⟩
  rw [hlab] at A15 I15
  obtain ⟨T16, h16, k16, X16, e16, E16, A16, st16⟩ := newP X15 hx hZ (hw _ (List.mem_of_getElem? (i := 9) rfl)) rfl (g := (mkF m 123 #[.val (.int p1), .val (.int p2), .val (.int p3), .val (.int p4), .val (.int p5), .val (.int p6), .val (.ref b), .val (.ref la), .val (.int (Int32.ofNat na)), .val (.int (Int32.ofNat nb)), .val (.int (Int32.ofNat nc)), .val (.int (Int32.ofNat nd)), .val (.int (Int32.ofNat ne)), .val (.int (Int32.ofNat nf)), .unset, .unset, .unset, .unset] [(.int (4 : Int32))])) rfl (hb hby at_123) rfl (by decide) (cap := 4) (by decide) (by decide) (by decide) (by decide)
  obtain ⟨ra, gra⟩ : ∃ z, z = T15.heap.size := ⟨_, rfl⟩
  rw [← gra] at A16 st16
  have g_ra : n0 ≤ ra := Nat.le_trans Z15 (Nat.le_of_eq gra.symm)
  have P16 : own_P Z h16 ra 4 (fun _ => 0) := own_A.new (ty := .int) A16 rfl
  have Z16 : n0 ≤ h16.size := Nat.le_trans Z15 E16.1
  have ne_br : b ≠ ra := by rw [gra]; exact Nat.ne_of_lt C15.1.lt
  have ne_pr : pa ≠ ra := by rw [gra]; exact Nat.ne_of_lt (own_A.lt C15.2.2.1)
  have ne_lr : la ≠ ra := by rw [gra]; exact Nat.ne_of_lt (own_A.lt A15)
  have C16 : own_C Z T16.heap n0 b pa p14 := by rw [e16]; exact C15.ext E16
  have A_16 : own_P Z T16.heap la 4 lab := by rw [e16]; exact own_A.ext A15 E16
  have R16 : own_P Z T16.heap ra 4 (fun _ => 0) := by rw [e16]; exact P16
  have Y16 : n0 ≤ T16.heap.size := by rw [e16]; exact Z16
  obtain ⟨T17, L17, p17, r0, X17, N17, Z17, K17, C17, I17, S17, ra0, rb0, rc0, st17⟩ := own_cFind2 (x := 0) (ik := (0 : Int32)) (ra := ra) (Ls := #[.val (.int p1), .val (.int p2), .val (.int p3), .val (.int p4), .val (.int p5), .val (.int p6), .val (.ref b), .val (.ref la), .val (.int (Int32.ofNat na)), .val (.int (Int32.ofNat nb)), .val (.int (Int32.ofNat nc)), .val (.int (Int32.ofNat nd)), .val (.int (Int32.ofNat ne)), .val (.int (Int32.ofNat nf)), .val (.ref ra), .unset, .unset, .unset]) X16 hx hZ hw hby hown hml (by decide) (by decide) N15 Y16 rfl (by decide) (by decide) C16 I15 (hb hby at_133)
  have A_17 := own_A.keep A_16 K17 (own_ni (fun z => ne_pl z.symm))
  have R17 := own_A.keep R16 K17 (own_ni (fun z => ne_pr z.symm))
  obtain ⟨q17, Aq17, Sq17, Hq17⟩ := id R17
  obtain ⟨T18, h18, X18, e18, W18, st18⟩ := stI X17 hx hZ rfl Aq17 (j := (0 : Int32)) (own_in (n := 0) Sq17 (by decide) (by decide)) (g := (mkF m 136 #[.val (.int p1), .val (.int p2), .val (.int p3), .val (.int p4), .val (.int p5), .val (.int p6), .val (.ref b), .val (.ref la), .val (.int (Int32.ofNat na)), .val (.int (Int32.ofNat nb)), .val (.int (Int32.ofNat nc)), .val (.int (Int32.ofNat nd)), .val (.int (Int32.ofNat ne)), .val (.int (Int32.ofNat nf)), .val (.ref ra), .unset, .unset, .unset] [(.int (Int32.ofNat r0)), (.int (0 : Int32)), (.ref ra)])) rfl rfl (hb hby at_136)
  have R18 : own_P Z T18.heap ra 4 (own_seti (fun _ => 0) 0 (Int32.ofNat r0)) := by rw [e18]; exact own_P.store (n := 0) R17 W18 (by decide) (by decide)
  have C18 : own_C Z T18.heap n0 b pa p17 := by rw [e18]; exact C17.wr W18 ne_br ne_pr
  have A_18 : own_P Z T18.heap la 4 lab := by rw [e18]; exact own_A.other A_17 W18 ne_lr
  have N18 := Fr.snoc X18 N17 g_ra
  have Z18 : n0 ≤ T18.heap.size := by rw [e18]; exact Nat.le_trans Z17 (Keep.of_wr W18).1
  have I18 := I17
  obtain ⟨T19, L19, p19, r1, X19, N19, Z19, K19, C19, I19, S19, ra1, rb1, rc1, st19⟩ := own_cFind2 (x := 1) (ik := (1 : Int32)) (ra := ra) (Ls := #[.val (.int p1), .val (.int p2), .val (.int p3), .val (.int p4), .val (.int p5), .val (.int p6), .val (.ref b), .val (.ref la), .val (.int (Int32.ofNat na)), .val (.int (Int32.ofNat nb)), .val (.int (Int32.ofNat nc)), .val (.int (Int32.ofNat nd)), .val (.int (Int32.ofNat ne)), .val (.int (Int32.ofNat nf)), .val (.ref ra), .unset, .unset, .unset]) X18 hx hZ hw hby hown hml (by decide) (by decide) N18 Z18 rfl (by decide) (by decide) C18 I18 (hb hby at_143)
  have A_19 := own_A.keep A_18 K19 (own_ni (fun z => ne_pl z.symm))
  have R19 := own_A.keep R18 K19 (own_ni (fun z => ne_pr z.symm))
  obtain ⟨q19, Aq19, Sq19, Hq19⟩ := id R19
  obtain ⟨T20, h20, X20, e20, W20, st20⟩ := stI X19 hx hZ rfl Aq19 (j := (1 : Int32)) (own_in (n := 1) Sq19 (by decide) (by decide)) (g := (mkF m 146 #[.val (.int p1), .val (.int p2), .val (.int p3), .val (.int p4), .val (.int p5), .val (.int p6), .val (.ref b), .val (.ref la), .val (.int (Int32.ofNat na)), .val (.int (Int32.ofNat nb)), .val (.int (Int32.ofNat nc)), .val (.int (Int32.ofNat nd)), .val (.int (Int32.ofNat ne)), .val (.int (Int32.ofNat nf)), .val (.ref ra), .unset, .unset, .unset] [(.int (Int32.ofNat r1)), (.int (1 : Int32)), (.ref ra)])) rfl rfl (hb hby at_146)
  have R20 : own_P Z T20.heap ra 4 (own_seti (own_seti (fun _ => 0) 0 (Int32.ofNat r0)) 1 (Int32.ofNat r1)) := by rw [e20]; exact own_P.store (n := 1) R19 W20 (by decide) (by decide)
  have C20 : own_C Z T20.heap n0 b pa p19 := by rw [e20]; exact C19.wr W20 ne_br ne_pr
  have A_20 : own_P Z T20.heap la 4 lab := by rw [e20]; exact own_A.other A_19 W20 ne_lr
  have N20 := Fr.snoc X20 N19 g_ra
  have Z20 : n0 ≤ T20.heap.size := by rw [e20]; exact Nat.le_trans Z19 (Keep.of_wr W20).1
  have I20 := I19
  have rb0 := own_roots S19 ra0 rb0
  obtain ⟨T21, L21, p21, r2, X21, N21, Z21, K21, C21, I21, S21, ra2, rb2, rc2, st21⟩ := own_cFind2 (x := 2) (ik := (2 : Int32)) (ra := ra) (Ls := #[.val (.int p1), .val (.int p2), .val (.int p3), .val (.int p4), .val (.int p5), .val (.int p6), .val (.ref b), .val (.ref la), .val (.int (Int32.ofNat na)), .val (.int (Int32.ofNat nb)), .val (.int (Int32.ofNat nc)), .val (.int (Int32.ofNat nd)), .val (.int (Int32.ofNat ne)), .val (.int (Int32.ofNat nf)), .val (.ref ra), .unset, .unset, .unset]) X20 hx hZ hw hby hown hml (by decide) (by decide) N20 Z20 rfl (by decide) (by decide) C20 I20 (hb hby at_153)
  have A_21 := own_A.keep A_20 K21 (own_ni (fun z => ne_pl z.symm))
  have R21 := own_A.keep R20 K21 (own_ni (fun z => ne_pr z.symm))
  obtain ⟨q21, Aq21, Sq21, Hq21⟩ := id R21
  obtain ⟨T22, h22, X22, e22, W22, st22⟩ := stI X21 hx hZ rfl Aq21 (j := (2 : Int32)) (own_in (n := 2) Sq21 (by decide) (by decide)) (g := (mkF m 156 #[.val (.int p1), .val (.int p2), .val (.int p3), .val (.int p4), .val (.int p5), .val (.int p6), .val (.ref b), .val (.ref la), .val (.int (Int32.ofNat na)), .val (.int (Int32.ofNat nb)), .val (.int (Int32.ofNat nc)), .val (.int (Int32.ofNat nd)), .val (.int (Int32.ofNat ne)), .val (.int (Int32.ofNat nf)), .val (.ref ra), .unset, .unset, .unset] [(.int (Int32.ofNat r2)), (.int (2 : Int32)), (.ref ra)])) rfl rfl (hb hby at_156)
  have R22 : own_P Z T22.heap ra 4 (own_seti (own_seti (own_seti (fun _ => 0) 0 (Int32.ofNat r0)) 1 (Int32.ofNat r1)) 2 (Int32.ofNat r2)) := by rw [e22]; exact own_P.store (n := 2) R21 W22 (by decide) (by decide)
  have C22 : own_C Z T22.heap n0 b pa p21 := by rw [e22]; exact C21.wr W22 ne_br ne_pr
  have A_22 : own_P Z T22.heap la 4 lab := by rw [e22]; exact own_A.other A_21 W22 ne_lr
  have N22 := Fr.snoc X22 N21 g_ra
  have Z22 : n0 ≤ T22.heap.size := by rw [e22]; exact Nat.le_trans Z21 (Keep.of_wr W22).1
  have I22 := I21
  have rb0 := own_roots S21 ra0 rb0
  have rb1 := own_roots S21 ra1 rb1
  obtain ⟨T23, L23, p23, r3, X23, N23, Z23, K23, C23, I23, S23, ra3, rb3, rc3, st23⟩ := own_cFind2 (x := 3) (ik := (3 : Int32)) (ra := ra) (Ls := #[.val (.int p1), .val (.int p2), .val (.int p3), .val (.int p4), .val (.int p5), .val (.int p6), .val (.ref b), .val (.ref la), .val (.int (Int32.ofNat na)), .val (.int (Int32.ofNat nb)), .val (.int (Int32.ofNat nc)), .val (.int (Int32.ofNat nd)), .val (.int (Int32.ofNat ne)), .val (.int (Int32.ofNat nf)), .val (.ref ra), .unset, .unset, .unset]) X22 hx hZ hw hby hown hml (by decide) (by decide) N22 Z22 rfl (by decide) (by decide) C22 I22 (hb hby at_163)
  have A_23 := own_A.keep A_22 K23 (own_ni (fun z => ne_pl z.symm))
  have R23 := own_A.keep R22 K23 (own_ni (fun z => ne_pr z.symm))
  obtain ⟨q23, Aq23, Sq23, Hq23⟩ := id R23
  obtain ⟨T24, h24, X24, e24, W24, st24⟩ := stI X23 hx hZ rfl Aq23 (j := (3 : Int32)) (own_in (n := 3) Sq23 (by decide) (by decide)) (g := (mkF m 166 #[.val (.int p1), .val (.int p2), .val (.int p3), .val (.int p4), .val (.int p5), .val (.int p6), .val (.ref b), .val (.ref la), .val (.int (Int32.ofNat na)), .val (.int (Int32.ofNat nb)), .val (.int (Int32.ofNat nc)), .val (.int (Int32.ofNat nd)), .val (.int (Int32.ofNat ne)), .val (.int (Int32.ofNat nf)), .val (.ref ra), .unset, .unset, .unset] [(.int (Int32.ofNat r3)), (.int (3 : Int32)), (.ref ra)])) rfl rfl (hb hby at_166)
  have R24 : own_P Z T24.heap ra 4 (own_seti (own_seti (own_seti (own_seti (fun _ => 0) 0 (Int32.ofNat r0)) 1 (Int32.ofNat r1)) 2 (Int32.ofNat r2)) 3 (Int32.ofNat r3)) := by rw [e24]; exact own_P.store (n := 3) R23 W24 (by decide) (by decide)
  have C24 : own_C Z T24.heap n0 b pa p23 := by rw [e24]; exact C23.wr W24 ne_br ne_pr
  have A_24 : own_P Z T24.heap la 4 lab := by rw [e24]; exact own_A.other A_23 W24 ne_lr
  have N24 := Fr.snoc X24 N23 g_ra
  have Z24 : n0 ≤ T24.heap.size := by rw [e24]; exact Nat.le_trans Z23 (Keep.of_wr W24).1
  have I24 := I23
  have rb0 := own_roots S23 ra0 rb0
  have rb1 := own_roots S23 ra1 rb1
  have rb2 := own_roots S23 ra2 rb2
  obtain ⟨rf, hrf⟩ : ∃ z, (own_seti (own_seti (own_seti (own_seti (fun _ => 0) 0 (Int32.ofNat r0)) 1 (Int32.ofNat r1)) 2 (Int32.ofNat r2)) 3 (Int32.ofNat r3)) = z := ⟨_, rfl⟩
  have f0 : rf 0 = Int32.ofNat r0 := by rw [← hrf]; rfl
  have f1 : rf 1 = Int32.ofNat r1 := by rw [← hrf]; rfl
  have f2 : rf 2 = Int32.ofNat r2 := by rw [← hrf]; rfl
  have f3 : rf 3 = Int32.ofNat r3 := by rw [← hrf]; rfl
  rw [hrf] at R24
  obtain ⟨T25, L25, X25, N25, Z25, q25, st25⟩ := own_cIn (i := 0) (u := r0) (Ls := #[.val (.int p1), .val (.int p2), .val (.int p3), .val (.int p4), .val (.int p5), .val (.int p6), .val (.ref b), .val (.ref la), .val (.int (Int32.ofNat na)), .val (.int (Int32.ofNat nb)), .val (.int (Int32.ofNat nc)), .val (.int (Int32.ofNat nd)), .val (.int (Int32.ofNat ne)), .val (.int (Int32.ofNat nf)), .val (.ref ra), .unset, .unset, .unset]) X24 hx hZ hw hby hown hml (by decide) (by decide) N24 Z24 rfl (by decide) ra0 A_24 R24 f0 rc0 (hb hby at_172)
  have C25 : own_C Z T25.heap n0 b pa p23 := by rw [q25]; exact C24
  have A_25 : own_P Z T25.heap la 4 lab := by rw [q25]; exact A_24
  have R25 : own_P Z T25.heap ra 4 rf := by rw [q25]; exact R24
  obtain ⟨T26, L26, X26, N26, Z26, q26, st26⟩ := own_cIn (i := 1) (u := r1) (Ls := #[.val (.int p1), .val (.int p2), .val (.int p3), .val (.int p4), .val (.int p5), .val (.int p6), .val (.ref b), .val (.ref la), .val (.int (Int32.ofNat na)), .val (.int (Int32.ofNat nb)), .val (.int (Int32.ofNat nc)), .val (.int (Int32.ofNat nd)), .val (.int (Int32.ofNat ne)), .val (.int (Int32.ofNat nf)), .val (.ref ra), .unset, .unset, .unset]) X25 hx hZ hw hby hown hml (by decide) (by decide) N25 Z25 rfl (by decide) ra1 A_25 R25 f1 rc1 (hb hby at_183)
  have C26 : own_C Z T26.heap n0 b pa p23 := by rw [q26]; exact C25
  have A_26 : own_P Z T26.heap la 4 lab := by rw [q26]; exact A_25
  have R26 : own_P Z T26.heap ra 4 rf := by rw [q26]; exact R25
  obtain ⟨T27, L27, X27, N27, Z27, q27, st27⟩ := own_cIn (i := 2) (u := r2) (Ls := #[.val (.int p1), .val (.int p2), .val (.int p3), .val (.int p4), .val (.int p5), .val (.int p6), .val (.ref b), .val (.ref la), .val (.int (Int32.ofNat na)), .val (.int (Int32.ofNat nb)), .val (.int (Int32.ofNat nc)), .val (.int (Int32.ofNat nd)), .val (.int (Int32.ofNat ne)), .val (.int (Int32.ofNat nf)), .val (.ref ra), .unset, .unset, .unset]) X26 hx hZ hw hby hown hml (by decide) (by decide) N26 Z26 rfl (by decide) ra2 A_26 R26 f2 rc2 (hb hby at_194)
  have C27 : own_C Z T27.heap n0 b pa p23 := by rw [q27]; exact C26
  have A_27 : own_P Z T27.heap la 4 lab := by rw [q27]; exact A_26
  have R27 : own_P Z T27.heap ra 4 rf := by rw [q27]; exact R26
  obtain ⟨T28, L28, X28, N28, Z28, q28, st28⟩ := own_cIn (i := 3) (u := r3) (Ls := #[.val (.int p1), .val (.int p2), .val (.int p3), .val (.int p4), .val (.int p5), .val (.int p6), .val (.ref b), .val (.ref la), .val (.int (Int32.ofNat na)), .val (.int (Int32.ofNat nb)), .val (.int (Int32.ofNat nc)), .val (.int (Int32.ofNat nd)), .val (.int (Int32.ofNat ne)), .val (.int (Int32.ofNat nf)), .val (.ref ra), .unset, .unset, .unset]) X27 hx hZ hw hby hown hml (by decide) (by decide) N27 Z27 rfl (by decide) ra3 A_27 R27 f3 rc3 (hb hby at_205)
  have C28 : own_C Z T28.heap n0 b pa p23 := by rw [q28]; exact C27
  have A_28 : own_P Z T28.heap la 4 lab := by rw [q28]; exact A_27
  have R28 : own_P Z T28.heap ra 4 rf := by rw [q28]; exact R27
  obtain ⟨T29, L29, X29, N29, Z29, q29, st29⟩ := own_cPair (i := 0) (j := 1) (Ls := #[.val (.int p1), .val (.int p2), .val (.int p3), .val (.int p4), .val (.int p5), .val (.int p6), .val (.ref b), .val (.ref la), .val (.int (Int32.ofNat na)), .val (.int (Int32.ofNat nb)), .val (.int (Int32.ofNat nc)), .val (.int (Int32.ofNat nd)), .val (.int (Int32.ofNat ne)), .val (.int (Int32.ofNat nf)), .val (.ref ra), .unset, .unset, .unset]) X28 hx hZ hw hby hown hml (by decide) (by decide) N28 Z28 rfl (by decide) (by decide) A_28 R28 (by rw [f0, f1]; exact own_pairs I24 ra0 ra1 rb0 rb1 rc0 rc1) (hb hby at_219)
  have C29 : own_C Z T29.heap n0 b pa p23 := by rw [q29]; exact C28
  have A_29 : own_P Z T29.heap la 4 lab := by rw [q29]; exact A_28
  have R29 : own_P Z T29.heap ra 4 rf := by rw [q29]; exact R28
  obtain ⟨T30, L30, X30, N30, Z30, q30, st30⟩ := own_cPair (i := 0) (j := 2) (Ls := #[.val (.int p1), .val (.int p2), .val (.int p3), .val (.int p4), .val (.int p5), .val (.int p6), .val (.ref b), .val (.ref la), .val (.int (Int32.ofNat na)), .val (.int (Int32.ofNat nb)), .val (.int (Int32.ofNat nc)), .val (.int (Int32.ofNat nd)), .val (.int (Int32.ofNat ne)), .val (.int (Int32.ofNat nf)), .val (.ref ra), .unset, .unset, .unset]) X29 hx hZ hw hby hown hml (by decide) (by decide) N29 Z29 rfl (by decide) (by decide) A_29 R29 (by rw [f0, f2]; exact own_pairs I24 ra0 ra2 rb0 rb2 rc0 rc2) (hb hby at_231)
  have C30 : own_C Z T30.heap n0 b pa p23 := by rw [q30]; exact C29
  have A_30 : own_P Z T30.heap la 4 lab := by rw [q30]; exact A_29
  have R30 : own_P Z T30.heap ra 4 rf := by rw [q30]; exact R29
  obtain ⟨T31, L31, X31, N31, Z31, q31, st31⟩ := own_cPair (i := 0) (j := 3) (Ls := #[.val (.int p1), .val (.int p2), .val (.int p3), .val (.int p4), .val (.int p5), .val (.int p6), .val (.ref b), .val (.ref la), .val (.int (Int32.ofNat na)), .val (.int (Int32.ofNat nb)), .val (.int (Int32.ofNat nc)), .val (.int (Int32.ofNat nd)), .val (.int (Int32.ofNat ne)), .val (.int (Int32.ofNat nf)), .val (.ref ra), .unset, .unset, .unset]) X30 hx hZ hw hby hown hml (by decide) (by decide) N30 Z30 rfl (by decide) (by decide) A_30 R30 (by rw [f0, f3]; exact own_pairs I24 ra0 ra3 rb0 rb3 rc0 rc3) (hb hby at_243)
  have C31 : own_C Z T31.heap n0 b pa p23 := by rw [q31]; exact C30
  have A_31 : own_P Z T31.heap la 4 lab := by rw [q31]; exact A_30
  have R31 : own_P Z T31.heap ra 4 rf := by rw [q31]; exact R30
  obtain ⟨T32, L32, X32, N32, Z32, q32, st32⟩ := own_cPair (i := 1) (j := 2) (Ls := #[.val (.int p1), .val (.int p2), .val (.int p3), .val (.int p4), .val (.int p5), .val (.int p6), .val (.ref b), .val (.ref la), .val (.int (Int32.ofNat na)), .val (.int (Int32.ofNat nb)), .val (.int (Int32.ofNat nc)), .val (.int (Int32.ofNat nd)), .val (.int (Int32.ofNat ne)), .val (.int (Int32.ofNat nf)), .val (.ref ra), .unset, .unset, .unset]) X31 hx hZ hw hby hown hml (by decide) (by decide) N31 Z31 rfl (by decide) (by decide) A_31 R31 (by rw [f1, f2]; exact own_pairs I24 ra1 ra2 rb1 rb2 rc1 rc2) (hb hby at_255)
  have C32 : own_C Z T32.heap n0 b pa p23 := by rw [q32]; exact C31
  have A_32 : own_P Z T32.heap la 4 lab := by rw [q32]; exact A_31
  have R32 : own_P Z T32.heap ra 4 rf := by rw [q32]; exact R31
  obtain ⟨T33, L33, X33, N33, Z33, q33, st33⟩ := own_cPair (i := 1) (j := 3) (Ls := #[.val (.int p1), .val (.int p2), .val (.int p3), .val (.int p4), .val (.int p5), .val (.int p6), .val (.ref b), .val (.ref la), .val (.int (Int32.ofNat na)), .val (.int (Int32.ofNat nb)), .val (.int (Int32.ofNat nc)), .val (.int (Int32.ofNat nd)), .val (.int (Int32.ofNat ne)), .val (.int (Int32.ofNat nf)), .val (.ref ra), .unset, .unset, .unset]) X32 hx hZ hw hby hown hml (by decide) (by decide) N32 Z32 rfl (by decide) (by decide) A_32 R32 (by rw [f1, f3]; exact own_pairs I24 ra1 ra3 rb1 rb3 rc1 rc3) (hb hby at_267)
  have C33 : own_C Z T33.heap n0 b pa p23 := by rw [q33]; exact C32
  have A_33 : own_P Z T33.heap la 4 lab := by rw [q33]; exact A_32
  have R33 : own_P Z T33.heap ra 4 rf := by rw [q33]; exact R32
  obtain ⟨T34, L34, X34, N34, Z34, q34, st34⟩ := own_cPair (i := 2) (j := 3) (Ls := #[.val (.int p1), .val (.int p2), .val (.int p3), .val (.int p4), .val (.int p5), .val (.int p6), .val (.ref b), .val (.ref la), .val (.int (Int32.ofNat na)), .val (.int (Int32.ofNat nb)), .val (.int (Int32.ofNat nc)), .val (.int (Int32.ofNat nd)), .val (.int (Int32.ofNat ne)), .val (.int (Int32.ofNat nf)), .val (.ref ra), .unset, .unset, .unset]) X33 hx hZ hw hby hown hml (by decide) (by decide) N33 Z33 rfl (by decide) (by decide) A_33 R33 (by rw [f2, f3]; exact own_pairs I24 ra2 ra3 rb2 rb3 rc2 rc3) (hb hby at_279)
  have C34 : own_C Z T34.heap n0 b pa p23 := by rw [q34]; exact C33
  have A_34 : own_P Z T34.heap la 4 lab := by rw [q34]; exact A_33
  have R34 : own_P Z T34.heap ra 4 rf := by rw [q34]; exact R33
  obtain ⟨nx, hnx, enx⟩ : ∃ n : Nat, n < 4 ∧ (((p1.toUInt32 >>> ((2 : Int32) &&& 31).toUInt32).toInt32) &&& (3 : Int32)) = Int32.ofNat n := own_and3 _
  obtain ⟨rx, hrx, rxa, rxb⟩ : ∃ rx, rf nx = Int32.ofNat rx ∧ rx < 4 ∧ (p23 rx).toInt < 0 := by
    match nx, hnx with
    | 0, _ => exact ⟨r0, f0, ra0, rb0⟩
    | 1, _ => exact ⟨r1, f1, ra1, rb1⟩
    | 2, _ => exact ⟨r2, f2, ra2, rb2⟩
    | 3, _ => exact ⟨r3, f3, ra3, rb3⟩
  obtain ⟨c90, Ar90, S90, H90⟩ := id R34
  obtain ⟨T35, L35, p35, ry, X35, N35, Z35, K35, C35, I35, S35, rya, ryb, ryc, st35⟩ := own_cFind (x := rx) (Ls := #[.val (.int p1), .val (.int p2), .val (.int p3), .val (.int p4), .val (.int p5), .val (.int p6), .val (.ref b), .val (.ref la), .val (.int (Int32.ofNat na)), .val (.int (Int32.ofNat nb)), .val (.int (Int32.ofNat nc)), .val (.int (Int32.ofNat nd)), .val (.int (Int32.ofNat ne)), .val (.int (Int32.ofNat nf)), .val (.ref ra), .val (.int (1 : Int32)), .val (.int (Int32.ofNat nx)), .unset]) X34 hx hZ hw hby hown hml (by decide) (by decide) N34 Z34 rfl rxa (by decide) C34 I24 (hb hby at_306)
  have R35 := own_A.keep R34 K35 (own_ni (fun z => ne_pr z.symm))
  obtain ⟨c91, Ar91, S91, H91⟩ := id R35
  have hxy : Int32.ofNat ry = Int32.ofNat rx := by rw [I35.2.2 ry rx rya rxa ryb (own_roots S35 rxa rxb) ryc]
  obtain ⟨fs, hr, hrun, hended, hW, hsame⟩ := X35.leave (v := some (.int (1 : Int32))) (fun h => by rw [Bd.returns] at h; cases h)
  refine ⟨_, _, pre0 _ ?_, hrun, hended, _, _, rfl, ?_, ⟨_, rfl⟩, hW, hsame.mono (by decide) (by decide)⟩
  · show Steps p.tables e below (s₁.setTop (mkF m 0 #[.val (.int p1), .val (.int p2), .val (.int p3), .val (.int p4), .val (.int p5), .val (.int p6), .unset, .unset, .unset, .unset, .unset, .unset, .unset, .unset, .unset, .unset, .unset, .unset] [])) _
    refine st1 _ ?_
    show Steps p.tables e below (T1.setTop (mkF m 3 #[.val (.int p1), .val (.int p2), .val (.int p3), .val (.int p4), .val (.int p5), .val (.int p6), .unset, .unset, .unset, .unset, .unset, .unset, .unset, .unset, .unset, .unset, .unset, .unset] [(.ref b)])) _
    refine XS.dup X1.here hx rfl (hb hby at_3) rfl rfl ?_
    show Steps p.tables e below (T1.setTop (mkF m 4 #[.val (.int p1), .val (.int p2), .val (.int p3), .val (.int p4), .val (.int p5), .val (.int p6), .unset, .unset, .unset, .unset, .unset, .unset, .unset, .unset, .unset, .unset, .unset, .unset] [(.ref b), (.ref b)])) _
    refine st2.trans ?_
    show Steps p.tables e below (T2.setTop (mkF m 7 #[.val (.int p1), .val (.int p2), .val (.int p3), .val (.int p4), .val (.int p5), .val (.int p6), .unset, .unset, .unset, .unset, .unset, .unset, .unset, .unset, .unset, .unset, .unset, .unset] [(.ref b)])) _
    refine XS.astore X2.here hx rfl (hb hby at_7) rfl rfl (l' := #[.val (.int p1), .val (.int p2), .val (.int p3), .val (.int p4), .val (.int p5), .val (.int p6), .val (.ref b), .unset, .unset, .unset, .unset, .unset, .unset, .unset, .unset, .unset, .unset, .unset]) rfl ?_
    show Steps p.tables e below (T2.setTop (mkF m 9 #[.val (.int p1), .val (.int p2), .val (.int p3), .val (.int p4), .val (.int p5), .val (.int p6), .val (.ref b), .unset, .unset, .unset, .unset, .unset, .unset, .unset, .unset, .unset, .unset, .unset] [])) _
    refine XS.aload X2.here hx rfl (hb hby at_9) rfl rfl ?_
    show Steps p.tables e below (T2.setTop (mkF m 11 #[.val (.int p1), .val (.int p2), .val (.int p3), .val (.int p4), .val (.int p5), .val (.int p6), .val (.ref b), .unset, .unset, .unset, .unset, .unset, .unset, .unset, .unset, .unset, .unset, .unset] [(.ref b)])) _
    refine XS.iconst X2.here hx rfl (hb hby at_11) ?_
    show Steps p.tables e below (T2.setTop (mkF m 12 #[.val (.int p1), .val (.int p2), .val (.int p3), .val (.int p4), .val (.int p5), .val (.int p6), .val (.ref b), .unset, .unset, .unset, .unset, .unset, .unset, .unset, .unset, .unset, .unset, .unset] [(.int (4 : Int32)), (.ref b)])) _
    refine st3.trans ?_
    show Steps p.tables e below (T3.setTop (mkF m 15 #[.val (.int p1), .val (.int p2), .val (.int p3), .val (.int p4), .val (.int p5), .val (.int p6), .val (.ref b), .unset, .unset, .unset, .unset, .unset, .unset, .unset, .unset, .unset, .unset, .unset] [])) _
    refine XS.iconst X3.here hx rfl (hb hby at_15) ?_
    show Steps p.tables e below (T3.setTop (mkF m 16 #[.val (.int p1), .val (.int p2), .val (.int p3), .val (.int p4), .val (.int p5), .val (.int p6), .val (.ref b), .unset, .unset, .unset, .unset, .unset, .unset, .unset, .unset, .unset, .unset, .unset] [(.int (4 : Int32))])) _
    refine st4 _ ?_
    show Steps p.tables e below (T4.setTop (mkF m 18 #[.val (.int p1), .val (.int p2), .val (.int p3), .val (.int p4), .val (.int p5), .val (.int p6), .val (.ref b), .unset, .unset, .unset, .unset, .unset, .unset, .unset, .unset, .unset, .unset, .unset] [(.ref la)])) _
    refine XS.dup X4.here hx rfl (hb hby at_18) rfl rfl ?_
    show Steps p.tables e below (T4.setTop (mkF m 19 #[.val (.int p1), .val (.int p2), .val (.int p3), .val (.int p4), .val (.int p5), .val (.int p6), .val (.ref b), .unset, .unset, .unset, .unset, .unset, .unset, .unset, .unset, .unset, .unset, .unset] [(.ref la), (.ref la)])) _
    refine XS.iconst X4.here hx rfl (hb hby at_19) ?_
    show Steps p.tables e below (T4.setTop (mkF m 20 #[.val (.int p1), .val (.int p2), .val (.int p3), .val (.int p4), .val (.int p5), .val (.int p6), .val (.ref b), .unset, .unset, .unset, .unset, .unset, .unset, .unset, .unset, .unset, .unset, .unset] [(.int (0 : Int32)), (.ref la), (.ref la)])) _
    refine XS.iconst X4.here hx rfl (hb hby at_20) ?_
    show Steps p.tables e below (T4.setTop (mkF m 21 #[.val (.int p1), .val (.int p2), .val (.int p3), .val (.int p4), .val (.int p5), .val (.int p6), .val (.ref b), .unset, .unset, .unset, .unset, .unset, .unset, .unset, .unset, .unset, .unset, .unset] [(.int (0 : Int32)), (.int (0 : Int32)), (.ref la), (.ref la)])) _
    refine st5 _ ?_
    show Steps p.tables e below (T5.setTop (mkF m 22 #[.val (.int p1), .val (.int p2), .val (.int p3), .val (.int p4), .val (.int p5), .val (.int p6), .val (.ref b), .unset, .unset, .unset, .unset, .unset, .unset, .unset, .unset, .unset, .unset, .unset] [(.ref la)])) _
    refine XS.dup X5.here hx rfl (hb hby at_22) rfl rfl ?_
    show Steps p.tables e below (T5.setTop (mkF m 23 #[.val (.int p1), .val (.int p2), .val (.int p3), .val (.int p4), .val (.int p5), .val (.int p6), .val (.ref b), .unset, .unset, .unset, .unset, .unset, .unset, .unset, .unset, .unset, .unset, .unset] [(.ref la), (.ref la)])) _
    refine XS.iconst X5.here hx rfl (hb hby at_23) ?_
    show Steps p.tables e below (T5.setTop (mkF m 24 #[.val (.int p1), .val (.int p2), .val (.int p3), .val (.int p4), .val (.int p5), .val (.int p6), .val (.ref b), .unset, .unset, .unset, .unset, .unset, .unset, .unset, .unset, .unset, .unset, .unset] [(.int (1 : Int32)), (.ref la), (.ref la)])) _
    refine XS.iconst X5.here hx rfl (hb hby at_24) ?_
    show Steps p.tables e below (T5.setTop (mkF m 25 #[.val (.int p1), .val (.int p2), .val (.int p3), .val (.int p4), .val (.int p5), .val (.int p6), .val (.ref b), .unset, .unset, .unset, .unset, .unset, .unset, .unset, .unset, .unset, .unset, .unset] [(.int (1 : Int32)), (.int (1 : Int32)), (.ref la), (.ref la)])) _
    refine st6 _ ?_
    show Steps p.tables e below (T6.setTop (mkF m 26 #[.val (.int p1), .val (.int p2), .val (.int p3), .val (.int p4), .val (.int p5), .val (.int p6), .val (.ref b), .unset, .unset, .unset, .unset, .unset, .unset, .unset, .unset, .unset, .unset, .unset] [(.ref la)])) _
    refine XS.dup X6.here hx rfl (hb hby at_26) rfl rfl ?_
    show Steps p.tables e below (T6.setTop (mkF m 27 #[.val (.int p1), .val (.int p2), .val (.int p3), .val (.int p4), .val (.int p5), .val (.int p6), .val (.ref b), .unset, .unset, .unset, .unset, .unset, .unset, .unset, .unset, .unset, .unset, .unset] [(.ref la), (.ref la)])) _
    refine XS.iconst X6.here hx rfl (hb hby at_27) ?_
    show Steps p.tables e below (T6.setTop (mkF m 28 #[.val (.int p1), .val (.int p2), .val (.int p3), .val (.int p4), .val (.int p5), .val (.int p6), .val (.ref b), .unset, .unset, .unset, .unset, .unset, .unset, .unset, .unset, .unset, .unset, .unset] [(.int (2 : Int32)), (.ref la), (.ref la)])) _
    refine XS.iconst X6.here hx rfl (hb hby at_28) ?_
    show Steps p.tables e below (T6.setTop (mkF m 29 #[.val (.int p1), .val (.int p2), .val (.int p3), .val (.int p4), .val (.int p5), .val (.int p6), .val (.ref b), .unset, .unset, .unset, .unset, .unset, .unset, .unset, .unset, .unset, .unset, .unset] [(.int (2 : Int32)), (.int (2 : Int32)), (.ref la), (.ref la)])) _
    refine st7 _ ?_
    show Steps p.tables e below (T7.setTop (mkF m 30 #[.val (.int p1), .val (.int p2), .val (.int p3), .val (.int p4), .val (.int p5), .val (.int p6), .val (.ref b), .unset, .unset, .unset, .unset, .unset, .unset, .unset, .unset, .unset, .unset, .unset] [(.ref la)])) _
    refine XS.dup X7.here hx rfl (hb hby at_30) rfl rfl ?_
    show Steps p.tables e below (T7.setTop (mkF m 31 #[.val (.int p1), .val (.int p2), .val (.int p3), .val (.int p4), .val (.int p5), .val (.int p6), .val (.ref b), .unset, .unset, .unset, .unset, .unset, .unset, .unset, .unset, .unset, .unset, .unset] [(.ref la), (.ref la)])) _
    refine XS.iconst X7.here hx rfl (hb hby at_31) ?_
    show Steps p.tables e below (T7.setTop (mkF m 32 #[.val (.int p1), .val (.int p2), .val (.int p3), .val (.int p4), .val (.int p5), .val (.int p6), .val (.ref b), .unset, .unset, .unset, .unset, .unset, .unset, .unset, .unset, .unset, .unset, .unset] [(.int (3 : Int32)), (.ref la), (.ref la)])) _
    refine XS.iconst X7.here hx rfl (hb hby at_32) ?_
    show Steps p.tables e below (T7.setTop (mkF m 33 #[.val (.int p1), .val (.int p2), .val (.int p3), .val (.int p4), .val (.int p5), .val (.int p6), .val (.ref b), .unset, .unset, .unset, .unset, .unset, .unset, .unset, .unset, .unset, .unset, .unset] [(.int (3 : Int32)), (.int (3 : Int32)), (.ref la), (.ref la)])) _
    refine st8 _ ?_
    show Steps p.tables e below (T8.setTop (mkF m 34 #[.val (.int p1), .val (.int p2), .val (.int p3), .val (.int p4), .val (.int p5), .val (.int p6), .val (.ref b), .unset, .unset, .unset, .unset, .unset, .unset, .unset, .unset, .unset, .unset, .unset] [(.ref la)])) _
    refine XS.astore X8.here hx rfl (hb hby at_34) rfl rfl (l' := #[.val (.int p1), .val (.int p2), .val (.int p3), .val (.int p4), .val (.int p5), .val (.int p6), .val (.ref b), .val (.ref la), .unset, .unset, .unset, .unset, .unset, .unset, .unset, .unset, .unset, .unset]) rfl ?_
    show Steps p.tables e below (T8.setTop (mkF m 36 #[.val (.int p1), .val (.int p2), .val (.int p3), .val (.int p4), .val (.int p5), .val (.int p6), .val (.ref b), .val (.ref la), .unset, .unset, .unset, .unset, .unset, .unset, .unset, .unset, .unset, .unset] [])) _
    refine own_start X8 hx hZ hw hby hown ena enb enc end1 ene enf _ ?_
    show Steps p.tables e below (T8.setTop (mkF m 68 #[.val (.int p1), .val (.int p2), .val (.int p3), .val (.int p4), .val (.int p5), .val (.int p6), .val (.ref b), .val (.ref la), .val (.int (Int32.ofNat na)), .val (.int (Int32.ofNat nb)), .val (.int (Int32.ofNat nc)), .val (.int (Int32.ofNat nd)), .val (.int (Int32.ofNat ne)), .val (.int (Int32.ofNat nf)), .unset, .unset, .unset, .unset] [])) _
    refine XS.aload X8.here hx rfl (hb hby at_68) rfl rfl ?_
    show Steps p.tables e below (T8.setTop (mkF m 70 #[.val (.int p1), .val (.int p2), .val (.int p3), .val (.int p4), .val (.int p5), .val (.int p6), .val (.ref b), .val (.ref la), .val (.int (Int32.ofNat na)), .val (.int (Int32.ofNat nb)), .val (.int (Int32.ofNat nc)), .val (.int (Int32.ofNat nd)), .val (.int (Int32.ofNat ne)), .val (.int (Int32.ofNat nf)), .unset, .unset, .unset, .unset] [(.ref b)])) _
    refine XS.iload X8.here hx rfl (hb hby at_70) rfl ?_
    show Steps p.tables e below (T8.setTop (mkF m 72 #[.val (.int p1), .val (.int p2), .val (.int p3), .val (.int p4), .val (.int p5), .val (.int p6), .val (.ref b), .val (.ref la), .val (.int (Int32.ofNat na)), .val (.int (Int32.ofNat nb)), .val (.int (Int32.ofNat nc)), .val (.int (Int32.ofNat nd)), .val (.int (Int32.ofNat ne)), .val (.int (Int32.ofNat nf)), .unset, .unset, .unset, .unset] [(.int (Int32.ofNat na)), (.ref b)])) _
    refine XS.iload X8.here hx rfl (hb hby at_72) rfl ?_
    show Steps p.tables e below (T8.setTop (mkF m 74 #[.val (.int p1), .val (.int p2), .val (.int p3), .val (.int p4), .val (.int p5), .val (.int p6), .val (.ref b), .val (.ref la), .val (.int (Int32.ofNat na)), .val (.int (Int32.ofNat nb)), .val (.int (Int32.ofNat nc)), .val (.int (Int32.ofNat nd)), .val (.int (Int32.ofNat ne)), .val (.int (Int32.ofNat nf)), .unset, .unset, .unset, .unset] [(.int (Int32.ofNat nb)), (.int (Int32.ofNat na)), (.ref b)])) _
    refine st10 _ ?_
    show Steps p.tables e below (T10.setTop (mkF m 77 #[.val (.int p1), .val (.int p2), .val (.int p3), .val (.int p4), .val (.int p5), .val (.int p6), .val (.ref b), .val (.ref la), .val (.int (Int32.ofNat na)), .val (.int (Int32.ofNat nb)), .val (.int (Int32.ofNat nc)), .val (.int (Int32.ofNat nd)), .val (.int (Int32.ofNat ne)), .val (.int (Int32.ofNat nf)), .unset, .unset, .unset, .unset] [])) _
    refine XS.aload X10.here hx rfl (hb hby at_77) rfl rfl ?_
    show Steps p.tables e below (T10.setTop (mkF m 79 #[.val (.int p1), .val (.int p2), .val (.int p3), .val (.int p4), .val (.int p5), .val (.int p6), .val (.ref b), .val (.ref la), .val (.int (Int32.ofNat na)), .val (.int (Int32.ofNat nb)), .val (.int (Int32.ofNat nc)), .val (.int (Int32.ofNat nd)), .val (.int (Int32.ofNat ne)), .val (.int (Int32.ofNat nf)), .unset, .unset, .unset, .unset] [(.ref la)])) _
    refine XS.iload X10.here hx rfl (hb hby at_79) rfl ?_
    show Steps p.tables e below (T10.setTop (mkF m 81 #[.val (.int p1), .val (.int p2), .val (.int p3), .val (.int p4), .val (.int p5), .val (.int p6), .val (.ref b), .val (.ref la), .val (.int (Int32.ofNat na)), .val (.int (Int32.ofNat nb)), .val (.int (Int32.ofNat nc)), .val (.int (Int32.ofNat nd)), .val (.int (Int32.ofNat ne)), .val (.int (Int32.ofNat nf)), .unset, .unset, .unset, .unset] [(.int (Int32.ofNat na)), (.ref la)])) _
    refine XS.iload X10.here hx rfl (hb hby at_81) rfl ?_
    show Steps p.tables e below (T10.setTop (mkF m 83 #[.val (.int p1), .val (.int p2), .val (.int p3), .val (.int p4), .val (.int p5), .val (.int p6), .val (.ref b), .val (.ref la), .val (.int (Int32.ofNat na)), .val (.int (Int32.ofNat nb)), .val (.int (Int32.ofNat nc)), .val (.int (Int32.ofNat nd)), .val (.int (Int32.ofNat ne)), .val (.int (Int32.ofNat nf)), .unset, .unset, .unset, .unset] [(.int (Int32.ofNat nb)), (.int (Int32.ofNat na)), (.ref la)])) _
    refine st11 _ ?_
    show Steps p.tables e below (T11.setTop (mkF m 86 #[.val (.int p1), .val (.int p2), .val (.int p3), .val (.int p4), .val (.int p5), .val (.int p6), .val (.ref b), .val (.ref la), .val (.int (Int32.ofNat na)), .val (.int (Int32.ofNat nb)), .val (.int (Int32.ofNat nc)), .val (.int (Int32.ofNat nd)), .val (.int (Int32.ofNat ne)), .val (.int (Int32.ofNat nf)), .unset, .unset, .unset, .unset] [])) _
    refine XS.aload X11.here hx rfl (hb hby at_86) rfl rfl ?_
    show Steps p.tables e below (T11.setTop (mkF m 88 #[.val (.int p1), .val (.int p2), .val (.int p3), .val (.int p4), .val (.int p5), .val (.int p6), .val (.ref b), .val (.ref la), .val (.int (Int32.ofNat na)), .val (.int (Int32.ofNat nb)), .val (.int (Int32.ofNat nc)), .val (.int (Int32.ofNat nd)), .val (.int (Int32.ofNat ne)), .val (.int (Int32.ofNat nf)), .unset, .unset, .unset, .unset] [(.ref b)])) _
    refine XS.iload X11.here hx rfl (hb hby at_88) rfl ?_
    show Steps p.tables e below (T11.setTop (mkF m 90 #[.val (.int p1), .val (.int p2), .val (.int p3), .val (.int p4), .val (.int p5), .val (.int p6), .val (.ref b), .val (.ref la), .val (.int (Int32.ofNat na)), .val (.int (Int32.ofNat nb)), .val (.int (Int32.ofNat nc)), .val (.int (Int32.ofNat nd)), .val (.int (Int32.ofNat ne)), .val (.int (Int32.ofNat nf)), .unset, .unset, .unset, .unset] [(.int (Int32.ofNat nc)), (.ref b)])) _
    refine XS.iload X11.here hx rfl (hb hby at_90) rfl ?_
    show Steps p.tables e below (T11.setTop (mkF m 92 #[.val (.int p1), .val (.int p2), .val (.int p3), .val (.int p4), .val (.int p5), .val (.int p6), .val (.ref b), .val (.ref la), .val (.int (Int32.ofNat na)), .val (.int (Int32.ofNat nb)), .val (.int (Int32.ofNat nc)), .val (.int (Int32.ofNat nd)), .val (.int (Int32.ofNat ne)), .val (.int (Int32.ofNat nf)), .unset, .unset, .unset, .unset] [(.int (Int32.ofNat nd)), (.int (Int32.ofNat nc)), (.ref b)])) _
    refine st12 _ ?_
    show Steps p.tables e below (T12.setTop (mkF m 95 #[.val (.int p1), .val (.int p2), .val (.int p3), .val (.int p4), .val (.int p5), .val (.int p6), .val (.ref b), .val (.ref la), .val (.int (Int32.ofNat na)), .val (.int (Int32.ofNat nb)), .val (.int (Int32.ofNat nc)), .val (.int (Int32.ofNat nd)), .val (.int (Int32.ofNat ne)), .val (.int (Int32.ofNat nf)), .unset, .unset, .unset, .unset] [])) _
    refine XS.aload X12.here hx rfl (hb hby at_95) rfl rfl ?_
    show Steps p.tables e below (T12.setTop (mkF m 97 #[.val (.int p1), .val (.int p2), .val (.int p3), .val (.int p4), .val (.int p5), .val (.int p6), .val (.ref b), .val (.ref la), .val (.int (Int32.ofNat na)), .val (.int (Int32.ofNat nb)), .val (.int (Int32.ofNat nc)), .val (.int (Int32.ofNat nd)), .val (.int (Int32.ofNat ne)), .val (.int (Int32.ofNat nf)), .unset, .unset, .unset, .unset] [(.ref la)])) _
    refine XS.iload X12.here hx rfl (hb hby at_97) rfl ?_
    show Steps p.tables e below (T12.setTop (mkF m 99 #[.val (.int p1), .val (.int p2), .val (.int p3), .val (.int p4), .val (.int p5), .val (.int p6), .val (.ref b), .val (.ref la), .val (.int (Int32.ofNat na)), .val (.int (Int32.ofNat nb)), .val (.int (Int32.ofNat nc)), .val (.int (Int32.ofNat nd)), .val (.int (Int32.ofNat ne)), .val (.int (Int32.ofNat nf)), .unset, .unset, .unset, .unset] [(.int (Int32.ofNat nc)), (.ref la)])) _
    refine XS.iload X12.here hx rfl (hb hby at_99) rfl ?_
    show Steps p.tables e below (T12.setTop (mkF m 101 #[.val (.int p1), .val (.int p2), .val (.int p3), .val (.int p4), .val (.int p5), .val (.int p6), .val (.ref b), .val (.ref la), .val (.int (Int32.ofNat na)), .val (.int (Int32.ofNat nb)), .val (.int (Int32.ofNat nc)), .val (.int (Int32.ofNat nd)), .val (.int (Int32.ofNat ne)), .val (.int (Int32.ofNat nf)), .unset, .unset, .unset, .unset] [(.int (Int32.ofNat nd)), (.int (Int32.ofNat nc)), (.ref la)])) _
    refine st13 _ ?_
    show Steps p.tables e below (T13.setTop (mkF m 104 #[.val (.int p1), .val (.int p2), .val (.int p3), .val (.int p4), .val (.int p5), .val (.int p6), .val (.ref b), .val (.ref la), .val (.int (Int32.ofNat na)), .val (.int (Int32.ofNat nb)), .val (.int (Int32.ofNat nc)), .val (.int (Int32.ofNat nd)), .val (.int (Int32.ofNat ne)), .val (.int (Int32.ofNat nf)), .unset, .unset, .unset, .unset] [])) _
    refine XS.aload X13.here hx rfl (hb hby at_104) rfl rfl ?_
    show Steps p.tables e below (T13.setTop (mkF m 106 #[.val (.int p1), .val (.int p2), .val (.int p3), .val (.int p4), .val (.int p5), .val (.int p6), .val (.ref b), .val (.ref la), .val (.int (Int32.ofNat na)), .val (.int (Int32.ofNat nb)), .val (.int (Int32.ofNat nc)), .val (.int (Int32.ofNat nd)), .val (.int (Int32.ofNat ne)), .val (.int (Int32.ofNat nf)), .unset, .unset, .unset, .unset] [(.ref b)])) _
    refine XS.iload X13.here hx rfl (hb hby at_106) rfl ?_
    show Steps p.tables e below (T13.setTop (mkF m 108 #[.val (.int p1), .val (.int p2), .val (.int p3), .val (.int p4), .val (.int p5), .val (.int p6), .val (.ref b), .val (.ref la), .val (.int (Int32.ofNat na)), .val (.int (Int32.ofNat nb)), .val (.int (Int32.ofNat nc)), .val (.int (Int32.ofNat nd)), .val (.int (Int32.ofNat ne)), .val (.int (Int32.ofNat nf)), .unset, .unset, .unset, .unset] [(.int (Int32.ofNat ne)), (.ref b)])) _
    refine XS.iload X13.here hx rfl (hb hby at_108) rfl ?_
    show Steps p.tables e below (T13.setTop (mkF m 110 #[.val (.int p1), .val (.int p2), .val (.int p3), .val (.int p4), .val (.int p5), .val (.int p6), .val (.ref b), .val (.ref la), .val (.int (Int32.ofNat na)), .val (.int (Int32.ofNat nb)), .val (.int (Int32.ofNat nc)), .val (.int (Int32.ofNat nd)), .val (.int (Int32.ofNat ne)), .val (.int (Int32.ofNat nf)), .unset, .unset, .unset, .unset] [(.int (Int32.ofNat nf)), (.int (Int32.ofNat ne)), (.ref b)])) _
    refine st14 _ ?_
    show Steps p.tables e below (T14.setTop (mkF m 113 #[.val (.int p1), .val (.int p2), .val (.int p3), .val (.int p4), .val (.int p5), .val (.int p6), .val (.ref b), .val (.ref la), .val (.int (Int32.ofNat na)), .val (.int (Int32.ofNat nb)), .val (.int (Int32.ofNat nc)), .val (.int (Int32.ofNat nd)), .val (.int (Int32.ofNat ne)), .val (.int (Int32.ofNat nf)), .unset, .unset, .unset, .unset] [])) _
    refine XS.aload X14.here hx rfl (hb hby at_113) rfl rfl ?_
    show Steps p.tables e below (T14.setTop (mkF m 115 #[.val (.int p1), .val (.int p2), .val (.int p3), .val (.int p4), .val (.int p5), .val (.int p6), .val (.ref b), .val (.ref la), .val (.int (Int32.ofNat na)), .val (.int (Int32.ofNat nb)), .val (.int (Int32.ofNat nc)), .val (.int (Int32.ofNat nd)), .val (.int (Int32.ofNat ne)), .val (.int (Int32.ofNat nf)), .unset, .unset, .unset, .unset] [(.ref la)])) _
    refine XS.iload X14.here hx rfl (hb hby at_115) rfl ?_
    show Steps p.tables e below (T14.setTop (mkF m 117 #[.val (.int p1), .val (.int p2), .val (.int p3), .val (.int p4), .val (.int p5), .val (.int p6), .val (.ref b), .val (.ref la), .val (.int (Int32.ofNat na)), .val (.int (Int32.ofNat nb)), .val (.int (Int32.ofNat nc)), .val (.int (Int32.ofNat nd)), .val (.int (Int32.ofNat ne)), .val (.int (Int32.ofNat nf)), .unset, .unset, .unset, .unset] [(.int (Int32.ofNat ne)), (.ref la)])) _
    refine XS.iload X14.here hx rfl (hb hby at_117) rfl ?_
    show Steps p.tables e below (T14.setTop (mkF m 119 #[.val (.int p1), .val (.int p2), .val (.int p3), .val (.int p4), .val (.int p5), .val (.int p6), .val (.ref b), .val (.ref la), .val (.int (Int32.ofNat na)), .val (.int (Int32.ofNat nb)), .val (.int (Int32.ofNat nc)), .val (.int (Int32.ofNat nd)), .val (.int (Int32.ofNat ne)), .val (.int (Int32.ofNat nf)), .unset, .unset, .unset, .unset] [(.int (Int32.ofNat nf)), (.int (Int32.ofNat ne)), (.ref la)])) _
    refine st15 _ ?_
    show Steps p.tables e below (T15.setTop (mkF m 122 #[.val (.int p1), .val (.int p2), .val (.int p3), .val (.int p4), .val (.int p5), .val (.int p6), .val (.ref b), .val (.ref la), .val (.int (Int32.ofNat na)), .val (.int (Int32.ofNat nb)), .val (.int (Int32.ofNat nc)), .val (.int (Int32.ofNat nd)), .val (.int (Int32.ofNat ne)), .val (.int (Int32.ofNat nf)), .unset, .unset, .unset, .unset] [])) _
    refine XS.iconst X15.here hx rfl (hb hby at_122) ?_
    show Steps p.tables e below (T15.setTop (mkF m 123 #[.val (.int p1), .val (.int p2), .val (.int p3), .val (.int p4), .val (.int p5), .val (.int p6), .val (.ref b), .val (.ref la), .val (.int (Int32.ofNat na)), .val (.int (Int32.ofNat nb)), .val (.int (Int32.ofNat nc)), .val (.int (Int32.ofNat nd)), .val (.int (Int32.ofNat ne)), .val (.int (Int32.ofNat nf)), .unset, .unset, .unset, .unset] [(.int (4 : Int32))])) _
    refine st16 _ ?_
    show Steps p.tables e below (T16.setTop (mkF m 125 #[.val (.int p1), .val (.int p2), .val (.int p3), .val (.int p4), .val (.int p5), .val (.int p6), .val (.ref b), .val (.ref la), .val (.int (Int32.ofNat na)), .val (.int (Int32.ofNat nb)), .val (.int (Int32.ofNat nc)), .val (.int (Int32.ofNat nd)), .val (.int (Int32.ofNat ne)), .val (.int (Int32.ofNat nf)), .unset, .unset, .unset, .unset] [(.ref ra)])) _
    refine XS.astore X16.here hx rfl (hb hby at_125) rfl rfl (l' := #[.val (.int p1), .val (.int p2), .val (.int p3), .val (.int p4), .val (.int p5), .val (.int p6), .val (.ref b), .val (.ref la), .val (.int (Int32.ofNat na)), .val (.int (Int32.ofNat nb)), .val (.int (Int32.ofNat nc)), .val (.int (Int32.ofNat nd)), .val (.int (Int32.ofNat ne)), .val (.int (Int32.ofNat nf)), .val (.ref ra), .unset, .unset, .unset]) rfl ?_
    show Steps p.tables e below (T16.setTop (mkF m 127 #[.val (.int p1), .val (.int p2), .val (.int p3), .val (.int p4), .val (.int p5), .val (.int p6), .val (.ref b), .val (.ref la), .val (.int (Int32.ofNat na)), .val (.int (Int32.ofNat nb)), .val (.int (Int32.ofNat nc)), .val (.int (Int32.ofNat nd)), .val (.int (Int32.ofNat ne)), .val (.int (Int32.ofNat nf)), .val (.ref ra), .unset, .unset, .unset] [])) _
    refine XS.aload X16.here hx rfl (hb hby at_127) rfl rfl ?_
    show Steps p.tables e below (T16.setTop (mkF m 129 #[.val (.int p1), .val (.int p2), .val (.int p3), .val (.int p4), .val (.int p5), .val (.int p6), .val (.ref b), .val (.ref la), .val (.int (Int32.ofNat na)), .val (.int (Int32.ofNat nb)), .val (.int (Int32.ofNat nc)), .val (.int (Int32.ofNat nd)), .val (.int (Int32.ofNat ne)), .val (.int (Int32.ofNat nf)), .val (.ref ra), .unset, .unset, .unset] [(.ref ra)])) _
    refine XS.iconst X16.here hx rfl (hb hby at_129) ?_
    show Steps p.tables e below (T16.setTop (mkF m 130 #[.val (.int p1), .val (.int p2), .val (.int p3), .val (.int p4), .val (.int p5), .val (.int p6), .val (.ref b), .val (.ref la), .val (.int (Int32.ofNat na)), .val (.int (Int32.ofNat nb)), .val (.int (Int32.ofNat nc)), .val (.int (Int32.ofNat nd)), .val (.int (Int32.ofNat ne)), .val (.int (Int32.ofNat nf)), .val (.ref ra), .unset, .unset, .unset] [(.int (0 : Int32)), (.ref ra)])) _
    refine XS.aload X16.here hx rfl (hb hby at_130) rfl rfl ?_
    show Steps p.tables e below (T16.setTop (mkF m 132 #[.val (.int p1), .val (.int p2), .val (.int p3), .val (.int p4), .val (.int p5), .val (.int p6), .val (.ref b), .val (.ref la), .val (.int (Int32.ofNat na)), .val (.int (Int32.ofNat nb)), .val (.int (Int32.ofNat nc)), .val (.int (Int32.ofNat nd)), .val (.int (Int32.ofNat ne)), .val (.int (Int32.ofNat nf)), .val (.ref ra), .unset, .unset, .unset] [(.ref b), (.int (0 : Int32)), (.ref ra)])) _
    refine XS.iconst X16.here hx rfl (hb hby at_132) ?_
    show Steps p.tables e below (T16.setTop (mkF m 133 #[.val (.int p1), .val (.int p2), .val (.int p3), .val (.int p4), .val (.int p5), .val (.int p6), .val (.ref b), .val (.ref la), .val (.int (Int32.ofNat na)), .val (.int (Int32.ofNat nb)), .val (.int (Int32.ofNat nc)), .val (.int (Int32.ofNat nd)), .val (.int (Int32.ofNat ne)), .val (.int (Int32.ofNat nf)), .val (.ref ra), .unset, .unset, .unset] [(.int (0 : Int32)), (.ref b), (.int (0 : Int32)), (.ref ra)])) _
    refine st17 _ ?_
    show Steps p.tables e below (T17.setTop (mkF m 136 #[.val (.int p1), .val (.int p2), .val (.int p3), .val (.int p4), .val (.int p5), .val (.int p6), .val (.ref b), .val (.ref la), .val (.int (Int32.ofNat na)), .val (.int (Int32.ofNat nb)), .val (.int (Int32.ofNat nc)), .val (.int (Int32.ofNat nd)), .val (.int (Int32.ofNat ne)), .val (.int (Int32.ofNat nf)), .val (.ref ra), .unset, .unset, .unset] [(.int (Int32.ofNat r0)), (.int (0 : Int32)), (.ref ra)])) _
    refine st18 _ ?_
    show Steps p.tables e below (T18.setTop (mkF m 137 #[.val (.int p1), .val (.int p2), .val (.int p3), .val (.int p4), .val (.int p5), .val (.int p6), .val (.ref b), .val (.ref la), .val (.int (Int32.ofNat na)), .val (.int (Int32.ofNat nb)), .val (.int (Int32.ofNat nc)), .val (.int (Int32.ofNat nd)), .val (.int (Int32.ofNat ne)), .val (.int (Int32.ofNat nf)), .val (.ref ra), .unset, .unset, .unset] [])) _
    refine XS.aload X18.here hx rfl (hb hby at_137) rfl rfl ?_
    show Steps p.tables e below (T18.setTop (mkF m 139 #[.val (.int p1), .val (.int p2), .val (.int p3), .val (.int p4), .val (.int p5), .val (.int p6), .val (.ref b), .val (.ref la), .val (.int (Int32.ofNat na)), .val (.int (Int32.ofNat nb)), .val (.int (Int32.ofNat nc)), .val (.int (Int32.ofNat nd)), .val (.int (Int32.ofNat ne)), .val (.int (Int32.ofNat nf)), .val (.ref ra), .unset, .unset, .unset] [(.ref ra)])) _
    refine XS.iconst X18.here hx rfl (hb hby at_139) ?_
    show Steps p.tables e below (T18.setTop (mkF m 140 #[.val (.int p1), .val (.int p2), .val (.int p3), .val (.int p4), .val (.int p5), .val (.int p6), .val (.ref b), .val (.ref la), .val (.int (Int32.ofNat na)), .val (.int (Int32.ofNat nb)), .val (.int (Int32.ofNat nc)), .val (.int (Int32.ofNat nd)), .val (.int (Int32.ofNat ne)), .val (.int (Int32.ofNat nf)), .val (.ref ra), .unset, .unset, .unset] [(.int (1 : Int32)), (.ref ra)])) _
    refine XS.aload X18.here hx rfl (hb hby at_140) rfl rfl ?_
    show Steps p.tables e below (T18.setTop (mkF m 142 #[.val (.int p1), .val (.int p2), .val (.int p3), .val (.int p4), .val (.int p5), .val (.int p6), .val (.ref b), .val (.ref la), .val (.int (Int32.ofNat na)), .val (.int (Int32.ofNat nb)), .val (.int (Int32.ofNat nc)), .val (.int (Int32.ofNat nd)), .val (.int (Int32.ofNat ne)), .val (.int (Int32.ofNat nf)), .val (.ref ra), .unset, .unset, .unset] [(.ref b), (.int (1 : Int32)), (.ref ra)])) _
    refine XS.iconst X18.here hx rfl (hb hby at_142) ?_
    show Steps p.tables e below (T18.setTop (mkF m 143 #[.val (.int p1), .val (.int p2), .val (.int p3), .val (.int p4), .val (.int p5), .val (.int p6), .val (.ref b), .val (.ref la), .val (.int (Int32.ofNat na)), .val (.int (Int32.ofNat nb)), .val (.int (Int32.ofNat nc)), .val (.int (Int32.ofNat nd)), .val (.int (Int32.ofNat ne)), .val (.int (Int32.ofNat nf)), .val (.ref ra), .unset, .unset, .unset] [(.int (1 : Int32)), (.ref b), (.int (1 : Int32)), (.ref ra)])) _
    refine st19 _ ?_
    show Steps p.tables e below (T19.setTop (mkF m 146 #[.val (.int p1), .val (.int p2), .val (.int p3), .val (.int p4), .val (.int p5), .val (.int p6), .val (.ref b), .val (.ref la), .val (.int (Int32.ofNat na)), .val (.int (Int32.ofNat nb)), .val (.int (Int32.ofNat nc)), .val (.int (Int32.ofNat nd)), .val (.int (Int32.ofNat ne)), .val (.int (Int32.ofNat nf)), .val (.ref ra), .unset, .unset, .unset] [(.int (Int32.ofNat r1)), (.int (1 : Int32)), (.ref ra)])) _
    refine st20 _ ?_
    show Steps p.tables e below (T20.setTop (mkF m 147 #[.val (.int p1), .val (.int p2), .val (.int p3), .val (.int p4), .val (.int p5), .val (.int p6), .val (.ref b), .val (.ref la), .val (.int (Int32.ofNat na)), .val (.int (Int32.ofNat nb)), .val (.int (Int32.ofNat nc)), .val (.int (Int32.ofNat nd)), .val (.int (Int32.ofNat ne)), .val (.int (Int32.ofNat nf)), .val (.ref ra), .unset, .unset, .unset] [])) _
    refine XS.aload X20.here hx rfl (hb hby at_147) rfl rfl ?_
    show Steps p.tables e below (T20.setTop (mkF m 149 #[.val (.int p1), .val (.int p2), .val (.int p3), .val (.int p4), .val (.int p5), .val (.int p6), .val (.ref b), .val (.ref la), .val (.int (Int32.ofNat na)), .val (.int (Int32.ofNat nb)), .val (.int (Int32.ofNat nc)), .val (.int (Int32.ofNat nd)), .val (.int (Int32.ofNat ne)), .val (.int (Int32.ofNat nf)), .val (.ref ra), .unset, .unset, .unset] [(.ref ra)])) _
    refine XS.iconst X20.here hx rfl (hb hby at_149) ?_
    show Steps p.tables e below (T20.setTop (mkF m 150 #[.val (.int p1), .val (.int p2), .val (.int p3), .val (.int p4), .val (.int p5), .val (.int p6), .val (.ref b), .val (.ref la), .val (.int (Int32.ofNat na)), .val (.int (Int32.ofNat nb)), .val (.int (Int32.ofNat nc)), .val (.int (Int32.ofNat nd)), .val (.int (Int32.ofNat ne)), .val (.int (Int32.ofNat nf)), .val (.ref ra), .unset, .unset, .unset] [(.int (2 : Int32)), (.ref ra)])) _
    refine XS.aload X20.here hx rfl (hb hby at_150) rfl rfl ?_
    show Steps p.tables e below (T20.setTop (mkF m 152 #[.val (.int p1), .val (.int p2), .val (.int p3), .val (.int p4), .val (.int p5), .val (.int p6), .val (.ref b), .val (.ref la), .val (.int (Int32.ofNat na)), .val (.int (Int32.ofNat nb)), .val (.int (Int32.ofNat nc)), .val (.int (Int32.ofNat nd)), .val (.int (Int32.ofNat ne)), .val (.int (Int32.ofNat nf)), .val (.ref ra), .unset, .unset, .unset] [(.ref b), (.int (2 : Int32)), (.ref ra)])) _
    refine XS.iconst X20.here hx rfl (hb hby at_152) ?_
    show Steps p.tables e below (T20.setTop (mkF m 153 #[.val (.int p1), .val (.int p2), .val (.int p3), .val (.int p4), .val (.int p5), .val (.int p6), .val (.ref b), .val (.ref la), .val (.int (Int32.ofNat na)), .val (.int (Int32.ofNat nb)), .val (.int (Int32.ofNat nc)), .val (.int (Int32.ofNat nd)), .val (.int (Int32.ofNat ne)), .val (.int (Int32.ofNat nf)), .val (.ref ra), .unset, .unset, .unset] [(.int (2 : Int32)), (.ref b), (.int (2 : Int32)), (.ref ra)])) _
    refine st21 _ ?_
    show Steps p.tables e below (T21.setTop (mkF m 156 #[.val (.int p1), .val (.int p2), .val (.int p3), .val (.int p4), .val (.int p5), .val (.int p6), .val (.ref b), .val (.ref la), .val (.int (Int32.ofNat na)), .val (.int (Int32.ofNat nb)), .val (.int (Int32.ofNat nc)), .val (.int (Int32.ofNat nd)), .val (.int (Int32.ofNat ne)), .val (.int (Int32.ofNat nf)), .val (.ref ra), .unset, .unset, .unset] [(.int (Int32.ofNat r2)), (.int (2 : Int32)), (.ref ra)])) _
    refine st22 _ ?_
    show Steps p.tables e below (T22.setTop (mkF m 157 #[.val (.int p1), .val (.int p2), .val (.int p3), .val (.int p4), .val (.int p5), .val (.int p6), .val (.ref b), .val (.ref la), .val (.int (Int32.ofNat na)), .val (.int (Int32.ofNat nb)), .val (.int (Int32.ofNat nc)), .val (.int (Int32.ofNat nd)), .val (.int (Int32.ofNat ne)), .val (.int (Int32.ofNat nf)), .val (.ref ra), .unset, .unset, .unset] [])) _
    refine XS.aload X22.here hx rfl (hb hby at_157) rfl rfl ?_
    show Steps p.tables e below (T22.setTop (mkF m 159 #[.val (.int p1), .val (.int p2), .val (.int p3), .val (.int p4), .val (.int p5), .val (.int p6), .val (.ref b), .val (.ref la), .val (.int (Int32.ofNat na)), .val (.int (Int32.ofNat nb)), .val (.int (Int32.ofNat nc)), .val (.int (Int32.ofNat nd)), .val (.int (Int32.ofNat ne)), .val (.int (Int32.ofNat nf)), .val (.ref ra), .unset, .unset, .unset] [(.ref ra)])) _
    refine XS.iconst X22.here hx rfl (hb hby at_159) ?_
    show Steps p.tables e below (T22.setTop (mkF m 160 #[.val (.int p1), .val (.int p2), .val (.int p3), .val (.int p4), .val (.int p5), .val (.int p6), .val (.ref b), .val (.ref la), .val (.int (Int32.ofNat na)), .val (.int (Int32.ofNat nb)), .val (.int (Int32.ofNat nc)), .val (.int (Int32.ofNat nd)), .val (.int (Int32.ofNat ne)), .val (.int (Int32.ofNat nf)), .val (.ref ra), .unset, .unset, .unset] [(.int (3 : Int32)), (.ref ra)])) _
    refine XS.aload X22.here hx rfl (hb hby at_160) rfl rfl ?_
    show Steps p.tables e below (T22.setTop (mkF m 162 #[.val (.int p1), .val (.int p2), .val (.int p3), .val (.int p4), .val (.int p5), .val (.int p6), .val (.ref b), .val (.ref la), .val (.int (Int32.ofNat na)), .val (.int (Int32.ofNat nb)), .val (.int (Int32.ofNat nc)), .val (.int (Int32.ofNat nd)), .val (.int (Int32.ofNat ne)), .val (.int (Int32.ofNat nf)), .val (.ref ra), .unset, .unset, .unset] [(.ref b), (.int (3 : Int32)), (.ref ra)])) _
    refine XS.iconst X22.here hx rfl (hb hby at_162) ?_
    show Steps p.tables e below (T22.setTop (mkF m 163 #[.val (.int p1), .val (.int p2), .val (.int p3), .val (.int p4), .val (.int p5), .val (.int p6), .val (.ref b), .val (.ref la), .val (.int (Int32.ofNat na)), .val (.int (Int32.ofNat nb)), .val (.int (Int32.ofNat nc)), .val (.int (Int32.ofNat nd)), .val (.int (Int32.ofNat ne)), .val (.int (Int32.ofNat nf)), .val (.ref ra), .unset, .unset, .unset] [(.int (3 : Int32)), (.ref b), (.int (3 : Int32)), (.ref ra)])) _
    refine st23 _ ?_
    show Steps p.tables e below (T23.setTop (mkF m 166 #[.val (.int p1), .val (.int p2), .val (.int p3), .val (.int p4), .val (.int p5), .val (.int p6), .val (.ref b), .val (.ref la), .val (.int (Int32.ofNat na)), .val (.int (Int32.ofNat nb)), .val (.int (Int32.ofNat nc)), .val (.int (Int32.ofNat nd)), .val (.int (Int32.ofNat ne)), .val (.int (Int32.ofNat nf)), .val (.ref ra), .unset, .unset, .unset] [(.int (Int32.ofNat r3)), (.int (3 : Int32)), (.ref ra)])) _
    refine st24 _ ?_
    show Steps p.tables e below (T24.setTop (mkF m 167 #[.val (.int p1), .val (.int p2), .val (.int p3), .val (.int p4), .val (.int p5), .val (.int p6), .val (.ref b), .val (.ref la), .val (.int (Int32.ofNat na)), .val (.int (Int32.ofNat nb)), .val (.int (Int32.ofNat nc)), .val (.int (Int32.ofNat nd)), .val (.int (Int32.ofNat ne)), .val (.int (Int32.ofNat nf)), .val (.ref ra), .unset, .unset, .unset] [])) _
    refine XS.aload X24.here hx rfl (hb hby at_167) rfl rfl ?_
    show Steps p.tables e below (T24.setTop (mkF m 169 #[.val (.int p1), .val (.int p2), .val (.int p3), .val (.int p4), .val (.int p5), .val (.int p6), .val (.ref b), .val (.ref la), .val (.int (Int32.ofNat na)), .val (.int (Int32.ofNat nb)), .val (.int (Int32.ofNat nc)), .val (.int (Int32.ofNat nd)), .val (.int (Int32.ofNat ne)), .val (.int (Int32.ofNat nf)), .val (.ref ra), .unset, .unset, .unset] [(.ref la)])) _
    refine XS.aload X24.here hx rfl (hb hby at_169) rfl rfl ?_
    show Steps p.tables e below (T24.setTop (mkF m 171 #[.val (.int p1), .val (.int p2), .val (.int p3), .val (.int p4), .val (.int p5), .val (.int p6), .val (.ref b), .val (.ref la), .val (.int (Int32.ofNat na)), .val (.int (Int32.ofNat nb)), .val (.int (Int32.ofNat nc)), .val (.int (Int32.ofNat nd)), .val (.int (Int32.ofNat ne)), .val (.int (Int32.ofNat nf)), .val (.ref ra), .unset, .unset, .unset] [(.ref ra), (.ref la)])) _
    refine XS.iconst X24.here hx rfl (hb hby at_171) ?_
    show Steps p.tables e below (T24.setTop (mkF m 172 #[.val (.int p1), .val (.int p2), .val (.int p3), .val (.int p4), .val (.int p5), .val (.int p6), .val (.ref b), .val (.ref la), .val (.int (Int32.ofNat na)), .val (.int (Int32.ofNat nb)), .val (.int (Int32.ofNat nc)), .val (.int (Int32.ofNat nd)), .val (.int (Int32.ofNat ne)), .val (.int (Int32.ofNat nf)), .val (.ref ra), .unset, .unset, .unset] [(.int (0 : Int32)), (.ref ra), (.ref la)])) _
    refine st25 _ ?_
    show Steps p.tables e below (T25.setTop (mkF m 175 #[.val (.int p1), .val (.int p2), .val (.int p3), .val (.int p4), .val (.int p5), .val (.int p6), .val (.ref b), .val (.ref la), .val (.int (Int32.ofNat na)), .val (.int (Int32.ofNat nb)), .val (.int (Int32.ofNat nc)), .val (.int (Int32.ofNat nd)), .val (.int (Int32.ofNat ne)), .val (.int (Int32.ofNat nf)), .val (.ref ra), .unset, .unset, .unset] [(.int (1 : Int32))])) _
    refine XS.ifNo X25.here hx rfl (hb hby at_175) rfl ((if0 _ _).trans (feq (by decide)).1) ?_
    show Steps p.tables e below (T25.setTop (mkF m 178 #[.val (.int p1), .val (.int p2), .val (.int p3), .val (.int p4), .val (.int p5), .val (.int p6), .val (.ref b), .val (.ref la), .val (.int (Int32.ofNat na)), .val (.int (Int32.ofNat nb)), .val (.int (Int32.ofNat nc)), .val (.int (Int32.ofNat nd)), .val (.int (Int32.ofNat ne)), .val (.int (Int32.ofNat nf)), .val (.ref ra), .unset, .unset, .unset] [])) _
    refine XS.aload X25.here hx rfl (hb hby at_178) rfl rfl ?_
    show Steps p.tables e below (T25.setTop (mkF m 180 #[.val (.int p1), .val (.int p2), .val (.int p3), .val (.int p4), .val (.int p5), .val (.int p6), .val (.ref b), .val (.ref la), .val (.int (Int32.ofNat na)), .val (.int (Int32.ofNat nb)), .val (.int (Int32.ofNat nc)), .val (.int (Int32.ofNat nd)), .val (.int (Int32.ofNat ne)), .val (.int (Int32.ofNat nf)), .val (.ref ra), .unset, .unset, .unset] [(.ref la)])) _
    refine XS.aload X25.here hx rfl (hb hby at_180) rfl rfl ?_
    show Steps p.tables e below (T25.setTop (mkF m 182 #[.val (.int p1), .val (.int p2), .val (.int p3), .val (.int p4), .val (.int p5), .val (.int p6), .val (.ref b), .val (.ref la), .val (.int (Int32.ofNat na)), .val (.int (Int32.ofNat nb)), .val (.int (Int32.ofNat nc)), .val (.int (Int32.ofNat nd)), .val (.int (Int32.ofNat ne)), .val (.int (Int32.ofNat nf)), .val (.ref ra), .unset, .unset, .unset] [(.ref ra), (.ref la)])) _
    refine XS.iconst X25.here hx rfl (hb hby at_182) ?_
    show Steps p.tables e below (T25.setTop (mkF m 183 #[.val (.int p1), .val (.int p2), .val (.int p3), .val (.int p4), .val (.int p5), .val (.int p6), .val (.ref b), .val (.ref la), .val (.int (Int32.ofNat na)), .val (.int (Int32.ofNat nb)), .val (.int (Int32.ofNat nc)), .val (.int (Int32.ofNat nd)), .val (.int (Int32.ofNat ne)), .val (.int (Int32.ofNat nf)), .val (.ref ra), .unset, .unset, .unset] [(.int (1 : Int32)), (.ref ra), (.ref la)])) _
    refine st26 _ ?_
    show Steps p.tables e below (T26.setTop (mkF m 186 #[.val (.int p1), .val (.int p2), .val (.int p3), .val (.int p4), .val (.int p5), .val (.int p6), .val (.ref b), .val (.ref la), .val (.int (Int32.ofNat na)), .val (.int (Int32.ofNat nb)), .val (.int (Int32.ofNat nc)), .val (.int (Int32.ofNat nd)), .val (.int (Int32.ofNat ne)), .val (.int (Int32.ofNat nf)), .val (.ref ra), .unset, .unset, .unset] [(.int (1 : Int32))])) _
    refine XS.ifNo X26.here hx rfl (hb hby at_186) rfl ((if0 _ _).trans (feq (by decide)).1) ?_
    show Steps p.tables e below (T26.setTop (mkF m 189 #[.val (.int p1), .val (.int p2), .val (.int p3), .val (.int p4), .val (.int p5), .val (.int p6), .val (.ref b), .val (.ref la), .val (.int (Int32.ofNat na)), .val (.int (Int32.ofNat nb)), .val (.int (Int32.ofNat nc)), .val (.int (Int32.ofNat nd)), .val (.int (Int32.ofNat ne)), .val (.int (Int32.ofNat nf)), .val (.ref ra), .unset, .unset, .unset] [])) _
    refine XS.aload X26.here hx rfl (hb hby at_189) rfl rfl ?_
    show Steps p.tables e below (T26.setTop (mkF m 191 #[.val (.int p1), .val (.int p2), .val (.int p3), .val (.int p4), .val (.int p5), .val (.int p6), .val (.ref b), .val (.ref la), .val (.int (Int32.ofNat na)), .val (.int (Int32.ofNat nb)), .val (.int (Int32.ofNat nc)), .val (.int (Int32.ofNat nd)), .val (.int (Int32.ofNat ne)), .val (.int (Int32.ofNat nf)), .val (.ref ra), .unset, .unset, .unset] [(.ref la)])) _
    refine XS.aload X26.here hx rfl (hb hby at_191) rfl rfl ?_
    show Steps p.tables e below (T26.setTop (mkF m 193 #[.val (.int p1), .val (.int p2), .val (.int p3), .val (.int p4), .val (.int p5), .val (.int p6), .val (.ref b), .val (.ref la), .val (.int (Int32.ofNat na)), .val (.int (Int32.ofNat nb)), .val (.int (Int32.ofNat nc)), .val (.int (Int32.ofNat nd)), .val (.int (Int32.ofNat ne)), .val (.int (Int32.ofNat nf)), .val (.ref ra), .unset, .unset, .unset] [(.ref ra), (.ref la)])) _
    refine XS.iconst X26.here hx rfl (hb hby at_193) ?_
    show Steps p.tables e below (T26.setTop (mkF m 194 #[.val (.int p1), .val (.int p2), .val (.int p3), .val (.int p4), .val (.int p5), .val (.int p6), .val (.ref b), .val (.ref la), .val (.int (Int32.ofNat na)), .val (.int (Int32.ofNat nb)), .val (.int (Int32.ofNat nc)), .val (.int (Int32.ofNat nd)), .val (.int (Int32.ofNat ne)), .val (.int (Int32.ofNat nf)), .val (.ref ra), .unset, .unset, .unset] [(.int (2 : Int32)), (.ref ra), (.ref la)])) _
    refine st27 _ ?_
    show Steps p.tables e below (T27.setTop (mkF m 197 #[.val (.int p1), .val (.int p2), .val (.int p3), .val (.int p4), .val (.int p5), .val (.int p6), .val (.ref b), .val (.ref la), .val (.int (Int32.ofNat na)), .val (.int (Int32.ofNat nb)), .val (.int (Int32.ofNat nc)), .val (.int (Int32.ofNat nd)), .val (.int (Int32.ofNat ne)), .val (.int (Int32.ofNat nf)), .val (.ref ra), .unset, .unset, .unset] [(.int (1 : Int32))])) _
    refine XS.ifNo X27.here hx rfl (hb hby at_197) rfl ((if0 _ _).trans (feq (by decide)).1) ?_
    show Steps p.tables e below (T27.setTop (mkF m 200 #[.val (.int p1), .val (.int p2), .val (.int p3), .val (.int p4), .val (.int p5), .val (.int p6), .val (.ref b), .val (.ref la), .val (.int (Int32.ofNat na)), .val (.int (Int32.ofNat nb)), .val (.int (Int32.ofNat nc)), .val (.int (Int32.ofNat nd)), .val (.int (Int32.ofNat ne)), .val (.int (Int32.ofNat nf)), .val (.ref ra), .unset, .unset, .unset] [])) _
    refine XS.aload X27.here hx rfl (hb hby at_200) rfl rfl ?_
    show Steps p.tables e below (T27.setTop (mkF m 202 #[.val (.int p1), .val (.int p2), .val (.int p3), .val (.int p4), .val (.int p5), .val (.int p6), .val (.ref b), .val (.ref la), .val (.int (Int32.ofNat na)), .val (.int (Int32.ofNat nb)), .val (.int (Int32.ofNat nc)), .val (.int (Int32.ofNat nd)), .val (.int (Int32.ofNat ne)), .val (.int (Int32.ofNat nf)), .val (.ref ra), .unset, .unset, .unset] [(.ref la)])) _
    refine XS.aload X27.here hx rfl (hb hby at_202) rfl rfl ?_
    show Steps p.tables e below (T27.setTop (mkF m 204 #[.val (.int p1), .val (.int p2), .val (.int p3), .val (.int p4), .val (.int p5), .val (.int p6), .val (.ref b), .val (.ref la), .val (.int (Int32.ofNat na)), .val (.int (Int32.ofNat nb)), .val (.int (Int32.ofNat nc)), .val (.int (Int32.ofNat nd)), .val (.int (Int32.ofNat ne)), .val (.int (Int32.ofNat nf)), .val (.ref ra), .unset, .unset, .unset] [(.ref ra), (.ref la)])) _
    refine XS.iconst X27.here hx rfl (hb hby at_204) ?_
    show Steps p.tables e below (T27.setTop (mkF m 205 #[.val (.int p1), .val (.int p2), .val (.int p3), .val (.int p4), .val (.int p5), .val (.int p6), .val (.ref b), .val (.ref la), .val (.int (Int32.ofNat na)), .val (.int (Int32.ofNat nb)), .val (.int (Int32.ofNat nc)), .val (.int (Int32.ofNat nd)), .val (.int (Int32.ofNat ne)), .val (.int (Int32.ofNat nf)), .val (.ref ra), .unset, .unset, .unset] [(.int (3 : Int32)), (.ref ra), (.ref la)])) _
    refine st28 _ ?_
    show Steps p.tables e below (T28.setTop (mkF m 208 #[.val (.int p1), .val (.int p2), .val (.int p3), .val (.int p4), .val (.int p5), .val (.int p6), .val (.ref b), .val (.ref la), .val (.int (Int32.ofNat na)), .val (.int (Int32.ofNat nb)), .val (.int (Int32.ofNat nc)), .val (.int (Int32.ofNat nd)), .val (.int (Int32.ofNat ne)), .val (.int (Int32.ofNat nf)), .val (.ref ra), .unset, .unset, .unset] [(.int (1 : Int32))])) _
    refine XS.ifYes X28.here hx rfl (pc0 := 208) (pc' := 213) rfl (hb hby at_208) rfl ((if0 _ _).trans (feq (by decide)).2) (by decide) (by decide) ?_
    show Steps p.tables e below (T28.setTop (mkF m 213 #[.val (.int p1), .val (.int p2), .val (.int p3), .val (.int p4), .val (.int p5), .val (.int p6), .val (.ref b), .val (.ref la), .val (.int (Int32.ofNat na)), .val (.int (Int32.ofNat nb)), .val (.int (Int32.ofNat nc)), .val (.int (Int32.ofNat nd)), .val (.int (Int32.ofNat ne)), .val (.int (Int32.ofNat nf)), .val (.ref ra), .unset, .unset, .unset] [])) _
    refine XS.aload X28.here hx rfl (hb hby at_213) rfl rfl ?_
    show Steps p.tables e below (T28.setTop (mkF m 215 #[.val (.int p1), .val (.int p2), .val (.int p3), .val (.int p4), .val (.int p5), .val (.int p6), .val (.ref b), .val (.ref la), .val (.int (Int32.ofNat na)), .val (.int (Int32.ofNat nb)), .val (.int (Int32.ofNat nc)), .val (.int (Int32.ofNat nd)), .val (.int (Int32.ofNat ne)), .val (.int (Int32.ofNat nf)), .val (.ref ra), .unset, .unset, .unset] [(.ref la)])) _
    refine XS.aload X28.here hx rfl (hb hby at_215) rfl rfl ?_
    show Steps p.tables e below (T28.setTop (mkF m 217 #[.val (.int p1), .val (.int p2), .val (.int p3), .val (.int p4), .val (.int p5), .val (.int p6), .val (.ref b), .val (.ref la), .val (.int (Int32.ofNat na)), .val (.int (Int32.ofNat nb)), .val (.int (Int32.ofNat nc)), .val (.int (Int32.ofNat nd)), .val (.int (Int32.ofNat ne)), .val (.int (Int32.ofNat nf)), .val (.ref ra), .unset, .unset, .unset] [(.ref ra), (.ref la)])) _
    refine XS.iconst X28.here hx rfl (hb hby at_217) ?_
    show Steps p.tables e below (T28.setTop (mkF m 218 #[.val (.int p1), .val (.int p2), .val (.int p3), .val (.int p4), .val (.int p5), .val (.int p6), .val (.ref b), .val (.ref la), .val (.int (Int32.ofNat na)), .val (.int (Int32.ofNat nb)), .val (.int (Int32.ofNat nc)), .val (.int (Int32.ofNat nd)), .val (.int (Int32.ofNat ne)), .val (.int (Int32.ofNat nf)), .val (.ref ra), .unset, .unset, .unset] [(.int (0 : Int32)), (.ref ra), (.ref la)])) _
    refine XS.iconst X28.here hx rfl (hb hby at_218) ?_
    show Steps p.tables e below (T28.setTop (mkF m 219 #[.val (.int p1), .val (.int p2), .val (.int p3), .val (.int p4), .val (.int p5), .val (.int p6), .val (.ref b), .val (.ref la), .val (.int (Int32.ofNat na)), .val (.int (Int32.ofNat nb)), .val (.int (Int32.ofNat nc)), .val (.int (Int32.ofNat nd)), .val (.int (Int32.ofNat ne)), .val (.int (Int32.ofNat nf)), .val (.ref ra), .unset, .unset, .unset] [(.int (1 : Int32)), (.int (0 : Int32)), (.ref ra), (.ref la)])) _
    refine st29 _ ?_
    show Steps p.tables e below (T29.setTop (mkF m 222 #[.val (.int p1), .val (.int p2), .val (.int p3), .val (.int p4), .val (.int p5), .val (.int p6), .val (.ref b), .val (.ref la), .val (.int (Int32.ofNat na)), .val (.int (Int32.ofNat nb)), .val (.int (Int32.ofNat nc)), .val (.int (Int32.ofNat nd)), .val (.int (Int32.ofNat ne)), .val (.int (Int32.ofNat nf)), .val (.ref ra), .unset, .unset, .unset] [(.int (1 : Int32))])) _
    refine XS.ifNo X29.here hx rfl (hb hby at_222) rfl ((if0 _ _).trans (feq (by decide)).1) ?_
    show Steps p.tables e below (T29.setTop (mkF m 225 #[.val (.int p1), .val (.int p2), .val (.int p3), .val (.int p4), .val (.int p5), .val (.int p6), .val (.ref b), .val (.ref la), .val (.int (Int32.ofNat na)), .val (.int (Int32.ofNat nb)), .val (.int (Int32.ofNat nc)), .val (.int (Int32.ofNat nd)), .val (.int (Int32.ofNat ne)), .val (.int (Int32.ofNat nf)), .val (.ref ra), .unset, .unset, .unset] [])) _
    refine XS.aload X29.here hx rfl (hb hby at_225) rfl rfl ?_
    show Steps p.tables e below (T29.setTop (mkF m 227 #[.val (.int p1), .val (.int p2), .val (.int p3), .val (.int p4), .val (.int p5), .val (.int p6), .val (.ref b), .val (.ref la), .val (.int (Int32.ofNat na)), .val (.int (Int32.ofNat nb)), .val (.int (Int32.ofNat nc)), .val (.int (Int32.ofNat nd)), .val (.int (Int32.ofNat ne)), .val (.int (Int32.ofNat nf)), .val (.ref ra), .unset, .unset, .unset] [(.ref la)])) _
    refine XS.aload X29.here hx rfl (hb hby at_227) rfl rfl ?_
    show Steps p.tables e below (T29.setTop (mkF m 229 #[.val (.int p1), .val (.int p2), .val (.int p3), .val (.int p4), .val (.int p5), .val (.int p6), .val (.ref b), .val (.ref la), .val (.int (Int32.ofNat na)), .val (.int (Int32.ofNat nb)), .val (.int (Int32.ofNat nc)), .val (.int (Int32.ofNat nd)), .val (.int (Int32.ofNat ne)), .val (.int (Int32.ofNat nf)), .val (.ref ra), .unset, .unset, .unset] [(.ref ra), (.ref la)])) _
    refine XS.iconst X29.here hx rfl (hb hby at_229) ?_
    show Steps p.tables e below (T29.setTop (mkF m 230 #[.val (.int p1), .val (.int p2), .val (.int p3), .val (.int p4), .val (.int p5), .val (.int p6), .val (.ref b), .val (.ref la), .val (.int (Int32.ofNat na)), .val (.int (Int32.ofNat nb)), .val (.int (Int32.ofNat nc)), .val (.int (Int32.ofNat nd)), .val (.int (Int32.ofNat ne)), .val (.int (Int32.ofNat nf)), .val (.ref ra), .unset, .unset, .unset] [(.int (0 : Int32)), (.ref ra), (.ref la)])) _
    refine XS.iconst X29.here hx rfl (hb hby at_230) ?_
    show Steps p.tables e below (T29.setTop (mkF m 231 #[.val (.int p1), .val (.int p2), .val (.int p3), .val (.int p4), .val (.int p5), .val (.int p6), .val (.ref b), .val (.ref la), .val (.int (Int32.ofNat na)), .val (.int (Int32.ofNat nb)), .val (.int (Int32.ofNat nc)), .val (.int (Int32.ofNat nd)), .val (.int (Int32.ofNat ne)), .val (.int (Int32.ofNat nf)), .val (.ref ra), .unset, .unset, .unset] [(.int (2 : Int32)), (.int (0 : Int32)), (.ref ra), (.ref la)])) _
    refine st30 _ ?_
    show Steps p.tables e below (T30.setTop (mkF m 234 #[.val (.int p1), .val (.int p2), .val (.int p3), .val (.int p4), .val (.int p5), .val (.int p6), .val (.ref b), .val (.ref la), .val (.int (Int32.ofNat na)), .val (.int (Int32.ofNat nb)), .val (.int (Int32.ofNat nc)), .val (.int (Int32.ofNat nd)), .val (.int (Int32.ofNat ne)), .val (.int (Int32.ofNat nf)), .val (.ref ra), .unset, .unset, .unset] [(.int (1 : Int32))])) _
    refine XS.ifNo X30.here hx rfl (hb hby at_234) rfl ((if0 _ _).trans (feq (by decide)).1) ?_
    show Steps p.tables e below (T30.setTop (mkF m 237 #[.val (.int p1), .val (.int p2), .val (.int p3), .val (.int p4), .val (.int p5), .val (.int p6), .val (.ref b), .val (.ref la), .val (.int (Int32.ofNat na)), .val (.int (Int32.ofNat nb)), .val (.int (Int32.ofNat nc)), .val (.int (Int32.ofNat nd)), .val (.int (Int32.ofNat ne)), .val (.int (Int32.ofNat nf)), .val (.ref ra), .unset, .unset, .unset] [])) _
    refine XS.aload X30.here hx rfl (hb hby at_237) rfl rfl ?_
    show Steps p.tables e below (T30.setTop (mkF m 239 #[.val (.int p1), .val (.int p2), .val (.int p3), .val (.int p4), .val (.int p5), .val (.int p6), .val (.ref b), .val (.ref la), .val (.int (Int32.ofNat na)), .val (.int (Int32.ofNat nb)), .val (.int (Int32.ofNat nc)), .val (.int (Int32.ofNat nd)), .val (.int (Int32.ofNat ne)), .val (.int (Int32.ofNat nf)), .val (.ref ra), .unset, .unset, .unset] [(.ref la)])) _
    refine XS.aload X30.here hx rfl (hb hby at_239) rfl rfl ?_
    show Steps p.tables e below (T30.setTop (mkF m 241 #[.val (.int p1), .val (.int p2), .val (.int p3), .val (.int p4), .val (.int p5), .val (.int p6), .val (.ref b), .val (.ref la), .val (.int (Int32.ofNat na)), .val (.int (Int32.ofNat nb)), .val (.int (Int32.ofNat nc)), .val (.int (Int32.ofNat nd)), .val (.int (Int32.ofNat ne)), .val (.int (Int32.ofNat nf)), .val (.ref ra), .unset, .unset, .unset] [(.ref ra), (.ref la)])) _
    refine XS.iconst X30.here hx rfl (hb hby at_241) ?_
    show Steps p.tables e below (T30.setTop (mkF m 242 #[.val (.int p1), .val (.int p2), .val (.int p3), .val (.int p4), .val (.int p5), .val (.int p6), .val (.ref b), .val (.ref la), .val (.int (Int32.ofNat na)), .val (.int (Int32.ofNat nb)), .val (.int (Int32.ofNat nc)), .val (.int (Int32.ofNat nd)), .val (.int (Int32.ofNat ne)), .val (.int (Int32.ofNat nf)), .val (.ref ra), .unset, .unset, .unset] [(.int (0 : Int32)), (.ref ra), (.ref la)])) _
    refine XS.iconst X30.here hx rfl (hb hby at_242) ?_
    show Steps p.tables e below (T30.setTop (mkF m 243 #[.val (.int p1), .val (.int p2), .val (.int p3), .val (.int p4), .val (.int p5), .val (.int p6), .val (.ref b), .val (.ref la), .val (.int (Int32.ofNat na)), .val (.int (Int32.ofNat nb)), .val (.int (Int32.ofNat nc)), .val (.int (Int32.ofNat nd)), .val (.int (Int32.ofNat ne)), .val (.int (Int32.ofNat nf)), .val (.ref ra), .unset, .unset, .unset] [(.int (3 : Int32)), (.int (0 : Int32)), (.ref ra), (.ref la)])) _
    refine st31 _ ?_
    show Steps p.tables e below (T31.setTop (mkF m 246 #[.val (.int p1), .val (.int p2), .val (.int p3), .val (.int p4), .val (.int p5), .val (.int p6), .val (.ref b), .val (.ref la), .val (.int (Int32.ofNat na)), .val (.int (Int32.ofNat nb)), .val (.int (Int32.ofNat nc)), .val (.int (Int32.ofNat nd)), .val (.int (Int32.ofNat ne)), .val (.int (Int32.ofNat nf)), .val (.ref ra), .unset, .unset, .unset] [(.int (1 : Int32))])) _
    refine XS.ifNo X31.here hx rfl (hb hby at_246) rfl ((if0 _ _).trans (feq (by decide)).1) ?_
    show Steps p.tables e below (T31.setTop (mkF m 249 #[.val (.int p1), .val (.int p2), .val (.int p3), .val (.int p4), .val (.int p5), .val (.int p6), .val (.ref b), .val (.ref la), .val (.int (Int32.ofNat na)), .val (.int (Int32.ofNat nb)), .val (.int (Int32.ofNat nc)), .val (.int (Int32.ofNat nd)), .val (.int (Int32.ofNat ne)), .val (.int (Int32.ofNat nf)), .val (.ref ra), .unset, .unset, .unset] [])) _
    refine XS.aload X31.here hx rfl (hb hby at_249) rfl rfl ?_
    show Steps p.tables e below (T31.setTop (mkF m 251 #[.val (.int p1), .val (.int p2), .val (.int p3), .val (.int p4), .val (.int p5), .val (.int p6), .val (.ref b), .val (.ref la), .val (.int (Int32.ofNat na)), .val (.int (Int32.ofNat nb)), .val (.int (Int32.ofNat nc)), .val (.int (Int32.ofNat nd)), .val (.int (Int32.ofNat ne)), .val (.int (Int32.ofNat nf)), .val (.ref ra), .unset, .unset, .unset] [(.ref la)])) _
    refine XS.aload X31.here hx rfl (hb hby at_251) rfl rfl ?_
    show Steps p.tables e below (T31.setTop (mkF m 253 #[.val (.int p1), .val (.int p2), .val (.int p3), .val (.int p4), .val (.int p5), .val (.int p6), .val (.ref b), .val (.ref la), .val (.int (Int32.ofNat na)), .val (.int (Int32.ofNat nb)), .val (.int (Int32.ofNat nc)), .val (.int (Int32.ofNat nd)), .val (.int (Int32.ofNat ne)), .val (.int (Int32.ofNat nf)), .val (.ref ra), .unset, .unset, .unset] [(.ref ra), (.ref la)])) _
    refine XS.iconst X31.here hx rfl (hb hby at_253) ?_
    show Steps p.tables e below (T31.setTop (mkF m 254 #[.val (.int p1), .val (.int p2), .val (.int p3), .val (.int p4), .val (.int p5), .val (.int p6), .val (.ref b), .val (.ref la), .val (.int (Int32.ofNat na)), .val (.int (Int32.ofNat nb)), .val (.int (Int32.ofNat nc)), .val (.int (Int32.ofNat nd)), .val (.int (Int32.ofNat ne)), .val (.int (Int32.ofNat nf)), .val (.ref ra), .unset, .unset, .unset] [(.int (1 : Int32)), (.ref ra), (.ref la)])) _
    refine XS.iconst X31.here hx rfl (hb hby at_254) ?_
    show Steps p.tables e below (T31.setTop (mkF m 255 #[.val (.int p1), .val (.int p2), .val (.int p3), .val (.int p4), .val (.int p5), .val (.int p6), .val (.ref b), .val (.ref la), .val (.int (Int32.ofNat na)), .val (.int (Int32.ofNat nb)), .val (.int (Int32.ofNat nc)), .val (.int (Int32.ofNat nd)), .val (.int (Int32.ofNat ne)), .val (.int (Int32.ofNat nf)), .val (.ref ra), .unset, .unset, .unset] [(.int (2 : Int32)), (.int (1 : Int32)), (.ref ra), (.ref la)])) _
    refine st32 _ ?_
    show Steps p.tables e below (T32.setTop (mkF m 258 #[.val (.int p1), .val (.int p2), .val (.int p3), .val (.int p4), .val (.int p5), .val (.int p6), .val (.ref b), .val (.ref la), .val (.int (Int32.ofNat na)), .val (.int (Int32.ofNat nb)), .val (.int (Int32.ofNat nc)), .val (.int (Int32.ofNat nd)), .val (.int (Int32.ofNat ne)), .val (.int (Int32.ofNat nf)), .val (.ref ra), .unset, .unset, .unset] [(.int (1 : Int32))])) _
    refine XS.ifNo X32.here hx rfl (hb hby at_258) rfl ((if0 _ _).trans (feq (by decide)).1) ?_
    show Steps p.tables e below (T32.setTop (mkF m 261 #[.val (.int p1), .val (.int p2), .val (.int p3), .val (.int p4), .val (.int p5), .val (.int p6), .val (.ref b), .val (.ref la), .val (.int (Int32.ofNat na)), .val (.int (Int32.ofNat nb)), .val (.int (Int32.ofNat nc)), .val (.int (Int32.ofNat nd)), .val (.int (Int32.ofNat ne)), .val (.int (Int32.ofNat nf)), .val (.ref ra), .unset, .unset, .unset] [])) _
    refine XS.aload X32.here hx rfl (hb hby at_261) rfl rfl ?_
    show Steps p.tables e below (T32.setTop (mkF m 263 #[.val (.int p1), .val (.int p2), .val (.int p3), .val (.int p4), .val (.int p5), .val (.int p6), .val (.ref b), .val (.ref la), .val (.int (Int32.ofNat na)), .val (.int (Int32.ofNat nb)), .val (.int (Int32.ofNat nc)), .val (.int (Int32.ofNat nd)), .val (.int (Int32.ofNat ne)), .val (.int (Int32.ofNat nf)), .val (.ref ra), .unset, .unset, .unset] [(.ref la)])) _
    refine XS.aload X32.here hx rfl (hb hby at_263) rfl rfl ?_
    show Steps p.tables e below (T32.setTop (mkF m 265 #[.val (.int p1), .val (.int p2), .val (.int p3), .val (.int p4), .val (.int p5), .val (.int p6), .val (.ref b), .val (.ref la), .val (.int (Int32.ofNat na)), .val (.int (Int32.ofNat nb)), .val (.int (Int32.ofNat nc)), .val (.int (Int32.ofNat nd)), .val (.int (Int32.ofNat ne)), .val (.int (Int32.ofNat nf)), .val (.ref ra), .unset, .unset, .unset] [(.ref ra), (.ref la)])) _
    refine XS.iconst X32.here hx rfl (hb hby at_265) ?_
    show Steps p.tables e below (T32.setTop (mkF m 266 #[.val (.int p1), .val (.int p2), .val (.int p3), .val (.int p4), .val (.int p5), .val (.int p6), .val (.ref b), .val (.ref la), .val (.int (Int32.ofNat na)), .val (.int (Int32.ofNat nb)), .val (.int (Int32.ofNat nc)), .val (.int (Int32.ofNat nd)), .val (.int (Int32.ofNat ne)), .val (.int (Int32.ofNat nf)), .val (.ref ra), .unset, .unset, .unset] [(.int (1 : Int32)), (.ref ra), (.ref la)])) _
    refine XS.iconst X32.here hx rfl (hb hby at_266) ?_
    show Steps p.tables e below (T32.setTop (mkF m 267 #[.val (.int p1), .val (.int p2), .val (.int p3), .val (.int p4), .val (.int p5), .val (.int p6), .val (.ref b), .val (.ref la), .val (.int (Int32.ofNat na)), .val (.int (Int32.ofNat nb)), .val (.int (Int32.ofNat nc)), .val (.int (Int32.ofNat nd)), .val (.int (Int32.ofNat ne)), .val (.int (Int32.ofNat nf)), .val (.ref ra), .unset, .unset, .unset] [(.int (3 : Int32)), (.int (1 : Int32)), (.ref ra), (.ref la)])) _
    refine st33 _ ?_
    show Steps p.tables e below (T33.setTop (mkF m 270 #[.val (.int p1), .val (.int p2), .val (.int p3), .val (.int p4), .val (.int p5), .val (.int p6), .val (.ref b), .val (.ref la), .val (.int (Int32.ofNat na)), .val (.int (Int32.ofNat nb)), .val (.int (Int32.ofNat nc)), .val (.int (Int32.ofNat nd)), .val (.int (Int32.ofNat ne)), .val (.int (Int32.ofNat nf)), .val (.ref ra), .unset, .unset, .unset] [(.int (1 : Int32))])) _
    refine XS.ifNo X33.here hx rfl (hb hby at_270) rfl ((if0 _ _).trans (feq (by decide)).1) ?_
    show Steps p.tables e below (T33.setTop (mkF m 273 #[.val (.int p1), .val (.int p2), .val (.int p3), .val (.int p4), .val (.int p5), .val (.int p6), .val (.ref b), .val (.ref la), .val (.int (Int32.ofNat na)), .val (.int (Int32.ofNat nb)), .val (.int (Int32.ofNat nc)), .val (.int (Int32.ofNat nd)), .val (.int (Int32.ofNat ne)), .val (.int (Int32.ofNat nf)), .val (.ref ra), .unset, .unset, .unset] [])) _
    refine XS.aload X33.here hx rfl (hb hby at_273) rfl rfl ?_
    show Steps p.tables e below (T33.setTop (mkF m 275 #[.val (.int p1), .val (.int p2), .val (.int p3), .val (.int p4), .val (.int p5), .val (.int p6), .val (.ref b), .val (.ref la), .val (.int (Int32.ofNat na)), .val (.int (Int32.ofNat nb)), .val (.int (Int32.ofNat nc)), .val (.int (Int32.ofNat nd)), .val (.int (Int32.ofNat ne)), .val (.int (Int32.ofNat nf)), .val (.ref ra), .unset, .unset, .unset] [(.ref la)])) _
    refine XS.aload X33.here hx rfl (hb hby at_275) rfl rfl ?_
    show Steps p.tables e below (T33.setTop (mkF m 277 #[.val (.int p1), .val (.int p2), .val (.int p3), .val (.int p4), .val (.int p5), .val (.int p6), .val (.ref b), .val (.ref la), .val (.int (Int32.ofNat na)), .val (.int (Int32.ofNat nb)), .val (.int (Int32.ofNat nc)), .val (.int (Int32.ofNat nd)), .val (.int (Int32.ofNat ne)), .val (.int (Int32.ofNat nf)), .val (.ref ra), .unset, .unset, .unset] [(.ref ra), (.ref la)])) _
    refine XS.iconst X33.here hx rfl (hb hby at_277) ?_
    show Steps p.tables e below (T33.setTop (mkF m 278 #[.val (.int p1), .val (.int p2), .val (.int p3), .val (.int p4), .val (.int p5), .val (.int p6), .val (.ref b), .val (.ref la), .val (.int (Int32.ofNat na)), .val (.int (Int32.ofNat nb)), .val (.int (Int32.ofNat nc)), .val (.int (Int32.ofNat nd)), .val (.int (Int32.ofNat ne)), .val (.int (Int32.ofNat nf)), .val (.ref ra), .unset, .unset, .unset] [(.int (2 : Int32)), (.ref ra), (.ref la)])) _
    refine XS.iconst X33.here hx rfl (hb hby at_278) ?_
    show Steps p.tables e below (T33.setTop (mkF m 279 #[.val (.int p1), .val (.int p2), .val (.int p3), .val (.int p4), .val (.int p5), .val (.int p6), .val (.ref b), .val (.ref la), .val (.int (Int32.ofNat na)), .val (.int (Int32.ofNat nb)), .val (.int (Int32.ofNat nc)), .val (.int (Int32.ofNat nd)), .val (.int (Int32.ofNat ne)), .val (.int (Int32.ofNat nf)), .val (.ref ra), .unset, .unset, .unset] [(.int (3 : Int32)), (.int (2 : Int32)), (.ref ra), (.ref la)])) _
    refine st34 _ ?_
    show Steps p.tables e below (T34.setTop (mkF m 282 #[.val (.int p1), .val (.int p2), .val (.int p3), .val (.int p4), .val (.int p5), .val (.int p6), .val (.ref b), .val (.ref la), .val (.int (Int32.ofNat na)), .val (.int (Int32.ofNat nb)), .val (.int (Int32.ofNat nc)), .val (.int (Int32.ofNat nd)), .val (.int (Int32.ofNat ne)), .val (.int (Int32.ofNat nf)), .val (.ref ra), .unset, .unset, .unset] [(.int (1 : Int32))])) _
    refine XS.ifNo X34.here hx rfl (hb hby at_282) rfl ((if0 _ _).trans (feq (by decide)).1) ?_
    show Steps p.tables e below (T34.setTop (mkF m 285 #[.val (.int p1), .val (.int p2), .val (.int p3), .val (.int p4), .val (.int p5), .val (.int p6), .val (.ref b), .val (.ref la), .val (.int (Int32.ofNat na)), .val (.int (Int32.ofNat nb)), .val (.int (Int32.ofNat nc)), .val (.int (Int32.ofNat nd)), .val (.int (Int32.ofNat ne)), .val (.int (Int32.ofNat nf)), .val (.ref ra), .unset, .unset, .unset] [])) _
    refine XS.iconst X34.here hx rfl (hb hby at_285) ?_
    show Steps p.tables e below (T34.setTop (mkF m 286 #[.val (.int p1), .val (.int p2), .val (.int p3), .val (.int p4), .val (.int p5), .val (.int p6), .val (.ref b), .val (.ref la), .val (.int (Int32.ofNat na)), .val (.int (Int32.ofNat nb)), .val (.int (Int32.ofNat nc)), .val (.int (Int32.ofNat nd)), .val (.int (Int32.ofNat ne)), .val (.int (Int32.ofNat nf)), .val (.ref ra), .unset, .unset, .unset] [(.int (1 : Int32))])) _
    refine XS.goto X34.here hx rfl (pc0 := 286) (pc' := 290) rfl (hb hby at_286) (by decide) (by decide) ?_
    show Steps p.tables e below (T34.setTop (mkF m 290 #[.val (.int p1), .val (.int p2), .val (.int p3), .val (.int p4), .val (.int p5), .val (.int p6), .val (.ref b), .val (.ref la), .val (.int (Int32.ofNat na)), .val (.int (Int32.ofNat nb)), .val (.int (Int32.ofNat nc)), .val (.int (Int32.ofNat nd)), .val (.int (Int32.ofNat ne)), .val (.int (Int32.ofNat nf)), .val (.ref ra), .unset, .unset, .unset] [(.int (1 : Int32))])) _
    refine XS.istore X34.here hx rfl (hb hby at_290) rfl (l' := #[.val (.int p1), .val (.int p2), .val (.int p3), .val (.int p4), .val (.int p5), .val (.int p6), .val (.ref b), .val (.ref la), .val (.int (Int32.ofNat na)), .val (.int (Int32.ofNat nb)), .val (.int (Int32.ofNat nc)), .val (.int (Int32.ofNat nd)), .val (.int (Int32.ofNat ne)), .val (.int (Int32.ofNat nf)), .val (.ref ra), .val (.int (1 : Int32)), .unset, .unset]) rfl ?_
    show Steps p.tables e below (T34.setTop (mkF m 292 #[.val (.int p1), .val (.int p2), .val (.int p3), .val (.int p4), .val (.int p5), .val (.int p6), .val (.ref b), .val (.ref la), .val (.int (Int32.ofNat na)), .val (.int (Int32.ofNat nb)), .val (.int (Int32.ofNat nc)), .val (.int (Int32.ofNat nd)), .val (.int (Int32.ofNat ne)), .val (.int (Int32.ofNat nf)), .val (.ref ra), .val (.int (1 : Int32)), .unset, .unset] [])) _
    refine XS.iloadN X34.here hx rfl (hb hby at_292) rfl ?_
    show Steps p.tables e below (T34.setTop (mkF m 293 #[.val (.int p1), .val (.int p2), .val (.int p3), .val (.int p4), .val (.int p5), .val (.int p6), .val (.ref b), .val (.ref la), .val (.int (Int32.ofNat na)), .val (.int (Int32.ofNat nb)), .val (.int (Int32.ofNat nc)), .val (.int (Int32.ofNat nd)), .val (.int (Int32.ofNat ne)), .val (.int (Int32.ofNat nf)), .val (.ref ra), .val (.int (1 : Int32)), .unset, .unset] [(.int p1)])) _
    refine XS.iconst X34.here hx rfl (hb hby at_293) ?_
    show Steps p.tables e below (T34.setTop (mkF m 294 #[.val (.int p1), .val (.int p2), .val (.int p3), .val (.int p4), .val (.int p5), .val (.int p6), .val (.ref b), .val (.ref la), .val (.int (Int32.ofNat na)), .val (.int (Int32.ofNat nb)), .val (.int (Int32.ofNat nc)), .val (.int (Int32.ofNat nd)), .val (.int (Int32.ofNat ne)), .val (.int (Int32.ofNat nf)), .val (.ref ra), .val (.int (1 : Int32)), .unset, .unset] [(.int (2 : Int32)), (.int p1)])) _
    refine XS.iushr X34.here hx rfl (hb hby at_294) rfl ?_
    show Steps p.tables e below (T34.setTop (mkF m 295 #[.val (.int p1), .val (.int p2), .val (.int p3), .val (.int p4), .val (.int p5), .val (.int p6), .val (.ref b), .val (.ref la), .val (.int (Int32.ofNat na)), .val (.int (Int32.ofNat nb)), .val (.int (Int32.ofNat nc)), .val (.int (Int32.ofNat nd)), .val (.int (Int32.ofNat ne)), .val (.int (Int32.ofNat nf)), .val (.ref ra), .val (.int (1 : Int32)), .unset, .unset] [(.int ((p1.toUInt32 >>> ((2 : Int32) &&& 31).toUInt32).toInt32))])) _
    refine XS.iconst X34.here hx rfl (hb hby at_295) ?_
    show Steps p.tables e below (T34.setTop (mkF m 296 #[.val (.int p1), .val (.int p2), .val (.int p3), .val (.int p4), .val (.int p5), .val (.int p6), .val (.ref b), .val (.ref la), .val (.int (Int32.ofNat na)), .val (.int (Int32.ofNat nb)), .val (.int (Int32.ofNat nc)), .val (.int (Int32.ofNat nd)), .val (.int (Int32.ofNat ne)), .val (.int (Int32.ofNat nf)), .val (.ref ra), .val (.int (1 : Int32)), .unset, .unset] [(.int (3 : Int32)), (.int ((p1.toUInt32 >>> ((2 : Int32) &&& 31).toUInt32).toInt32))])) _
    refine XS.iand X34.here hx rfl (hb hby at_296) rfl ?_
    show Steps p.tables e below (T34.setTop (mkF m 297 #[.val (.int p1), .val (.int p2), .val (.int p3), .val (.int p4), .val (.int p5), .val (.int p6), .val (.ref b), .val (.ref la), .val (.int (Int32.ofNat na)), .val (.int (Int32.ofNat nb)), .val (.int (Int32.ofNat nc)), .val (.int (Int32.ofNat nd)), .val (.int (Int32.ofNat ne)), .val (.int (Int32.ofNat nf)), .val (.ref ra), .val (.int (1 : Int32)), .unset, .unset] [(.int (((p1.toUInt32 >>> ((2 : Int32) &&& 31).toUInt32).toInt32) &&& (3 : Int32)))])) _
    rw [enx]
    show Steps p.tables e below (T34.setTop (mkF m 297 #[.val (.int p1), .val (.int p2), .val (.int p3), .val (.int p4), .val (.int p5), .val (.int p6), .val (.ref b), .val (.ref la), .val (.int (Int32.ofNat na)), .val (.int (Int32.ofNat nb)), .val (.int (Int32.ofNat nc)), .val (.int (Int32.ofNat nd)), .val (.int (Int32.ofNat ne)), .val (.int (Int32.ofNat nf)), .val (.ref ra), .val (.int (1 : Int32)), .unset, .unset] [(.int (Int32.ofNat nx))])) _
    refine XS.istore X34.here hx rfl (hb hby at_297) rfl (l' := #[.val (.int p1), .val (.int p2), .val (.int p3), .val (.int p4), .val (.int p5), .val (.int p6), .val (.ref b), .val (.ref la), .val (.int (Int32.ofNat na)), .val (.int (Int32.ofNat nb)), .val (.int (Int32.ofNat nc)), .val (.int (Int32.ofNat nd)), .val (.int (Int32.ofNat ne)), .val (.int (Int32.ofNat nf)), .val (.ref ra), .val (.int (1 : Int32)), .val (.int (Int32.ofNat nx)), .unset]) rfl ?_
    show Steps p.tables e below (T34.setTop (mkF m 299 #[.val (.int p1), .val (.int p2), .val (.int p3), .val (.int p4), .val (.int p5), .val (.int p6), .val (.ref b), .val (.ref la), .val (.int (Int32.ofNat na)), .val (.int (Int32.ofNat nb)), .val (.int (Int32.ofNat nc)), .val (.int (Int32.ofNat nd)), .val (.int (Int32.ofNat ne)), .val (.int (Int32.ofNat nf)), .val (.ref ra), .val (.int (1 : Int32)), .val (.int (Int32.ofNat nx)), .unset] [])) _
    refine XS.aload X34.here hx rfl (hb hby at_299) rfl rfl ?_
    show Steps p.tables e below (T34.setTop (mkF m 301 #[.val (.int p1), .val (.int p2), .val (.int p3), .val (.int p4), .val (.int p5), .val (.int p6), .val (.ref b), .val (.ref la), .val (.int (Int32.ofNat na)), .val (.int (Int32.ofNat nb)), .val (.int (Int32.ofNat nc)), .val (.int (Int32.ofNat nd)), .val (.int (Int32.ofNat ne)), .val (.int (Int32.ofNat nf)), .val (.ref ra), .val (.int (1 : Int32)), .val (.int (Int32.ofNat nx)), .unset] [(.ref b)])) _
    refine XS.aload X34.here hx rfl (hb hby at_301) rfl rfl ?_
    show Steps p.tables e below (T34.setTop (mkF m 303 #[.val (.int p1), .val (.int p2), .val (.int p3), .val (.int p4), .val (.int p5), .val (.int p6), .val (.ref b), .val (.ref la), .val (.int (Int32.ofNat na)), .val (.int (Int32.ofNat nb)), .val (.int (Int32.ofNat nc)), .val (.int (Int32.ofNat nd)), .val (.int (Int32.ofNat ne)), .val (.int (Int32.ofNat nf)), .val (.ref ra), .val (.int (1 : Int32)), .val (.int (Int32.ofNat nx)), .unset] [(.ref ra), (.ref b)])) _
    refine XS.iload X34.here hx rfl (hb hby at_303) rfl ?_
    show Steps p.tables e below (T34.setTop (mkF m 305 #[.val (.int p1), .val (.int p2), .val (.int p3), .val (.int p4), .val (.int p5), .val (.int p6), .val (.ref b), .val (.ref la), .val (.int (Int32.ofNat na)), .val (.int (Int32.ofNat nb)), .val (.int (Int32.ofNat nc)), .val (.int (Int32.ofNat nd)), .val (.int (Int32.ofNat ne)), .val (.int (Int32.ofNat nf)), .val (.ref ra), .val (.int (1 : Int32)), .val (.int (Int32.ofNat nx)), .unset] [(.int (Int32.ofNat nx)), (.ref ra), (.ref b)])) _
    refine X34.iaload hx (j := (Int32.ofNat nx)) (v := (.int (Int32.ofNat rx))) Ar90.1 (State.isArrayOf_alike hZ.alike Ar90.2.1) Ar90.2.2 (own_in S90 (by omega) (by omega)) (own_at H90 (by omega) (by omega) hrx) (g := (mkF m 305 #[.val (.int p1), .val (.int p2), .val (.int p3), .val (.int p4), .val (.int p5), .val (.int p6), .val (.ref b), .val (.ref la), .val (.int (Int32.ofNat na)), .val (.int (Int32.ofNat nb)), .val (.int (Int32.ofNat nc)), .val (.int (Int32.ofNat nd)), .val (.int (Int32.ofNat ne)), .val (.int (Int32.ofNat nf)), .val (.ref ra), .val (.int (1 : Int32)), .val (.int (Int32.ofNat nx)), .unset] [(.int (Int32.ofNat nx)), (.ref ra), (.ref b)])) rfl rfl (hb hby at_305) _ ?_
    show Steps p.tables e below (T34.setTop (mkF m 306 #[.val (.int p1), .val (.int p2), .val (.int p3), .val (.int p4), .val (.int p5), .val (.int p6), .val (.ref b), .val (.ref la), .val (.int (Int32.ofNat na)), .val (.int (Int32.ofNat nb)), .val (.int (Int32.ofNat nc)), .val (.int (Int32.ofNat nd)), .val (.int (Int32.ofNat ne)), .val (.int (Int32.ofNat nf)), .val (.ref ra), .val (.int (1 : Int32)), .val (.int (Int32.ofNat nx)), .unset] [(.int (Int32.ofNat rx)), (.ref b)])) _
    refine st35 _ ?_
    show Steps p.tables e below (T35.setTop (mkF m 309 #[.val (.int p1), .val (.int p2), .val (.int p3), .val (.int p4), .val (.int p5), .val (.int p6), .val (.ref b), .val (.ref la), .val (.int (Int32.ofNat na)), .val (.int (Int32.ofNat nb)), .val (.int (Int32.ofNat nc)), .val (.int (Int32.ofNat nd)), .val (.int (Int32.ofNat ne)), .val (.int (Int32.ofNat nf)), .val (.ref ra), .val (.int (1 : Int32)), .val (.int (Int32.ofNat nx)), .unset] [(.int (Int32.ofNat ry))])) _
    refine XS.istore X35.here hx rfl (hb hby at_309) rfl (l' := #[.val (.int p1), .val (.int p2), .val (.int p3), .val (.int p4), .val (.int p5), .val (.int p6), .val (.ref b), .val (.ref la), .val (.int (Int32.ofNat na)), .val (.int (Int32.ofNat nb)), .val (.int (Int32.ofNat nc)), .val (.int (Int32.ofNat nd)), .val (.int (Int32.ofNat ne)), .val (.int (Int32.ofNat nf)), .val (.ref ra), .val (.int (1 : Int32)), .val (.int (Int32.ofNat nx)), .val (.int (Int32.ofNat ry))]) rfl ?_
    show Steps p.tables e below (T35.setTop (mkF m 311 #[.val (.int p1), .val (.int p2), .val (.int p3), .val (.int p4), .val (.int p5), .val (.int p6), .val (.ref b), .val (.ref la), .val (.int (Int32.ofNat na)), .val (.int (Int32.ofNat nb)), .val (.int (Int32.ofNat nc)), .val (.int (Int32.ofNat nd)), .val (.int (Int32.ofNat ne)), .val (.int (Int32.ofNat nf)), .val (.ref ra), .val (.int (1 : Int32)), .val (.int (Int32.ofNat nx)), .val (.int (Int32.ofNat ry))] [])) _
    refine XS.iload X35.here hx rfl (hb hby at_311) rfl ?_
    show Steps p.tables e below (T35.setTop (mkF m 313 #[.val (.int p1), .val (.int p2), .val (.int p3), .val (.int p4), .val (.int p5), .val (.int p6), .val (.ref b), .val (.ref la), .val (.int (Int32.ofNat na)), .val (.int (Int32.ofNat nb)), .val (.int (Int32.ofNat nc)), .val (.int (Int32.ofNat nd)), .val (.int (Int32.ofNat ne)), .val (.int (Int32.ofNat nf)), .val (.ref ra), .val (.int (1 : Int32)), .val (.int (Int32.ofNat nx)), .val (.int (Int32.ofNat ry))] [(.int (1 : Int32))])) _
    refine XS.ifNo X35.here hx rfl (hb hby at_313) rfl ((if0 _ _).trans (feq (by decide)).1) ?_
    show Steps p.tables e below (T35.setTop (mkF m 316 #[.val (.int p1), .val (.int p2), .val (.int p3), .val (.int p4), .val (.int p5), .val (.int p6), .val (.ref b), .val (.ref la), .val (.int (Int32.ofNat na)), .val (.int (Int32.ofNat nb)), .val (.int (Int32.ofNat nc)), .val (.int (Int32.ofNat nd)), .val (.int (Int32.ofNat ne)), .val (.int (Int32.ofNat nf)), .val (.ref ra), .val (.int (1 : Int32)), .val (.int (Int32.ofNat nx)), .val (.int (Int32.ofNat ry))] [])) _
    refine XS.iload X35.here hx rfl (hb hby at_316) rfl ?_
    show Steps p.tables e below (T35.setTop (mkF m 318 #[.val (.int p1), .val (.int p2), .val (.int p3), .val (.int p4), .val (.int p5), .val (.int p6), .val (.ref b), .val (.ref la), .val (.int (Int32.ofNat na)), .val (.int (Int32.ofNat nb)), .val (.int (Int32.ofNat nc)), .val (.int (Int32.ofNat nd)), .val (.int (Int32.ofNat ne)), .val (.int (Int32.ofNat nf)), .val (.ref ra), .val (.int (1 : Int32)), .val (.int (Int32.ofNat nx)), .val (.int (Int32.ofNat ry))] [(.int (Int32.ofNat ry))])) _
    refine XS.aload X35.here hx rfl (hb hby at_318) rfl rfl ?_
    show Steps p.tables e below (T35.setTop (mkF m 320 #[.val (.int p1), .val (.int p2), .val (.int p3), .val (.int p4), .val (.int p5), .val (.int p6), .val (.ref b), .val (.ref la), .val (.int (Int32.ofNat na)), .val (.int (Int32.ofNat nb)), .val (.int (Int32.ofNat nc)), .val (.int (Int32.ofNat nd)), .val (.int (Int32.ofNat ne)), .val (.int (Int32.ofNat nf)), .val (.ref ra), .val (.int (1 : Int32)), .val (.int (Int32.ofNat nx)), .val (.int (Int32.ofNat ry))] [(.ref ra), (.int (Int32.ofNat ry))])) _
    refine XS.iload X35.here hx rfl (hb hby at_320) rfl ?_
    show Steps p.tables e below (T35.setTop (mkF m 322 #[.val (.int p1), .val (.int p2), .val (.int p3), .val (.int p4), .val (.int p5), .val (.int p6), .val (.ref b), .val (.ref la), .val (.int (Int32.ofNat na)), .val (.int (Int32.ofNat nb)), .val (.int (Int32.ofNat nc)), .val (.int (Int32.ofNat nd)), .val (.int (Int32.ofNat ne)), .val (.int (Int32.ofNat nf)), .val (.ref ra), .val (.int (1 : Int32)), .val (.int (Int32.ofNat nx)), .val (.int (Int32.ofNat ry))] [(.int (Int32.ofNat nx)), (.ref ra), (.int (Int32.ofNat ry))])) _
    refine X35.iaload hx (j := (Int32.ofNat nx)) (v := (.int (Int32.ofNat rx))) Ar91.1 (State.isArrayOf_alike hZ.alike Ar91.2.1) Ar91.2.2 (own_in S91 (by omega) (by omega)) (own_at H91 (by omega) (by omega) hrx) (g := (mkF m 322 #[.val (.int p1), .val (.int p2), .val (.int p3), .val (.int p4), .val (.int p5), .val (.int p6), .val (.ref b), .val (.ref la), .val (.int (Int32.ofNat na)), .val (.int (Int32.ofNat nb)), .val (.int (Int32.ofNat nc)), .val (.int (Int32.ofNat nd)), .val (.int (Int32.ofNat ne)), .val (.int (Int32.ofNat nf)), .val (.ref ra), .val (.int (1 : Int32)), .val (.int (Int32.ofNat nx)), .val (.int (Int32.ofNat ry))] [(.int (Int32.ofNat nx)), (.ref ra), (.int (Int32.ofNat ry))])) rfl rfl (hb hby at_322) _ ?_
    show Steps p.tables e below (T35.setTop (mkF m 323 #[.val (.int p1), .val (.int p2), .val (.int p3), .val (.int p4), .val (.int p5), .val (.int p6), .val (.ref b), .val (.ref la), .val (.int (Int32.ofNat na)), .val (.int (Int32.ofNat nb)), .val (.int (Int32.ofNat nc)), .val (.int (Int32.ofNat nd)), .val (.int (Int32.ofNat ne)), .val (.int (Int32.ofNat nf)), .val (.ref ra), .val (.int (1 : Int32)), .val (.int (Int32.ofNat nx)), .val (.int (Int32.ofNat ry))] [(.int (Int32.ofNat rx)), (.int (Int32.ofNat ry))])) _
    refine XS.icmpNo X35.here hx rfl (hb hby at_323) rfl (teq hxy).2 ?_
    show Steps p.tables e below (T35.setTop (mkF m 326 #[.val (.int p1), .val (.int p2), .val (.int p3), .val (.int p4), .val (.int p5), .val (.int p6), .val (.ref b), .val (.ref la), .val (.int (Int32.ofNat na)), .val (.int (Int32.ofNat nb)), .val (.int (Int32.ofNat nc)), .val (.int (Int32.ofNat nd)), .val (.int (Int32.ofNat ne)), .val (.int (Int32.ofNat nf)), .val (.ref ra), .val (.int (1 : Int32)), .val (.int (Int32.ofNat nx)), .val (.int (Int32.ofNat ry))] [])) _
    refine XS.iconst X35.here hx rfl (hb hby at_326) ?_
    show Steps p.tables e below (T35.setTop (mkF m 327 #[.val (.int p1), .val (.int p2), .val (.int p3), .val (.int p4), .val (.int p5), .val (.int p6), .val (.ref b), .val (.ref la), .val (.int (Int32.ofNat na)), .val (.int (Int32.ofNat nb)), .val (.int (Int32.ofNat nc)), .val (.int (Int32.ofNat nd)), .val (.int (Int32.ofNat ne)), .val (.int (Int32.ofNat nf)), .val (.ref ra), .val (.int (1 : Int32)), .val (.int (Int32.ofNat nx)), .val (.int (Int32.ofNat ry))] [(.int (1 : Int32))])) _
    refine XS.goto X35.here hx rfl (pc0 := 327) (pc' := 331) rfl (hb hby at_327) (by decide) (by decide) ?_
    show Steps p.tables e below (T35.setTop (mkF m 331 #[.val (.int p1), .val (.int p2), .val (.int p3), .val (.int p4), .val (.int p5), .val (.int p6), .val (.ref b), .val (.ref la), .val (.int (Int32.ofNat na)), .val (.int (Int32.ofNat nb)), .val (.int (Int32.ofNat nc)), .val (.int (Int32.ofNat nd)), .val (.int (Int32.ofNat ne)), .val (.int (Int32.ofNat nf)), .val (.ref ra), .val (.int (1 : Int32)), .val (.int (Int32.ofNat nx)), .val (.int (Int32.ofNat ry))] [(.int (1 : Int32))])) _
    exact retN X35 hx (t := .boolean) Bd.returns (by simp) (hb hby at_331) hr
  · show Q0 Z p1 p2 p3 p4 p5 p6 h0 n0 _ T35.heap _
    exact ⟨rfl, N35⟩
set_option maxRecDepth 65536 in
set_option maxHeartbeats 40000000 in
theorem comes_1 {Post : Tables → Env → Array Value → State → Outcome → State → Prop} (hpost : ∀ tb e args s v u, (limb_1_1.after args s (.returned v) u = true ∧ limb_1_2.after args s (.returned v) u = true ∧ True) → FrameEnd s (.returned v) u (Jvm.fieldLocs frame_1_writes args s ++ Jvm.arrayLocs frame_1_arrays args s ++ Jvm.staticLocs frame_1_statics s) 16 128 → Post tb e args s (.returned v) u) :
    ArmFor flags0 classFile x code maxLocals ret World_1 tables_1 room_1 Calls_1 rest_1 Pre_1 Post := by
  intro l hfl _ _ p e ha hc hk s m args below hf hA hF happ hP
  obtain ⟨hcalls, hrest, hpre⟩ := hP
  obtain ⟨-, -, -, hnamed, -, -, -, hat⟩ := (Spec.applies_iff hf).mp happ
  obtain ⟨hg, hn⟩ := and_e (Cond.before_iff.mp (show (Jvm.Cond.and given_1 narrow_1).before args s = true from hpre))
  obtain ⟨g1, k1⟩ := and_e hg
  obtain ⟨g2, k2⟩ := and_e k1
  obtain ⟨g3, k3⟩ := and_e k2
  obtain ⟨g4, k4⟩ := and_e k3
  obtain ⟨g5, k5⟩ := and_e k4
  obtain ⟨g6, g7⟩ := and_e k5
  obtain ⟨w0, w1, w2, w3, w4, w5, rfl⟩ : ∃ w0 w1 w2 w3 w4 w5 : Value, args = #[w0, w1, w2, w3, w4, w5] := by
    have hs : args.size = 6 := by simpa [Cond.value, given_1] using g1
    obtain ⟨L⟩ := args
    match L, hs with
    | [w0, w1, w2, w3, w4, w5], _ => exact ⟨w0, w1, w2, w3, w4, w5, rfl⟩
  have hw := fun d (hd : d ∈ tables_1) => atoms_spec (ws := Jvm.Cond.code x code maxLocals ret :: tables_1) hat d (List.mem_cons_of_mem _ hd)
  have hfit : Fit s := fun {y c} hc i hi => by
    obtain ⟨ha, rfl⟩ := Array.getElem?_eq_some_iff.mp hc
    have q := List.all_eq_true.mp ((Array.all_eq_true_iff_forall_mem.mp hF) _ (Array.getElem_mem ha)) i (List.mem_range.mpr hi)
    simpa [Array.getElem?_eq_getElem hi] using q
  obtain ⟨i0, ei0⟩ := is_v g2
  obtain rfl : w0 = (.int i0) := Option.some.inj ei0
  obtain ⟨i1, ei1⟩ := is_v g3
  obtain rfl : w1 = (.int i1) := Option.some.inj ei1
  obtain ⟨i2, ei2⟩ := is_v g4
  obtain rfl : w2 = (.int i2) := Option.some.inj ei2
  obtain ⟨i3, ei3⟩ := is_v g5
  obtain rfl : w3 = (.int i3) := Option.some.inj ei3
  obtain ⟨i4, ei4⟩ := is_v g6
  obtain rfl : w4 = (.int i4) := Option.some.inj ei4
  obtain ⟨i5, ei5⟩ := is_v g7
  obtain rfl : w5 = (.int i5) := Option.some.inj ei5
  obtain ⟨n, o, h1, h2, h3, _, L, rfl, ⟨rfl, N⟩, hq⟩ := rm0 l s _ hw tables_1 i0 i1 i2 i3 i4 i5 s.heap s.heap.size (Nat.le_refl _) p e ha hc hk s m _ below hf ((Spec.applies_iff_loose hf).mp happ).1 ⟨rfl, State.Warmed39.refl s, rfl⟩ trivial
  refine ⟨n, _, h1, h2, h3, hpost _ _ _ _ _ _ ⟨Cond.after_iff.mpr rfl, Cond.after_iff.mpr (eq_i res_at (Term.int_eval (1)) rfl), trivial⟩ ⟨hq.1, hq.2.1, (hq.2.2.sift fun y hy => Or.inr (N y hy)).mono (by decide) (by decide)⟩⟩
theorem main_1_1 : Claimed_1_1 := comes_1 fun _ _ _ _ _ _ h hF => ⟨h.1, hF⟩
theorem main_1_2 : Claimed_1_2 := comes_1 fun _ _ _ _ _ _ h hF => ⟨h.2.1, hF⟩
end Jvm.Pilot.@@N@@
namespace Jvm.Pilot.@@N@@
open Jvm Jvm.ClassFile Sem Op Lib Jvm.Free Jvm.Stand Jvm.Pilot.@@N@@.Jvm.D
/-! MADE BY PROGRAM (witnessworld.py) out of the Statement's table words and the real class files: 10 classes; the members and pool entries that the words name. The judged class is class 1, her method 4. -/
namespace start1
open Jvm.ClassFile
def u (s : String) : CpInfo := .utf8 (stringToUtf16 s)
/-- a pool by its gaps: so many unusable entries, then the entry; so many at the end -/
def gap : Nat → List CpInfo → List CpInfo
  | 0, r => r
  | n + 1, r => .unusable :: gap n r
def poolList (es : List (Nat × CpInfo)) (last : Nat) : List CpInfo := es.foldr (fun e r => gap e.1 (e.2 :: r)) (gap last [])
def pool (es : List (Nat × CpInfo)) (last : Nat) : Array CpInfo := ⟨poolList es last⟩
def fileOf (pool : Array CpInfo) (this : Nat) (attrs : Array Attribute := #[]) (ms : Array MethodInfo := #[]) (fl : Nat := 33) (sup : Nat := 0) (ifs : Array Nat := #[]) (fds : Array FieldInfo := #[]) : ClassFile where
  minorVersion := 0
  majorVersion := 65
  constantPool := pool
  accessFlags := fl
  thisClass := this
  superClass := sup
  interfaces := ifs
  fields := fds
  methods := ms
  attributes := attrs
def plain (name : String) (sup : Option ClassId) : Class where
  name := name
  kind := .ordinary
  loader := none
  accessFlags := 33
  super := sup
  interfaces := #[]
  cf := none
  fields := #[]
  methods := #[]
  instanceTypes := #[]
  staticTypes := #[]
  resolved := #[]
  callSites := []
  init := .initialized
  statics := none
  mirror := none

def pool0 : Array CpInfo := pool [(5, u "<init>"), (0, u "()V"), (1, .class_ 10), (1, u "java/lang/Object")] 113

def k0c0 : Code := { maxStack := 0, maxLocals := 1, code := object_method_1_code, exceptionTable := #[], attributes := #[] }
def k0m0 : Method := { name := "<init>", desc := "()V", sig := { parameters := [], returnType := none }, accessFlags := 1, code := some k0c0 }
/-- java/lang/Object -/
def k0 : Class := { plain "java/lang/Object" none with
  accessFlags := 33
  interfaces := #[]
  cf := some (fileOf pool0 8 #[] #[{ accessFlags := 1, nameIndex := 5, descriptorIndex := 6, attributes := #[] }] 33 0 #[] #[])
  fields := #[]
  methods := #[k0m0]
  instanceTypes := #[]
  staticTypes := #[]
  resolved := Array.replicate 124 none
  statics := none }

def pool1 : Array CpInfo := pool [(2, .class_ 4), (0, .nameAndType 5 6), (0, u "java/lang/Object"), (0, u "<init>"), (0, u "()V"), (0, .class_ 8), (0, u "com/example/allotree/allotree/Components"), (0, .methodref 7 3), (0, .methodref 7 11), (0, .nameAndType 12 13), (0, u "addVertices"), (0, u "(I)V"), (0, .methodref 7 15), (0, .nameAndType 16 17), (0, u "join"), (0, u "(II)V"), (0, .methodref 19 20), (0, .class_ 21), (0, .nameAndType 22 23), (0, u "com/example/allotree/allotree/ComponentsFindPinLaw"), (0, u "merge"), (0, u "([III)V"), (0, .methodref 7 25), (0, .nameAndType 26 27), (0, u "find"), (0, u "(I)I"), (0, .methodref 19 29), (0, .nameAndType 30 31), (0, u "inPart"), (0, u "([I[II)Z"), (0, .methodref 19 33), (0, .nameAndType 34 35), (0, u "pair"), (0, u "([I[III)Z"), (5, u "law"), (0, u "(IIIIII)Z")] 2

def k1m0 : Method := { name := "<init>", desc := "()V", sig := { parameters := [], returnType := none }, accessFlags := 1, code := none }
def k1c1 : Code := { maxStack := 3, maxLocals := 5, code := method_2_code, exceptionTable := #[], attributes := #[] }
def k1m1 : Method := { name := "merge", desc := "([III)V", sig := { parameters := [(.array .int), .int, .int], returnType := none }, accessFlags := 10, code := some k1c1 }
def k1c2 : Code := { maxStack := 3, maxLocals := 4, code := method_3_code, exceptionTable := #[], attributes := #[] }
def k1m2 : Method := { name := "inPart", desc := "([I[II)Z", sig := { parameters := [(.array .int), (.array .int), .int], returnType := some .boolean }, accessFlags := 10, code := some k1c2 }
def k1c3 : Code := { maxStack := 4, maxLocals := 4, code := method_4_code, exceptionTable := #[], attributes := #[] }
def k1m3 : Method := { name := "pair", desc := "([I[III)Z", sig := { parameters := [(.array .int), (.array .int), .int, .int], returnType := some .boolean }, accessFlags := 10, code := some k1c3 }
def k1c4 : Code := { maxStack := 4, maxLocals := 18, code := code, exceptionTable := #[], attributes := #[] }
def k1m4 : Method := { name := "law", desc := "(IIIIII)Z", sig := { parameters := [.int, .int, .int, .int, .int, .int], returnType := some .boolean }, accessFlags := 9, code := some k1c4 }
/-- com/example/allotree/allotree/ComponentsFindPinLaw -/
def k1 : Class := { plain "com/example/allotree/allotree/ComponentsFindPinLaw" (some 0) with
  accessFlags := 49
  interfaces := #[]
  cf := some (fileOf pool1 19 #[] #[{ accessFlags := 1, nameIndex := 5, descriptorIndex := 6, attributes := #[] }, { accessFlags := 10, nameIndex := 22, descriptorIndex := 23, attributes := #[] }, { accessFlags := 10, nameIndex := 30, descriptorIndex := 31, attributes := #[] }, { accessFlags := 10, nameIndex := 34, descriptorIndex := 35, attributes := #[] }, { accessFlags := 9, nameIndex := 41, descriptorIndex := 42, attributes := #[] }] 49 2 #[] #[])
  fields := #[]
  methods := #[k1m0, k1m1, k1m2, k1m3, k1m4]
  instanceTypes := #[]
  staticTypes := #[]
  resolved := Array.replicate 45 none
  statics := none }

def pool2 : Array CpInfo := pool [(1, .methodref 2 3), (0, .class_ 4), (0, .nameAndType 5 6), (0, u "java/lang/Object"), (0, u "<init>"), (0, u "()V"), (0, .fieldref 8 9), (0, .class_ 10), (0, .nameAndType 11 12), (0, u "com/example/allotree/allotree/Components"), (0, u "parent"), (0, u "[I"), (7, .class_ 22), (1, u "java/util/Arrays"), (2, .fieldref 8 26), (0, .nameAndType 27 28), (0, u "vertexCount"), (0, u "I"), (0, .methodref 20 30), (0, .nameAndType 31 32), (0, u "fill"), (0, u "([IIII)V"), (0, .methodref 8 34), (0, .nameAndType 35 36), (0, u "find"), (0, u "(I)I"), (2, u "addVertices"), (0, u "(I)V"), (1, u "join"), (0, u "(II)V")] 2

def k2c0 : Code := { maxStack := 2, maxLocals := 1, code := prog_2_method_1_code, exceptionTable := #[], attributes := #[] }
def k2m0 : Method := { name := "<init>", desc := "()V", sig := { parameters := [], returnType := none }, accessFlags := 0, code := some k2c0 }
def k2c1 : Code := { maxStack := 5, maxLocals := 2, code := prog_2_method_2_code, exceptionTable := #[], attributes := #[] }
def k2m1 : Method := { name := "addVertices", desc := "(I)V", sig := { parameters := [.int], returnType := none }, accessFlags := 0, code := some k2c1 }
def k2c2 : Code := { maxStack := 4, maxLocals := 4, code := prog_2_method_3_code, exceptionTable := #[], attributes := #[] }
def k2m2 : Method := { name := "find", desc := "(I)I", sig := { parameters := [.int], returnType := some .int }, accessFlags := 0, code := some k2c2 }
def k2c3 : Code := { maxStack := 5, maxLocals := 6, code := prog_2_method_4_code, exceptionTable := #[], attributes := #[] }
def k2m3 : Method := { name := "join", desc := "(II)V", sig := { parameters := [.int, .int], returnType := none }, accessFlags := 0, code := some k2c3 }
/-- com/example/allotree/allotree/Components -/
def k2 : Class := { plain "com/example/allotree/allotree/Components" (some 0) with
  accessFlags := 48
  interfaces := #[]
  cf := some (fileOf pool2 8 #[] #[{ accessFlags := 0, nameIndex := 5, descriptorIndex := 6, attributes := #[] }, { accessFlags := 0, nameIndex := 39, descriptorIndex := 40, attributes := #[] }, { accessFlags := 0, nameIndex := 35, descriptorIndex := 36, attributes := #[] }, { accessFlags := 0, nameIndex := 42, descriptorIndex := 43, attributes := #[] }] 48 2 #[] #[{ accessFlags := 2, nameIndex := 11, descriptorIndex := 12, attributes := #[] }, { accessFlags := 2, nameIndex := 27, descriptorIndex := 28, attributes := #[] }])
  fields := #[{ name := "parent", type := (.array .int), accessFlags := 2, slot := 0, constantValue := 0 }, { name := "vertexCount", type := .int, accessFlags := 2, slot := 1, constantValue := 0 }]
  methods := #[k2m0, k2m1, k2m2, k2m3]
  instanceTypes := #[(.array .int), .int]
  staticTypes := #[]
  resolved := Array.replicate 46 none
  statics := none }

def pool3 : Array CpInfo := pool [(2, .class_ 4), (1, u "java/lang/Object"), (0, u "<init>"), (0, u "()V"), (5, u "([IIII)V"), (0, .methodref 14 15), (0, .class_ 16), (0, .nameAndType 17 18), (0, u "java/util/Arrays"), (0, u "rangeCheck"), (0, u "(III)V"), (55, .class_ 76), (1, u "java/util/Arrays$NaturalOrder"), (36, .class_ 115), (1, u "java/util/Arrays$LegacyMergeSort"), (1, u "Z"), (257, .class_ 376), (0, u "java/util/Arrays$ArrayList"), (68, u "$assertionsDisabled"), (269, u "MIN_ARRAY_SORT_GRAN"), (0, u "I"), (2, u "INSERTIONSORT_THRESHOLD"), (120, u "fill"), (134, .class_ 976), (0, u "java/util/Arrays$ArrayItr")] 52

def k3m0 : Method := { name := "<init>", desc := "()V", sig := { parameters := [], returnType := none }, accessFlags := 2, code := none }
def k3c1 : Code := { maxStack := 4, maxLocals := 3, code := jdk_65_method_30_code, exceptionTable := #[], attributes := #[] }
def k3m1 : Method := { name := "rangeCheck", desc := "(III)V", sig := { parameters := [.int, .int, .int], returnType := none }, accessFlags := 8, code := some k3c1 }
def k3c2 : Code := { maxStack := 3, maxLocals := 5, code := jdk_65_method_104_code, exceptionTable := #[], attributes := #[] }
def k3m2 : Method := { name := "fill", desc := "([IIII)V", sig := { parameters := [(.array .int), .int, .int, .int], returnType := none }, accessFlags := 9, code := some k3c2 }
/-- java/util/Arrays -/
def k3 : Class := { plain "java/util/Arrays" (some 0) with
  accessFlags := 49
  interfaces := #[]
  cf := some (fileOf pool3 14 #[.nestMembers #[975, 375, 113, 74]] #[{ accessFlags := 2, nameIndex := 5, descriptorIndex := 6, attributes := #[] }, { accessFlags := 8, nameIndex := 17, descriptorIndex := 18, attributes := #[] }, { accessFlags := 9, nameIndex := 840, descriptorIndex := 12, attributes := #[] }] 49 2 #[] #[{ accessFlags := 26, nameIndex := 715, descriptorIndex := 716, attributes := #[] }, { accessFlags := 26, nameIndex := 719, descriptorIndex := 716, attributes := #[] }, { accessFlags := 4120, nameIndex := 445, descriptorIndex := 117, attributes := #[] }])
  fields := #[{ name := "MIN_ARRAY_SORT_GRAN", type := .int, accessFlags := 26, slot := 0, constantValue := 0 }, { name := "INSERTIONSORT_THRESHOLD", type := .int, accessFlags := 26, slot := 1, constantValue := 0 }, { name := "$assertionsDisabled", type := .boolean, accessFlags := 4120, slot := 2, constantValue := 0 }]
  methods := #[k3m0, k3m1, k3m2]
  instanceTypes := #[]
  staticTypes := #[.int, .int, .boolean]
  resolved := Array.replicate 1029 none
  statics := none }

def pool4 : Array CpInfo := pool [(1, u "java/lang/Cloneable"), (0, .class_ 1), (0, u "java/lang/Object"), (0, .class_ 3)] 3

/-- java/lang/Cloneable -/
def k4 : Class := { plain "java/lang/Cloneable" (some 0) with
  accessFlags := 1537
  interfaces := #[]
  cf := some (fileOf pool4 2 #[] #[] 1537 4 #[] #[])
  fields := #[]
  methods := #[]
  instanceTypes := #[]
  staticTypes := #[]
  resolved := Array.replicate 8 none
  statics := none }

def pool5 : Array CpInfo := pool [(1, u "java/io/Serializable"), (0, .class_ 1), (0, u "java/lang/Object"), (0, .class_ 3)] 3

/-- java/io/Serializable -/
def k5 : Class := { plain "java/io/Serializable" (some 0) with
  accessFlags := 1537
  interfaces := #[]
  cf := some (fileOf pool5 2 #[] #[] 1537 4 #[] #[])
  fields := #[]
  methods := #[]
  instanceTypes := #[]
  staticTypes := #[]
  resolved := Array.replicate 8 none
  statics := none }

/-- the primitive byte -/
def k6 : Class := { plain "byte" none with kind := .primitive 'B', accessFlags := 0x411 }
/-- [B -/
def k7 : Class := { plain "[B" (some 0) with kind := .array 6 .byte, interfaces := #[4, 5], accessFlags := 1041 }

/-- the primitive int -/
def k8 : Class := { plain "int" none with kind := .primitive 'I', accessFlags := 0x411 }
/-- [I -/
def k9 : Class := { plain "[I" (some 0) with kind := .array 8 .int, interfaces := #[4, 5], accessFlags := 1041 }

def heap : Heap := #[]
def classes : Array Class := #[k0, k1, k2, k3, k4, k5, k6, k7, k8, k9]
def interned : List (Array UInt16 × Addr) := []
def slotsUsed : Nat := 0
def theMethod : MethodId := ⟨1, 4⟩
def args0 : Array Value := #[.int 1, .int 2, .int 3, .int 0, .int 2, .int 5]
def aboutOver (below : List Frame) : State where
  vm := { classes := classes, interned := interned.toArray }
  heap := heap
  slotsUsed := slotsUsed
  threads := #[{ frames := .invoking theMethod args0 :: below }]
def below0 : List Frame := [.native { method := ⟨0, 0⟩, args := #[] }]
def about1 : State := aboutOver below0
def p0 : Program := .bare "" "" ""
def e0 : Env := launch0.env 0 0 0
theorem w_frames : about1.frames = Frame.invoking theMethod args0 :: below0 := rfl
set_option maxRecDepth 65536 in
theorem w_args : argsFit about1.vm theMethod args0 = true := by decide +kernel
set_option maxRecDepth 65536 in
theorem w_heap : heapFits about1 = true := by decide +kernel
set_option maxRecDepth 65536 in
theorem w_runnable : about1.curStatus? = some .runnable := by decide +kernel
set_option maxRecDepth 65536 in
theorem w_alone : about1.alone = true := by decide +kernel
set_option maxRecDepth 65536 in
theorem w_named : about1.methodNamed? x = some theMethod := by decide +kernel
set_option maxRecDepth 65536 in
theorem w_hears : about1.hears theMethod below0 = true := by decide +kernel
set_option maxRecDepth 65536 in
theorem w_ripe : about1.ripe theMethod args0 below0 = true := by decide +kernel
theorem w_running : about1.status = .running := rfl
set_option maxRecDepth 65536 in
theorem w_room : about1.hasRoom e0.platform room_1 = true :=
  launch0.hasRoom_least _ room_1 (by decide +kernel) (by decide +kernel) (by decide +kernel) (by decide +kernel) (by decide +kernel) (by decide +kernel)
theorem allAtoms_all (ts : List Jvm.Cond) (a : Array Jvm.Value) (st : Jvm.State) : (allAtoms ts).before a st = ts.all (fun c => c.before a st) := by
  induction ts with
  | nil => rfl
  | cons c t ih =>
    show (Jvm.Cond.and c (allAtoms t)).before a st = _
    rw [Jvm.Cond.before_and, ih, List.all_cons]
def words1 : List Jvm.Cond := Jvm.Cond.code x code maxLocals ret :: tables_1
/-- a 'code' word, met by the world's own term for the bytes: nothing is compared byte by byte -/
theorem code_word {y : MethodName} {bytes : ByteArray} {mx : Nat} {rt : Option FieldType} {a : Array Value} {s : State} {m : MethodId} {meth : Method} {c : Code} (h1 : s.methodNamed? y = some m) (h2 : s.vm.method? m = some meth) (h3 : meth.code = some c) (h4 : c.code = bytes)
    (h5 : (c.maxLocals == mx && c.exceptionTable.isEmpty && decide (c.maxStack ≤ mostOperands) && decide (meth.sig.returnType = rt) && !meth.locks && decide (parseMethodDescriptor y.desc = some meth.sig)) = true) : (Jvm.Cond.code y bytes mx rt).before a s = true := by
  simp only [Bool.and_eq_true, beq_iff_eq, Bool.not_eq_true', decide_eq_true_eq] at h5
  obtain ⟨⟨⟨⟨⟨g1, g2⟩, g3⟩, g4⟩, g5⟩, g6⟩ := h5
  simp [Cond.before, Cond.holds, Cond.value, h1, h2, h3, h4, g1, g2, g3, g4, g5, g6]
def isCode : Jvm.Cond → Bool
  | .code _ _ _ _ => true
  | _ => false
theorem all_split {L : List Jvm.Cond} {P : Jvm.Cond → Bool} (h1 : L.all (fun c => isCode c || P c) = true) (h2 : ∀ c ∈ L.filter isCode, P c = true) : L.all P = true := by
  refine List.all_eq_true.mpr fun c hc => ?_
  have h := List.all_eq_true.mp h1 c hc
  rcases Bool.eq_false_or_eq_true (isCode c) with hi | hi
  · exact h2 c (List.mem_filter.mpr ⟨hc, hi⟩)
  · simpa [hi] using h
set_option maxRecDepth 65536 in
theorem w_c0 : (Jvm.Cond.code x code maxLocals ret).before args0 about1 = true := code_word (m := ⟨1, 4⟩) (meth := k1m4) (c := k1c4) (by decide +kernel) rfl rfl rfl (by decide +kernel)
set_option maxRecDepth 65536 in
theorem w_c1 : (Jvm.Cond.code ({ cls := "com/example/allotree/allotree/Components", name := "<init>", desc := "()V" } : Jvm.MethodName) prog_2_method_1_code (1 : Nat) (Option.none : Option Jvm.ClassFile.FieldType)).before args0 about1 = true := code_word (m := ⟨2, 0⟩) (meth := k2m0) (c := k2c0) (by decide +kernel) rfl rfl rfl (by decide +kernel)
set_option maxRecDepth 65536 in
theorem w_c2 : (Jvm.Cond.code ({ cls := "java/lang/Object", name := "<init>", desc := "()V" } : Jvm.MethodName) object_method_1_code (1 : Nat) (Option.none : Option Jvm.ClassFile.FieldType)).before args0 about1 = true := code_word (m := ⟨0, 0⟩) (meth := k0m0) (c := k0c0) (by decide +kernel) rfl rfl rfl (by decide +kernel)
set_option maxRecDepth 65536 in
theorem w_c3 : (Jvm.Cond.code ({ cls := "com/example/allotree/allotree/Components", name := "addVertices", desc := "(I)V" } : Jvm.MethodName) prog_2_method_2_code (2 : Nat) (Option.none : Option Jvm.ClassFile.FieldType)).before args0 about1 = true := code_word (m := ⟨2, 1⟩) (meth := k2m1) (c := k2c1) (by decide +kernel) rfl rfl rfl (by decide +kernel)
set_option maxRecDepth 65536 in
theorem w_c4 : (Jvm.Cond.code ({ cls := "java/util/Arrays", name := "fill", desc := "([IIII)V" } : Jvm.MethodName) jdk_65_method_104_code (5 : Nat) (Option.none : Option Jvm.ClassFile.FieldType)).before args0 about1 = true := code_word (m := ⟨3, 2⟩) (meth := k3m2) (c := k3c2) (by decide +kernel) rfl rfl rfl (by decide +kernel)
set_option maxRecDepth 65536 in
theorem w_c5 : (Jvm.Cond.code ({ cls := "java/util/Arrays", name := "rangeCheck", desc := "(III)V" } : Jvm.MethodName) jdk_65_method_30_code (3 : Nat) (Option.none : Option Jvm.ClassFile.FieldType)).before args0 about1 = true := code_word (m := ⟨3, 1⟩) (meth := k3m1) (c := k3c1) (by decide +kernel) rfl rfl rfl (by decide +kernel)
set_option maxRecDepth 65536 in
theorem w_c6 : (Jvm.Cond.code ({ cls := "com/example/allotree/allotree/Components", name := "join", desc := "(II)V" } : Jvm.MethodName) prog_2_method_4_code (6 : Nat) (Option.none : Option Jvm.ClassFile.FieldType)).before args0 about1 = true := code_word (m := ⟨2, 3⟩) (meth := k2m3) (c := k2c3) (by decide +kernel) rfl rfl rfl (by decide +kernel)
set_option maxRecDepth 65536 in
theorem w_c7 : (Jvm.Cond.code ({ cls := "com/example/allotree/allotree/Components", name := "find", desc := "(I)I" } : Jvm.MethodName) prog_2_method_3_code (4 : Nat) (Option.some Jvm.ClassFile.FieldType.int)).before args0 about1 = true := code_word (m := ⟨2, 2⟩) (meth := k2m2) (c := k2c2) (by decide +kernel) rfl rfl rfl (by decide +kernel)
set_option maxRecDepth 65536 in
theorem w_c8 : (Jvm.Cond.code ({ cls := "com/example/allotree/allotree/ComponentsFindPinLaw", name := "merge", desc := "([III)V" } : Jvm.MethodName) method_2_code (5 : Nat) (Option.none : Option Jvm.ClassFile.FieldType)).before args0 about1 = true := code_word (m := ⟨1, 1⟩) (meth := k1m1) (c := k1c1) (by decide +kernel) rfl rfl rfl (by decide +kernel)
set_option maxRecDepth 65536 in
theorem w_c9 : (Jvm.Cond.code ({ cls := "com/example/allotree/allotree/ComponentsFindPinLaw", name := "inPart", desc := "([I[II)Z" } : Jvm.MethodName) method_3_code (4 : Nat) (Option.some Jvm.ClassFile.FieldType.boolean)).before args0 about1 = true := code_word (m := ⟨1, 2⟩) (meth := k1m2) (c := k1c2) (by decide +kernel) rfl rfl rfl (by decide +kernel)
set_option maxRecDepth 65536 in
theorem w_c10 : (Jvm.Cond.code ({ cls := "com/example/allotree/allotree/ComponentsFindPinLaw", name := "pair", desc := "([I[III)Z" } : Jvm.MethodName) method_4_code (4 : Nat) (Option.some Jvm.ClassFile.FieldType.boolean)).before args0 about1 = true := code_word (m := ⟨1, 3⟩) (meth := k1m3) (c := k1c3) (by decide +kernel) rfl rfl rfl (by decide +kernel)
def codes1 : List Jvm.Cond := [Jvm.Cond.code x code maxLocals ret, Jvm.Cond.code ({ cls := "com/example/allotree/allotree/Components", name := "<init>", desc := "()V" } : Jvm.MethodName) prog_2_method_1_code (1 : Nat) (Option.none : Option Jvm.ClassFile.FieldType), Jvm.Cond.code ({ cls := "java/lang/Object", name := "<init>", desc := "()V" } : Jvm.MethodName) object_method_1_code (1 : Nat) (Option.none : Option Jvm.ClassFile.FieldType), Jvm.Cond.code ({ cls := "com/example/allotree/allotree/Components", name := "addVertices", desc := "(I)V" } : Jvm.MethodName) prog_2_method_2_code (2 : Nat) (Option.none : Option Jvm.ClassFile.FieldType), Jvm.Cond.code ({ cls := "java/util/Arrays", name := "fill", desc := "([IIII)V" } : Jvm.MethodName) jdk_65_method_104_code (5 : Nat) (Option.none : Option Jvm.ClassFile.FieldType), Jvm.Cond.code ({ cls := "java/util/Arrays", name := "rangeCheck", desc := "(III)V" } : Jvm.MethodName) jdk_65_method_30_code (3 : Nat) (Option.none : Option Jvm.ClassFile.FieldType), Jvm.Cond.code ({ cls := "com/example/allotree/allotree/Components", name := "join", desc := "(II)V" } : Jvm.MethodName) prog_2_method_4_code (6 : Nat) (Option.none : Option Jvm.ClassFile.FieldType), Jvm.Cond.code ({ cls := "com/example/allotree/allotree/Components", name := "find", desc := "(I)I" } : Jvm.MethodName) prog_2_method_3_code (4 : Nat) (Option.some Jvm.ClassFile.FieldType.int), Jvm.Cond.code ({ cls := "com/example/allotree/allotree/ComponentsFindPinLaw", name := "merge", desc := "([III)V" } : Jvm.MethodName) method_2_code (5 : Nat) (Option.none : Option Jvm.ClassFile.FieldType), Jvm.Cond.code ({ cls := "com/example/allotree/allotree/ComponentsFindPinLaw", name := "inPart", desc := "([I[II)Z" } : Jvm.MethodName) method_3_code (4 : Nat) (Option.some Jvm.ClassFile.FieldType.boolean), Jvm.Cond.code ({ cls := "com/example/allotree/allotree/ComponentsFindPinLaw", name := "pair", desc := "([I[III)Z" } : Jvm.MethodName) method_4_code (4 : Nat) (Option.some Jvm.ClassFile.FieldType.boolean)]
set_option maxRecDepth 65536 in
theorem codes_eq : words1.filter isCode = codes1 := rfl
theorem w_codes : ∀ c ∈ words1.filter isCode, c.before args0 about1 = true := by
  rw [codes_eq]
  intro c hc
  simp only [codes1, List.mem_cons, List.not_mem_nil, or_false] at hc
  rcases hc with rfl | rfl | rfl | rfl | rfl | rfl | rfl | rfl | rfl | rfl | rfl
  · exact w_c0
  · exact w_c1
  · exact w_c2
  · exact w_c3
  · exact w_c4
  · exact w_c5
  · exact w_c6
  · exact w_c7
  · exact w_c8
  · exact w_c9
  · exact w_c10
set_option maxRecDepth 65536 in
theorem w_t1 : (words1.take 24).all (fun c => isCode c || c.before args0 about1) = true := by decide +kernel
set_option maxRecDepth 65536 in
theorem w_t2 : (words1.drop 24).all (fun c => isCode c || c.before args0 about1) = true := by decide +kernel
theorem w_tables : (allAtoms (Jvm.Cond.code x code maxLocals ret :: tables_1)).before args0 about1 = true := by
  rw [allAtoms_all]
  show words1.all (fun c => c.before args0 about1) = true
  refine all_split ?_ w_codes
  rw [← List.take_append_drop 24 words1, List.all_append, w_t1, w_t2]
  rfl
set_option maxRecDepth 65536 in
theorem w_case : (Jvm.Cond.and given_1 narrow_1).before args0 about1 = true := by decide +kernel
theorem w_applies : (headSpec (Jvm.Cond.code x code maxLocals ret :: tables_1) room_1).applies x e0.platform about1 = true :=
  (Spec.applies_iff w_frames).mpr ⟨w_running, w_runnable, w_alone, w_named, w_hears, w_ripe, w_room, w_tables⟩
theorem atStart : AtStart classFile x code maxLocals ret World_1 tables_1 room_1 Calls_1 rest_1 Pre_1 launch0 p0 e0 about1 theMethod args0 below0 :=
  ⟨lists_1, trivial, launch0.admits_env _ _ _, launch0.least_env, fairChoices_fair.cas, fairChoices_fair.clock, w_frames, w_args, w_heap, w_applies, trivial, trivial, w_case⟩
end start1
theorem witness_1 : WitnessClaimed_1 := ⟨start1.p0, start1.e0, start1.about1, start1.theMethod, start1.args0, start1.below0, start1.atStart⟩
end Jvm.Pilot.@@N@@
