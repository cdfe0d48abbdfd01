import JvmDerived
import JvmDerived.Pilot.@@N@@Statement
import JvmDerived.Pilot.@@N@@Code
set_option linter.unusedVariables false
set_option linter.unusedSimpArgs false
@@BLOCK:HandJ.lean.txt@@
@@BLOCK:HandW.lean.txt@@
@@BLOCK:HandBits.lean.txt@@
@@BLOCK:SymRun.lean.txt@@
@@BLOCK:RowBasics.lean.txt@@
@@BLOCK:Bridge.lean.txt@@
@@BLOCK:SymKit.lean.txt@@
@@BLOCK:SymWays.lean.txt@@
@@BLOCK:NumsL.lean.txt@@
@@BLOCK:Masks.lean.txt@@
namespace Jvm.Pilot.@@N@@
open Jvm Jvm.ClassFile Sem Op Jvm.Sym Jvm.Pilot.@@N@@.Jvm.D

/-! 1. the callee, of another class -/
def y : MethodName := ⟨"com/example/railhead/railhead/cattle/Railroad", "freeBehind", "(IJ)J"⟩
def ycode : ByteArray := prog_10_method_5_code
def yI : Info := { own := "com/example/railhead/railhead/cattle/Railroad", ret := some .long, longs := [(62, -1)] }
def yout : Option (Cond × List Cond × List Cond) := walk yI ycode 200 (entry [.int, .long] 5)
theorem ywalks : yout.isSome = true := by decide +kernel
def ygot : Cond × List Cond × List Cond := yout.get ywalks
def yspec : Spec := specOf y ycode 5 (some .long) [.int, .long] ygot.1 ygot.2.1 ygot.2.2
theorem ymeets (l : Launch) : MeetsLoose l y yspec :=
  walk_meets (n := 200) (I := yI) (by decide) rfl rfl (show walk yI ycode 200 (entry [.int, .long] 5) = some (ygot.1, ygot.2.1, ygot.2.2) from (Option.some_get ywalks).symm)
theorem ycold : yspec.Cold := Spec.cold_of_keeps (by decide +kernel)

/-! 2. the law's own walk -/
def callee : Callee := { y := y, S := yspec, bytes := ycode, maxL := 5, ret := some .long, static := true, params := 2, res := some .long }
def I : Info := { own := x.cls, ret := ret, ints := [(7, 2147483647)], longs := [(8, -2)], calls := [(10, callee)], maxLocals := maxLocals, room := room_1 }
theorem callsOk (l : Launch) : CallsOk l I maxLocals room_1 := fun q hq => by
  obtain rfl : q = (10, callee) := by simpa [I] using hq
  exact ⟨rfl, rfl, ymeets l, ycold⟩
def w := walkTo I code [] 400 true (entry [.int, .int, .long] maxLocals)
theorem w_some : w.isSome = true := by decide +kernel
def tF : Term := .rem (.op2 .iand (.arg 0) (.int 2147483647)) (.int 49)
def tI : Term := .op2 .iand (.arg 1) (.int 63)
def tO : Term := .op2 .land (.arg 2) (.long (-2))
def tR : Term := .op2 .land (.op2 .lsub (.op2 .lshl (.long 1) tF) (.long 1)) (.op2 .lxor tO (.long (-1)))
def G1 : Jvm.Cond := .eq (.old (.op2 .lcmp (.op2 .land (.op2 .lushr tR tI) (.long 1)) (.long 0))) (.int 0)
def G2 : Jvm.Cond := .eq (.old (.op2 .lcmp (.op2 .land (.op2 .lushr tO tI) (.long 1)) (.long 0))) (.int 0)
def G3 : Jvm.Cond := .le (.old tF) (.old tI)
def C00 : Jvm.Cond := .not (.eq (.old (.int 0)) (.old (.int 0)))
def C01 : Jvm.Cond := .not (.eq (.old (.int 0)) (.old (.int 1)))
def N0 : Jvm.Cond := .not (.eq (.old (.int 0)) (.int 0))
def C10 : Jvm.Cond := .not (.eq (.old (.int 1)) (.old (.int 0)))
def C11 : Jvm.Cond := .not (.eq (.old (.int 1)) (.old (.int 1)))
def N1 : Jvm.Cond := .not (.eq (.old (.int 1)) (.int 0))
def R (k : Int32) : STree := .ret (some ⟨.op2 .iand (.int k) (.int 1), .int⟩) []
def t0 : STree := .fork G1 (.fork G2 (.fork G3 (.fork C00 (R 0) (R 1)) (.fork N0 (.fork C00 (R 0) (R 1)) (.fork C01 (R 0) (R 1)))) (.fork G3 (.fork C00 (R 0) (R 1)) (.fork N1 (.fork C00 (R 0) (R 1)) (.fork C01 (R 0) (R 1))))) (.fork G2 (.fork G3 (.fork C10 (R 0) (R 1)) (.fork N0 (.fork C10 (R 0) (R 1)) (.fork C11 (R 0) (R 1)))) (.fork G3 (.fork C10 (R 0) (R 1)) (.fork N1 (.fork C10 (R 0) (R 1)) (.fork C11 (R 0) (R 1)))))
theorem tree : (w.get w_some).1 = t0 := by decide +kernel
theorem entry_walk : walkTo I code [] 400 true (entry [.int, .int, .long] maxLocals) = some (t0, (w.get w_some).2.1, (w.get w_some).2.2) := by
  rw [← tree]; exact (Option.some_get w_some).symm
theorem sorts_ok {a : Int32} {b : Int32} {o : Int64} {s : State} : ∀ q ∈ Sym.sorts 0 [.int, .int, .long], q.before #[.int a, .int b, .long o] s = true := by
  intro q hq
  simp only [Sym.sorts, List.mem_cons, List.not_mem_nil, or_false] at hq
  rcases hq with rfl | rfl | rfl <;> simp [isK, Cond.before, Cond.holds, Cond.value, Term.eval]
def Gs : List Jvm.Cond := [G1, G2, G3, C00, C01, N0, C10, C11, N1]
/-! 3. the guards, and what the tree returns -/
theorem own_args {args : Array Value} {s : State} (hc : (Cond.count 3).before args s = true) (h0 : (Cond.isInt (.arg 0)).before args s = true) (h1 : (Cond.isInt (.arg 1)).before args s = true) (h2 : (Cond.isLong (.arg 2)).before args s = true) : ∃ (a b : Int32) (o : Int64), args = #[.int a, .int b, .long o] := by
  have hs : args.size = 3 := by simpa [Cond.before, Cond.holds, Cond.value] using hc
  obtain ⟨L⟩ := args
  match L, hs with
  | [w0, w1, w2], _ =>
    cases w0 <;> simp [Cond.before, Cond.holds, Cond.value, Term.eval] at h0
    cases w1 <;> simp [Cond.before, Cond.holds, Cond.value, Term.eval] at h1
    cases w2 <;> simp [Cond.before, Cond.holds, Cond.value, Term.eval] at h2
    exact ⟨_, _, _, rfl⟩
def own_lc (x : Int64) : Int32 := if x > 0 then 1 else if x == 0 then 0 else -1
theorem own_lc0 (x : Int64) : own_lc x = 0 ↔ x = 0 := by
  unfold own_lc
  split
  · rename_i h
    constructor
    · intro q; exact absurd q (by decide)
    · intro q; subst q; exact absurd h (by decide)
  · split
    · rename_i h; exact ⟨fun _ => by simpa using h, fun _ => rfl⟩
    · rename_i h; exact ⟨fun q => absurd q (by decide), fun q => absurd (by simpa using q) h⟩
def own_ush (x : Int64) (y : Int32) : Int64 := (x.toUInt64 >>> (y &&& 0x3f).toInt64.toUInt64).toInt64
def own_r (f : Int32) (o : Int64) : Int64 := (((1 : Int64) <<< (f &&& 0x3f).toInt64) - 1) &&& (o ^^^ (-1))
theorem own_shift (n : Fin 64) : ((Int32.ofNat n.val &&& 0x3f).toInt64.toUInt64).toBitVec % 64 = BitVec.ofNat 64 n.val := by
  revert n; decide +kernel
theorem own_low (f : Fin 49) (n : Fin 64) : (((1 : Int64) <<< (Int32.ofNat f.val &&& 0x3f).toInt64) - 1).toBitVec.getLsbD n.val = decide (n.val < f.val) := by
  revert f n; decide +kernel
theorem own_bv (x : BitVec 64) (n : Nat) : ((x >>> n) &&& 1#64 = 0#64) ↔ x.getLsbD n = false := by
  rw [BitVec.and_one_eq_setWidth_ofBool_getLsbD, BitVec.getLsbD_ushiftRight]
  simp only [Nat.add_zero]
  cases x.getLsbD n <;> decide
theorem own_bit (x : Int64) (n : Fin 64) : own_ush x (Int32.ofNat n.val) &&& 1 = 0 ↔ x.toBitVec.getLsbD n.val = false := by
  rw [← own_bv, ← Int64.toBitVec_inj]
  have e : (own_ush x (Int32.ofNat n.val) &&& 1).toBitVec = (x.toBitVec >>> n.val) &&& 1#64 := by
    rw [Int64.toBitVec_and]
    congr 1
    show (x.toUInt64 >>> (Int32.ofNat n.val &&& 0x3f).toInt64.toUInt64).toBitVec = _
    rw [UInt64.toBitVec_shiftRight, own_shift]
    show x.toBitVec >>> (BitVec.ofNat 64 n.val) = _
    rw [BitVec.ushiftRight_eq', BitVec.toNat_ofNat, Nat.mod_eq_of_lt (by omega)]
  rw [e]
  exact Iff.rfl
theorem own_rbit (f : Fin 49) (n : Fin 64) (o : Int64) : (own_r (Int32.ofNat f.val) o).toBitVec.getLsbD n.val = (decide (n.val < f.val) && !o.toBitVec.getLsbD n.val) := by
  rw [own_r, Int64.toBitVec_and, BitVec.getLsbD_and, own_low, Int64.toBitVec_xor, BitVec.getLsbD_xor]
  have h : (-1 : Int64).toBitVec.getLsbD n.val = true := by revert n; decide +kernel
  rw [h, Bool.xor_true]
theorem own_from (a : Int32) : ∃ f : Fin 49, (a &&& 2147483647) % 49 = Int32.ofNat f.val := by
  have e : (a &&& 2147483647).toInt = a.toInt % 2 ^ 31 := Jvm.Kit.i32_mask a 2147483647 (k := 31) (by decide) (by decide)
  have e2 : ((a &&& 2147483647) % 49).toInt = (a &&& 2147483647).toInt % 49 := Jvm.Kit.i32_rem_nonneg (by omega)
  refine ⟨⟨(((a &&& 2147483647) % 49).toInt).toNat, by omega⟩, Int32.toInt_inj.mp ?_⟩
  rw [Int32.toInt_ofNat_of_lt (by simp only []; omega)]
  simp only []
  omega
theorem own_idx (b : Int32) : ∃ n : Fin 64, b &&& 63 = Int32.ofNat n.val := by
  have e : (b &&& 63).toInt = b.toInt % 2 ^ 6 := Jvm.Kit.i32_mask b 63 (k := 6) (by decide) (by decide)
  refine ⟨⟨((b &&& 63).toInt).toNat, by omega⟩, Int32.toInt_inj.mp ?_⟩
  rw [Int32.toInt_ofNat_of_lt (by simp only []; omega)]
  simp only []
  omega
theorem own_le (f : Fin 49) (n : Fin 64) : decide (Int32.ofNat f.val ≤ Int32.ofNat n.val) = decide (f.val ≤ n.val) := by
  revert f n; decide +kernel
theorem defined (a : Int32) (b : Int32) (o : Int64) (s : State) : ∀ G ∈ Gs, ∃ z, G.value #[.int a, .int b, .long o] s none s [] = some z := by
  intro G hG
  simp only [Gs, List.mem_cons, List.not_mem_nil, or_false] at hG
  rcases hG with rfl | rfl | rfl | rfl | rfl | rfl | rfl | rfl | rfl <;> exact ⟨_, rfl⟩
theorem value_eq (a : Int32) (b : Int32) (o : Int64) (s : State) : Kit.valueOf #[.int a, .int b, .long o] s t0 = some (.int 1) := by
  have g1 : G1.value #[.int a, .int b, .long o] s none s [] = some (decide (own_lc (own_ush (own_r ((a &&& 2147483647) % 49) (o &&& (-2))) (b &&& 63) &&& 1) = 0)) := rfl
  have g2 : G2.value #[.int a, .int b, .long o] s none s [] = some (decide (own_lc (own_ush (o &&& (-2)) (b &&& 63) &&& 1) = 0)) := rfl
  have g3 : G3.value #[.int a, .int b, .long o] s none s [] = some (decide ((a &&& 2147483647) % 49 ≤ b &&& 63)) := rfl
  have c00 : C00.value #[.int a, .int b, .long o] s none s [] = some false := rfl
  have c01 : C01.value #[.int a, .int b, .long o] s none s [] = some true := rfl
  have c10 : C10.value #[.int a, .int b, .long o] s none s [] = some true := rfl
  have c11 : C11.value #[.int a, .int b, .long o] s none s [] = some false := rfl
  have n0 : N0.value #[.int a, .int b, .long o] s none s [] = some false := rfl
  have n1 : N1.value #[.int a, .int b, .long o] s none s [] = some true := rfl
  have r1 : (Term.op2 .iand (.int 1) (.int 1)).eval #[.int a, .int b, .long o] s none [] s = some (.int 1) := rfl
  obtain ⟨f, hf⟩ := own_from a
  obtain ⟨n, hn⟩ := own_idx b
  generalize o &&& (-2) = q at *
  rw [hf, hn] at g1 g3
  rw [hn] at g2
  simp only [own_lc0, own_bit, own_rbit, own_le] at g1 g2 g3
  simp only [t0, R, Kit.valueOf, g1, g2, g3, c00, c01, c10, c11, n0, n1, r1]
  cases hq : q.toBitVec.getLsbD n.val <;> by_cases hl : f.val ≤ n.val <;> by_cases hl2 : n.val < f.val <;> first | (exfalso; omega) | simp [hl, hl2]
/-! 4. the contract, the limbs -/
def post_1 : Jvm.Cond := .and limb_1_1 limb_1_2
theorem met_1 (l : Launch) : MeetsLoose l x (armSpec x code maxLocals ret tables_1 room_1 .tt (.and given_1 narrow_1) post_1 frame_1_writes frame_1_arrays frame_1_statics) := by
  refine loops_meets (I := I) (ks0 := [.int, .int, .long]) (cuts := []) (by decide) rfl rfl rfl rfl rfl (fun args s h => ?_) entry_walk (fun _ => none) (fun _ _ _ _ _ => False) (fun _ _ _ => 0) (fun args s h => ?_) (fun args s _ h ks hks => by cases hks) (callsOk l)
  · simp only [armSpec, allAtoms, List.foldr_cons, Cond.before_and, Bool.and_eq_true] at h; exact h.1.1
  · have hts : (allAtoms (Cond.code x code maxLocals ret :: tables_1)).before args s = true := by simp only [armSpec, Cond.before_and, Bool.and_eq_true] at h; exact h.1
    have hK : (Cond.and .tt (.and given_1 narrow_1)).before args s = true := by simp only [armSpec, Cond.before_and, Bool.and_eq_true] at h ⊢; exact h.2
    simp only [armSpec, given_1, Cond.before_and, Bool.and_eq_true] at h
    obtain ⟨-, -, ⟨hc, h0, h1, h2⟩, hn⟩ := h
    obtain ⟨a, b, o, rfl⟩ := own_args hc h0 h1 h2
    have hT := known3 (Gt := [.isInt tF, .isLong tO, .isLong tR]) hts hK (by
      intro q hq
      simp only [List.mem_cons, List.not_mem_nil, or_false] at hq
      rcases hq with rfl | rfl | rfl <;> rfl)
    have hF : ∀ q ∈ ([] : List Jvm.Cond), q.value #[.int a, .int b, .long o] s none s [] = some false := fun q hq => by cases hq
    refine ⟨rfl, sorts_ok, tabs_of_sub hts (by decide +kernel), needs_of_ways (Gs := Gs) hT hF (defined a b o s) (by decide +kernel), Kit.vc_of_value (w₀ := .int 1) (fun E => ?_) t0 (by decide +kernel) (value_eq a b o s)⟩
    simp [armSpec, post_1, limb_1_1, limb_1_2, Cond.after, Cond.holds, Cond.value, Term.eval]
theorem main_1_1 : Claimed_1_1 := armFor_of_meets0 (fun l => (met_1 l).meets) fun _ _ _ _ h => by simp only [post_1, Cond.after_and, Bool.and_eq_true] at h; exact h.1
theorem main_1_2 : Claimed_1_2 := armFor_of_meets0 (fun l => (met_1 l).meets) fun _ _ _ _ h => by simp only [post_1, Cond.after_and, Bool.and_eq_true] at h; exact h.2
end Jvm.Pilot.@@N@@
namespace Jvm.Pilot.@@N@@
open Jvm Jvm.ClassFile Sem Op Lib Jvm.Free Jvm.Stand Jvm.Pilot.@@N@@.Jvm.D
/-! MADE BY PROGRAM (witnessworld.py) out of the Statement's table words and the real class files: 9 classes; the members and pool entries that the words name. The judged class is class 1, her method 1. -/
namespace start1
open Jvm.ClassFile
def u (s : String) : CpInfo := .utf8 (stringToUtf16 s)
/-- a pool by its gaps: so many unusable entries, then the entry; so many at the end -/
def gap : Nat → List CpInfo → List CpInfo
  | 0, r => r
  | n + 1, r => .unusable :: gap n r
def poolList (es : List (Nat × CpInfo)) (last : Nat) : List CpInfo := es.foldr (fun e r => gap e.1 (e.2 :: r)) (gap last [])
def pool (es : List (Nat × CpInfo)) (last : Nat) : Array CpInfo := ⟨poolList es last⟩
def fileOf (pool : Array CpInfo) (this : Nat) (attrs : Array Attribute := #[]) (ms : Array MethodInfo := #[]) (fl : Nat := 33) (sup : Nat := 0) (ifs : Array Nat := #[]) (fds : Array FieldInfo := #[]) : ClassFile where
  minorVersion := 0
  majorVersion := 65
  constantPool := pool
  accessFlags := fl
  thisClass := this
  superClass := sup
  interfaces := ifs
  fields := fds
  methods := ms
  attributes := attrs
def plain (name : String) (sup : Option ClassId) : Class where
  name := name
  kind := .ordinary
  loader := none
  accessFlags := 33
  super := sup
  interfaces := #[]
  cf := none
  fields := #[]
  methods := #[]
  instanceTypes := #[]
  staticTypes := #[]
  resolved := #[]
  callSites := []
  init := .initialized
  statics := none
  mirror := none

def pool0 : Array CpInfo := pool [(5, u "<init>"), (0, u "()V"), (1, .class_ 10), (1, u "java/lang/Object")] 113

def k0m0 : Method := { name := "<init>", desc := "()V", sig := { parameters := [], returnType := none }, accessFlags := 1, code := none }
/-- java/lang/Object -/
def k0 : Class := { plain "java/lang/Object" none with
  accessFlags := 33
  interfaces := #[]
  cf := some (fileOf pool0 8 #[] #[{ accessFlags := 1, nameIndex := 5, descriptorIndex := 6, attributes := #[] }] 33 0 #[] #[])
  fields := #[]
  methods := #[k0m0]
  instanceTypes := #[]
  staticTypes := #[]
  resolved := Array.replicate 124 none
  statics := none }

def pool1 : Array CpInfo := pool [(2, .class_ 4), (1, u "java/lang/Object"), (0, u "<init>"), (0, u "()V"), (0, .integer 2147483647), (0, .long 18446744073709551614), (1, .methodref 11 12), (0, .class_ 13), (0, .nameAndType 14 15), (0, u "com/example/railhead/railhead/cattle/Railroad"), (0, u "freeBehind"), (0, u "(IJ)J"), (0, .class_ 17), (0, u "com/example/railhead/railhead/cattle/RailroadFreeBehindPinLaw"), (2, u "law"), (0, u "(IIJ)Z")] 3

def k1m0 : Method := { name := "<init>", desc := "()V", sig := { parameters := [], returnType := none }, accessFlags := 2, code := none }
def k1c1 : Code := { maxStack := 4, maxLocals := 13, code := code, exceptionTable := #[], attributes := #[] }
def k1m1 : Method := { name := "law", desc := "(IIJ)Z", sig := { parameters := [.int, .int, .long], returnType := some .boolean }, accessFlags := 9, code := some k1c1 }
/-- com/example/railhead/railhead/cattle/RailroadFreeBehindPinLaw -/
def k1 : Class := { plain "com/example/railhead/railhead/cattle/RailroadFreeBehindPinLaw" (some 0) with
  accessFlags := 49
  interfaces := #[]
  cf := some (fileOf pool1 16 #[] #[{ accessFlags := 2, nameIndex := 5, descriptorIndex := 6, attributes := #[] }, { accessFlags := 9, nameIndex := 20, descriptorIndex := 21, attributes := #[] }] 49 2 #[] #[])
  fields := #[]
  methods := #[k1m0, k1m1]
  instanceTypes := #[]
  staticTypes := #[]
  resolved := Array.replicate 25 none
  statics := none }

def pool2 : Array CpInfo := pool [(2, .class_ 4), (1, u "java/lang/Object"), (0, u "<init>"), (0, u "()V"), (4, .class_ 13), (1, u "com/example/railhead/railhead/cattle/Railroad"), (0, u "PLACES"), (0, u "Ljava/util/Map;"), (14, u "SPACES"), (0, u "Ljava/util/List;"), (16, u "TURNOUTS"), (13, .long 18446744073709551615), (3, u "SIGNALS_BEFORE"), (0, u "[I"), (12, u "AHEAD"), (0, u "[[I"), (2, u "BEHIND"), (25, u "SIGNALS_AFTER"), (65, u "END"), (0, u "Ljava/lang/String;"), (23, u "START_PLACE"), (0, u "I"), (4, u "START"), (1, u "LAST_NUMBERED"), (1, u "BOUNCE_DOLLARS"), (12, u "freeBehind"), (0, u "(IJ)J")] 29

def k2m0 : Method := { name := "<init>", desc := "()V", sig := { parameters := [], returnType := none }, accessFlags := 2, code := none }
def k2c1 : Code := { maxStack := 6, maxLocals := 5, code := prog_10_method_5_code, exceptionTable := #[], attributes := #[] }
def k2m1 : Method := { name := "freeBehind", desc := "(IJ)J", sig := { parameters := [.int, .long], returnType := some .long }, accessFlags := 8, code := some k2c1 }
/-- com/example/railhead/railhead/cattle/Railroad -/
def k2 : Class := { plain "com/example/railhead/railhead/cattle/Railroad" (some 0) with
  accessFlags := 48
  interfaces := #[]
  cf := some (fileOf pool2 11 #[] #[{ accessFlags := 2, nameIndex := 5, descriptorIndex := 6, attributes := #[] }, { accessFlags := 8, nameIndex := 224, descriptorIndex := 225, attributes := #[] }] 48 2 #[] #[{ accessFlags := 24, nameIndex := 207, descriptorIndex := 177, attributes := #[] }, { accessFlags := 24, nameIndex := 209, descriptorIndex := 202, attributes := #[] }, { accessFlags := 24, nameIndex := 176, descriptorIndex := 177, attributes := #[] }, { accessFlags := 24, nameIndex := 211, descriptorIndex := 202, attributes := #[] }, { accessFlags := 24, nameIndex := 48, descriptorIndex := 31, attributes := #[] }, { accessFlags := 24, nameIndex := 30, descriptorIndex := 31, attributes := #[] }, { accessFlags := 24, nameIndex := 110, descriptorIndex := 31, attributes := #[] }, { accessFlags := 26, nameIndex := 66, descriptorIndex := 67, attributes := #[] }, { accessFlags := 26, nameIndex := 14, descriptorIndex := 15, attributes := #[] }, { accessFlags := 24, nameIndex := 201, descriptorIndex := 202, attributes := #[] }, { accessFlags := 26, nameIndex := 80, descriptorIndex := 81, attributes := #[] }, { accessFlags := 26, nameIndex := 84, descriptorIndex := 81, attributes := #[] }])
  fields := #[{ name := "START", type := (.object "java/lang/String"), accessFlags := 24, slot := 0, constantValue := 0 }, { name := "LAST_NUMBERED", type := .int, accessFlags := 24, slot := 1, constantValue := 0 }, { name := "END", type := (.object "java/lang/String"), accessFlags := 24, slot := 2, constantValue := 0 }, { name := "BOUNCE_DOLLARS", type := .int, accessFlags := 24, slot := 3, constantValue := 0 }, { name := "TURNOUTS", type := (.object "java/util/List"), accessFlags := 24, slot := 4, constantValue := 0 }, { name := "SPACES", type := (.object "java/util/List"), accessFlags := 24, slot := 5, constantValue := 0 }, { name := "SIGNALS_AFTER", type := (.object "java/util/List"), accessFlags := 24, slot := 6, constantValue := 0 }, { name := "SIGNALS_BEFORE", type := (.array .int), accessFlags := 26, slot := 7, constantValue := 0 }, { name := "PLACES", type := (.object "java/util/Map"), accessFlags := 26, slot := 8, constantValue := 0 }, { name := "START_PLACE", type := .int, accessFlags := 24, slot := 9, constantValue := 0 }, { name := "AHEAD", type := (.array (.array .int)), accessFlags := 26, slot := 10, constantValue := 0 }, { name := "BEHIND", type := (.array (.array .int)), accessFlags := 26, slot := 11, constantValue := 0 }]
  methods := #[k2m0, k2m1]
  instanceTypes := #[]
  staticTypes := #[(.object "java/lang/String"), .int, (.object "java/lang/String"), .int, (.object "java/util/List"), (.object "java/util/List"), (.object "java/util/List"), (.array .int), (.object "java/util/Map"), .int, (.array (.array .int)), (.array (.array .int))]
  resolved := Array.replicate 255 none
  statics := none }

def pool3 : Array CpInfo := pool [(1, u "java/lang/Cloneable"), (0, .class_ 1), (0, u "java/lang/Object"), (0, .class_ 3)] 3

/-- java/lang/Cloneable -/
def k3 : Class := { plain "java/lang/Cloneable" (some 0) with
  accessFlags := 1537
  interfaces := #[]
  cf := some (fileOf pool3 2 #[] #[] 1537 4 #[] #[])
  fields := #[]
  methods := #[]
  instanceTypes := #[]
  staticTypes := #[]
  resolved := Array.replicate 8 none
  statics := none }

def pool4 : Array CpInfo := pool [(1, u "java/io/Serializable"), (0, .class_ 1), (0, u "java/lang/Object"), (0, .class_ 3)] 3

/-- java/io/Serializable -/
def k4 : Class := { plain "java/io/Serializable" (some 0) with
  accessFlags := 1537
  interfaces := #[]
  cf := some (fileOf pool4 2 #[] #[] 1537 4 #[] #[])
  fields := #[]
  methods := #[]
  instanceTypes := #[]
  staticTypes := #[]
  resolved := Array.replicate 8 none
  statics := none }

/-- the primitive byte -/
def k5 : Class := { plain "byte" none with kind := .primitive 'B', accessFlags := 0x411 }
/-- [B -/
def k6 : Class := { plain "[B" (some 0) with kind := .array 5 .byte, interfaces := #[3, 4], accessFlags := 1041 }

/-- the primitive int -/
def k7 : Class := { plain "int" none with kind := .primitive 'I', accessFlags := 0x411 }
/-- [I -/
def k8 : Class := { plain "[I" (some 0) with kind := .array 7 .int, interfaces := #[3, 4], accessFlags := 1041 }

def heap : Heap := #[]
def classes : Array Class := #[k0, k1, k2, k3, k4, k5, k6, k7, k8]
def interned : List (Array UInt16 × Addr) := []
def slotsUsed : Nat := 0
def theMethod : MethodId := ⟨1, 1⟩
def args0 : Array Value := #[.int 5, .int 3, .long 9]
def aboutOver (below : List Frame) : State where
  vm := { classes := classes, interned := interned.toArray }
  heap := heap
  slotsUsed := slotsUsed
  threads := #[{ frames := .invoking theMethod args0 :: below }]
def below0 : List Frame := [.native { method := ⟨0, 0⟩, args := #[] }]
def about1 : State := aboutOver below0
def p0 : Program := .bare "" "" ""
def e0 : Env := launch0.env 0 0 0
theorem w_frames : about1.frames = Frame.invoking theMethod args0 :: below0 := rfl
set_option maxRecDepth 65536 in
theorem w_args : argsFit about1.vm theMethod args0 = true := by decide +kernel
set_option maxRecDepth 65536 in
theorem w_heap : heapFits about1 = true := by decide +kernel
set_option maxRecDepth 65536 in
theorem w_runnable : about1.curStatus? = some .runnable := by decide +kernel
set_option maxRecDepth 65536 in
theorem w_alone : about1.alone = true := by decide +kernel
set_option maxRecDepth 65536 in
theorem w_named : about1.methodNamed? x = some theMethod := by decide +kernel
set_option maxRecDepth 65536 in
theorem w_hears : about1.hears theMethod below0 = true := by decide +kernel
set_option maxRecDepth 65536 in
theorem w_ripe : about1.ripe theMethod args0 below0 = true := by decide +kernel
theorem w_running : about1.status = .running := rfl
set_option maxRecDepth 65536 in
theorem w_room : about1.hasRoom e0.platform room_1 = true :=
  launch0.hasRoom_least _ room_1 (by decide +kernel) (by decide +kernel) (by decide +kernel) (by decide +kernel) (by decide +kernel) (by decide +kernel)
theorem allAtoms_all (ts : List Jvm.Cond) (a : Array Jvm.Value) (st : Jvm.State) : (allAtoms ts).before a st = ts.all (fun c => c.before a st) := by
  induction ts with
  | nil => rfl
  | cons c t ih =>
    show (Jvm.Cond.and c (allAtoms t)).before a st = _
    rw [Jvm.Cond.before_and, ih, List.all_cons]
def words1 : List Jvm.Cond := Jvm.Cond.code x code maxLocals ret :: tables_1
/-- a 'code' word, met by the world's own term for the bytes: nothing is compared byte by byte -/
theorem code_word {y : MethodName} {bytes : ByteArray} {mx : Nat} {rt : Option FieldType} {a : Array Value} {s : State} {m : MethodId} {meth : Method} {c : Code} (h1 : s.methodNamed? y = some m) (h2 : s.vm.method? m = some meth) (h3 : meth.code = some c) (h4 : c.code = bytes)
    (h5 : (c.maxLocals == mx && c.exceptionTable.isEmpty && decide (c.maxStack ≤ mostOperands) && decide (meth.sig.returnType = rt) && !meth.locks && decide (parseMethodDescriptor y.desc = some meth.sig)) = true) : (Jvm.Cond.code y bytes mx rt).before a s = true := by
  simp only [Bool.and_eq_true, beq_iff_eq, Bool.not_eq_true', decide_eq_true_eq] at h5
  obtain ⟨⟨⟨⟨⟨g1, g2⟩, g3⟩, g4⟩, g5⟩, g6⟩ := h5
  simp [Cond.before, Cond.holds, Cond.value, h1, h2, h3, h4, g1, g2, g3, g4, g5, g6]
def isCode : Jvm.Cond → Bool
  | .code _ _ _ _ => true
  | _ => false
theorem all_split {L : List Jvm.Cond} {P : Jvm.Cond → Bool} (h1 : L.all (fun c => isCode c || P c) = true) (h2 : ∀ c ∈ L.filter isCode, P c = true) : L.all P = true := by
  refine List.all_eq_true.mpr fun c hc => ?_
  have h := List.all_eq_true.mp h1 c hc
  rcases Bool.eq_false_or_eq_true (isCode c) with hi | hi
  · exact h2 c (List.mem_filter.mpr ⟨hc, hi⟩)
  · simpa [hi] using h
set_option maxRecDepth 65536 in
theorem w_c0 : (Jvm.Cond.code x code maxLocals ret).before args0 about1 = true := code_word (m := ⟨1, 1⟩) (meth := k1m1) (c := k1c1) (by decide +kernel) rfl rfl rfl (by decide +kernel)
set_option maxRecDepth 65536 in
theorem w_c1 : (Jvm.Cond.code ({ cls := "com/example/railhead/railhead/cattle/Railroad", name := "freeBehind", desc := "(IJ)J" } : Jvm.MethodName) prog_10_method_5_code (5 : Nat) (Option.some Jvm.ClassFile.FieldType.long)).before args0 about1 = true := code_word (m := ⟨2, 1⟩) (meth := k2m1) (c := k2c1) (by decide +kernel) rfl rfl rfl (by decide +kernel)
def codes1 : List Jvm.Cond := [Jvm.Cond.code x code maxLocals ret, Jvm.Cond.code ({ cls := "com/example/railhead/railhead/cattle/Railroad", name := "freeBehind", desc := "(IJ)J" } : Jvm.MethodName) prog_10_method_5_code (5 : Nat) (Option.some Jvm.ClassFile.FieldType.long)]
set_option maxRecDepth 65536 in
theorem codes_eq : words1.filter isCode = codes1 := rfl
theorem w_codes : ∀ c ∈ words1.filter isCode, c.before args0 about1 = true := by
  rw [codes_eq]
  intro c hc
  simp only [codes1, List.mem_cons, List.not_mem_nil, or_false] at hc
  rcases hc with rfl | rfl
  · exact w_c0
  · exact w_c1
set_option maxRecDepth 65536 in
theorem w_t1 : words1.all (fun c => isCode c || c.before args0 about1) = true := by decide +kernel
theorem w_tables : (allAtoms (Jvm.Cond.code x code maxLocals ret :: tables_1)).before args0 about1 = true := by
  rw [allAtoms_all]
  show words1.all (fun c => c.before args0 about1) = true
  refine all_split ?_ w_codes
  rw [w_t1]
set_option maxRecDepth 65536 in
theorem w_case : (Jvm.Cond.and given_1 narrow_1).before args0 about1 = true := by decide +kernel
theorem w_applies : (headSpec (Jvm.Cond.code x code maxLocals ret :: tables_1) room_1).applies x e0.platform about1 = true :=
  (Spec.applies_iff w_frames).mpr ⟨w_running, w_runnable, w_alone, w_named, w_hears, w_ripe, w_room, w_tables⟩
theorem atStart : AtStart classFile x code maxLocals ret World_1 tables_1 room_1 Calls_1 rest_1 Pre_1 launch0 p0 e0 about1 theMethod args0 below0 :=
  ⟨lists_1, trivial, launch0.admits_env _ _ _, launch0.least_env, fairChoices_fair.cas, fairChoices_fair.clock, w_frames, w_args, w_heap, w_applies, trivial, trivial, w_case⟩
end start1
theorem witness_1 : WitnessClaimed_1 := ⟨start1.p0, start1.e0, start1.about1, start1.theMethod, start1.args0, start1.below0, start1.atStart⟩
end Jvm.Pilot.@@N@@
