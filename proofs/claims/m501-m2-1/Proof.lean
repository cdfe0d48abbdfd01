import JvmDerived
import JvmDerived.Pilot.@@N@@Statement
import JvmDerived.Pilot.@@N@@Code
set_option linter.unusedVariables false
set_option linter.unusedSimpArgs false
@@BLOCK:HandJ.lean.txt@@
@@BLOCK:HandW.lean.txt@@
@@BLOCK:HandBits.lean.txt@@
@@BLOCK:SymRun.lean.txt@@
@@BLOCK:RowBasics.lean.txt@@
@@BLOCK:Bridge.lean.txt@@
@@BLOCK:SymKit.lean.txt@@
@@BLOCK:SymWays.lean.txt@@
@@BLOCK:NumsL.lean.txt@@
@@BLOCK:Masks.lean.txt@@
namespace Jvm.Pilot.@@N@@
open Jvm Jvm.ClassFile Sem Op Jvm.Sym Jvm.Pilot.@@N@@.Jvm.D

/-! 1. the callee, of another class -/
def y : MethodName := ⟨"com/example/farspan/farspan/wire/Packet", "blocksOf", "(I)I"⟩
def ycode : ByteArray := prog_81_method_15_code
def yI : Info := { own := "com/example/farspan/farspan/wire/Packet", ret := some .int }
def yout : Option (Cond × List Cond × List Cond) := walk yI ycode 200 (entry [.int] 2)
theorem ywalks : yout.isSome = true := by decide +kernel
def ygot : Cond × List Cond × List Cond := yout.get ywalks
def yspec : Spec := specOf y ycode 2 (some .int) [.int] ygot.1 ygot.2.1 ygot.2.2
theorem ymeets (l : Launch) : MeetsLoose l y yspec :=
  walk_meets (n := 200) (I := yI) (by decide) rfl rfl (show walk yI ycode 200 (entry [.int] 2) = some (ygot.1, ygot.2.1, ygot.2.2) from (Option.some_get ywalks).symm)
theorem ycold : yspec.Cold := Spec.cold_of_keeps (by decide +kernel)
def ycallee : Callee := { y := y, S := yspec, bytes := ycode, maxL := 2, ret := some .int, static := true, params := 1, res := some .int }

/-! 2. the law's own walk -/
def I : Info := { own := x.cls, ret := ret, ints := [(7, 2147483647)], calls := [(8, ycallee)], maxLocals := maxLocals, room := room_1 }
theorem callsOk (l : Launch) : CallsOk l I maxLocals room_1 := fun q hq => by
  obtain rfl : q = (8, ycallee) := by simpa [I] using hq
  exact ⟨rfl, rfl, ymeets l, ycold⟩
def w := walkTo I code [] 400 true (entry [.int, .int] maxLocals)
theorem w_some : w.isSome = true := by decide +kernel
def tN : Term := .rem (.op2 .iand (.arg 0) (.int 2147483647)) (.int 16385)
def tB : Term := .op2 .iand (.arg 1) (.int 31)
def tK : Term := .div (.sub (.add tN (.int 512)) (.int 1)) (.int 512)
def tM : Term := .sub (.op2 .ishl (.int 1) tK) (.int 1)
def G0 : Jvm.Cond := .not (.eq (.old tK) (.old (.int 32)))
def G1 : Jvm.Cond := .eq (.old (.op2 .iand (.op2 .iushr tM tB) (.int 1))) (.int 0)
def G2 : Jvm.Cond := .eq (.old (.op2 .iand (.op2 .iushr (.int (-1)) tB) (.int 1))) (.int 0)
def G3 : Jvm.Cond := .le (.old tN) (.old (.mul tB (.int 512)))
def C00 : Jvm.Cond := .not (.eq (.old (.int 0)) (.old (.int 0)))
def C01 : Jvm.Cond := .not (.eq (.old (.int 0)) (.old (.int 1)))
def C10 : Jvm.Cond := .not (.eq (.old (.int 1)) (.old (.int 0)))
def C11 : Jvm.Cond := .not (.eq (.old (.int 1)) (.old (.int 1)))
def R (k : Int32) : STree := .ret (some ⟨.op2 .iand (.int k) (.int 1), .int⟩) []
def t0 : STree := .fork G0 (.fork G1 (.fork G3 (.fork C00 (R 0) (R 1)) (.fork C01 (R 0) (R 1))) (.fork G3 (.fork C10 (R 0) (R 1)) (.fork C11 (R 0) (R 1)))) (.fork G2 (.fork G3 (.fork C00 (R 0) (R 1)) (.fork C01 (R 0) (R 1))) (.fork G3 (.fork C10 (R 0) (R 1)) (.fork C11 (R 0) (R 1))))
theorem tree : (w.get w_some).1 = t0 := by decide +kernel
theorem entry_walk : walkTo I code [] 400 true (entry [.int, .int] maxLocals) = some (t0, (w.get w_some).2.1, (w.get w_some).2.2) := by
  rw [← tree]; exact (Option.some_get w_some).symm
theorem sorts_ok {a : Int32} {b : Int32} {s : State} : ∀ q ∈ Sym.sorts 0 [.int, .int], q.before #[.int a, .int b] s = true := by
  intro q hq
  simp only [Sym.sorts, List.mem_cons, List.not_mem_nil, or_false] at hq
  rcases hq with rfl | rfl <;> simp [isK, Cond.before, Cond.holds, Cond.value, Term.eval]
def Gs : List Jvm.Cond := [G0, G1, G2, G3, C00, C01, C10, C11]
/-! 3. the guards, and what the tree returns -/
def own_mask (k : Int32) : Int32 := if k = 32 then -1 else ((1 : Int32) <<< (k &&& 31)) - 1
def own_mark (m b : Int32) : Int32 := (m.toUInt32 >>> (b &&& 31).toUInt32).toInt32 &&& 1
theorem own_bits (k : Fin 33) (b : Fin 32) : decide (own_mark (own_mask (Int32.ofNat k.val)) (Int32.ofNat b.val) = 0) = decide (k.val ≤ b.val) := by
  revert k b; decide +kernel
theorem own_n (a : Int32) : ∃ n : Nat, n < 16385 ∧ (a &&& 2147483647) % 16385 = Int32.ofNat n := by
  have e : (a &&& 2147483647).toInt = a.toInt % 2 ^ 31 := Jvm.Kit.i32_mask a 2147483647 (k := 31) (by decide) (by decide)
  have e2 : ((a &&& 2147483647) % 16385).toInt = (a &&& 2147483647).toInt % 16385 := Jvm.Kit.i32_rem_nonneg (by omega)
  refine ⟨(((a &&& 2147483647) % 16385).toInt).toNat, by omega, Int32.toInt_inj.mp ?_⟩
  rw [Int32.toInt_ofNat_of_lt (by omega)]
  omega
theorem own_idx (b : Int32) : ∃ n : Fin 32, b &&& 31 = Int32.ofNat n.val := by
  have e : (b &&& 31).toInt = b.toInt % 2 ^ 5 := Jvm.Kit.i32_mask b 31 (k := 5) (by decide) (by decide)
  refine ⟨⟨((b &&& 31).toInt).toNat, by omega⟩, Int32.toInt_inj.mp ?_⟩
  rw [Int32.toInt_ofNat_of_lt (by simp only []; omega)]
  simp only []
  omega
theorem own_k (n : Nat) (hn : n < 16385) : (Int32.ofNat n + 512 - 1) / 512 = Int32.ofNat ((n + 511) / 512) := by
  have e0 : (Int32.ofNat n).toInt = n := Int32.toInt_ofNat_of_lt (by omega)
  have e5 : (512 : Int32).toInt = 512 := rfl
  have e1 : (1 : Int32).toInt = 1 := rfl
  have q1 : (Int32.ofNat n + 512).toInt = n + 512 := by rw [Jvm.Kit.i32_add (by omega) (by omega), e0, e5]
  have q2 : (Int32.ofNat n + 512 - 1).toInt = n + 511 := by rw [Jvm.Kit.i32_sub (by omega) (by omega), q1, e1]; omega
  apply Int32.toInt_inj.mp
  rw [Jvm.Kit.i32_div (by omega), q2, e5, Int32.toInt_ofNat_of_lt (by omega), Int.tdiv_eq_ediv_of_nonneg (by omega)]
  omega
theorem own_le (n : Nat) (hn : n < 16385) (b : Fin 32) : decide (Int32.ofNat n ≤ Int32.ofNat b.val * 512) = decide ((n + 511) / 512 ≤ b.val) := by
  have e0 : (Int32.ofNat n).toInt = n := Int32.toInt_ofNat_of_lt (by omega)
  have eb : (Int32.ofNat b.val).toInt = b.val := Int32.toInt_ofNat_of_lt (by omega)
  have e5 : (512 : Int32).toInt = 512 := rfl
  have q : (Int32.ofNat b.val * 512).toInt = b.val * 512 := by rw [Jvm.Kit.i32_mul (by rw [eb, e5]; omega) (by rw [eb, e5]; omega), eb, e5]
  apply decide_eq_decide.mpr
  rw [Int32.le_iff_toInt_le, e0, q]
  omega
theorem defined (a : Int32) (b : Int32) (s : State) : ∀ G ∈ Gs, ∃ z, G.value #[.int a, .int b] s none s [] = some z := by
  intro G hG
  simp only [Gs, List.mem_cons, List.not_mem_nil, or_false] at hG
  rcases hG with rfl | rfl | rfl | rfl | rfl | rfl | rfl | rfl <;> exact ⟨_, rfl⟩
theorem value_eq (a : Int32) (b : Int32) (s : State) : Kit.valueOf #[.int a, .int b] s t0 = some (.int 1) := by
  have g0 : G0.value #[.int a, .int b] s none s [] = some (!decide (((a &&& 2147483647) % 16385 + 512 - 1) / 512 = 32)) := rfl
  have g1 : G1.value #[.int a, .int b] s none s [] = some (decide (own_mark (((1 : Int32) <<< ((((a &&& 2147483647) % 16385 + 512 - 1) / 512) &&& 31)) - 1) (b &&& 31) = 0)) := rfl
  have g2 : G2.value #[.int a, .int b] s none s [] = some (decide (own_mark (-1) (b &&& 31) = 0)) := rfl
  have g3 : G3.value #[.int a, .int b] s none s [] = some (decide ((a &&& 2147483647) % 16385 ≤ (b &&& 31) * 512)) := rfl
  have c00 : C00.value #[.int a, .int b] s none s [] = some false := rfl
  have c01 : C01.value #[.int a, .int b] s none s [] = some true := rfl
  have c10 : C10.value #[.int a, .int b] s none s [] = some true := rfl
  have c11 : C11.value #[.int a, .int b] s none s [] = some false := rfl
  have r1 : (Term.op2 .iand (.int 1) (.int 1)).eval #[.int a, .int b] s none [] s = some (.int 1) := rfl
  obtain ⟨n, hn, en⟩ := own_n a
  obtain ⟨i, ei⟩ := own_idx b
  rw [en, own_k n hn] at g0 g1
  rw [ei] at g1 g2
  rw [en, ei, own_le n hn i] at g3
  have hk : (n + 511) / 512 < 33 := by omega
  have hb := own_bits ⟨(n + 511) / 512, hk⟩ i
  simp only [] at hb
  generalize (n + 511) / 512 = k at *
  by_cases h32 : Int32.ofNat k = 32
  · rw [own_mask, if_pos h32] at hb
    rw [hb] at g2
    rw [h32] at g0
    simp only [t0, R, Kit.valueOf, g0, g2, g3, c00, c01, c10, c11, r1]
    by_cases hl : k ≤ i.val <;> simp [hl]
  · rw [own_mask, if_neg h32] at hb
    rw [hb] at g1
    simp only [t0, R, Kit.valueOf, g0, g1, g3, c00, c01, c10, c11, r1, h32]
    by_cases hl : k ≤ i.val <;> simp [hl]
/-! 4. the contract, the limbs -/
def post_1 : Jvm.Cond := .and limb_1_1 limb_1_2
theorem met_1 (l : Launch) : MeetsLoose l x (armSpec x code maxLocals ret tables_1 room_1 .tt (.and given_1 narrow_1) post_1 frame_1_writes frame_1_arrays frame_1_statics) := by
  refine loops_meets (I := I) (ks0 := [.int, .int]) (cuts := []) (by decide) rfl rfl rfl rfl rfl (fun args s h => ?_) entry_walk (fun _ => none) (fun _ _ _ _ _ => False) (fun _ _ _ => 0) (fun args s h => ?_) (fun args s _ h ks hks => by cases hks) (callsOk l)
  · simp only [armSpec, allAtoms, List.foldr_cons, Cond.before_and, Bool.and_eq_true] at h; exact h.1.1
  · have hts : (allAtoms (Cond.code x code maxLocals ret :: tables_1)).before args s = true := by simp only [armSpec, Cond.before_and, Bool.and_eq_true] at h; exact h.1
    have hK : (Cond.and .tt (.and given_1 narrow_1)).before args s = true := by simp only [armSpec, Cond.before_and, Bool.and_eq_true] at h ⊢; exact h.2
    simp only [armSpec, given_1, Cond.before_and, Bool.and_eq_true] at h
    obtain ⟨-, -, ⟨hc, h0, h1⟩, hn⟩ := h
    obtain ⟨a, b, rfl⟩ := Cond.two_ints hc h0 h1
    have hT := known3 (Gt := [.isInt tN, .isInt tK, .isInt tM, .isInt (.int (-1))]) hts hK (by
      intro q hq
      simp only [List.mem_cons, List.not_mem_nil, or_false] at hq
      rcases hq with rfl | rfl | rfl | rfl <;> rfl)
    have hF : ∀ q ∈ ([] : List Jvm.Cond), q.value #[.int a, .int b] s none s [] = some false := fun q hq => by cases hq
    refine ⟨rfl, sorts_ok, tabs_of_sub hts (by decide +kernel), needs_of_ways (Gs := Gs) hT hF (defined a b s) (by decide +kernel), Kit.vc_of_value (w₀ := .int 1) (fun E => ?_) t0 (by decide +kernel) (value_eq a b s)⟩
    simp [armSpec, post_1, limb_1_1, limb_1_2, Cond.after, Cond.holds, Cond.value, Term.eval]
theorem main_1_1 : Claimed_1_1 := armFor_of_meets0 (fun l => (met_1 l).meets) fun _ _ _ _ h => by simp only [post_1, Cond.after_and, Bool.and_eq_true] at h; exact h.1
theorem main_1_2 : Claimed_1_2 := armFor_of_meets0 (fun l => (met_1 l).meets) fun _ _ _ _ h => by simp only [post_1, Cond.after_and, Bool.and_eq_true] at h; exact h.2
end Jvm.Pilot.@@N@@
namespace Jvm.Pilot.@@N@@
open Jvm Jvm.ClassFile Sem Op Lib Jvm.Free Jvm.Stand Jvm.Pilot.@@N@@.Jvm.D
/-! MADE BY PROGRAM (witnessworld.py) out of the Statement's table words and the real class files: 9 classes; the members and pool entries that the words name. The judged class is class 1, her method 1. -/
namespace start1
open Jvm.ClassFile
def u (s : String) : CpInfo := .utf8 (stringToUtf16 s)
/-- a pool by its gaps: so many unusable entries, then the entry; so many at the end -/
def gap : Nat → List CpInfo → List CpInfo
  | 0, r => r
  | n + 1, r => .unusable :: gap n r
def poolList (es : List (Nat × CpInfo)) (last : Nat) : List CpInfo := es.foldr (fun e r => gap e.1 (e.2 :: r)) (gap last [])
def pool (es : List (Nat × CpInfo)) (last : Nat) : Array CpInfo := ⟨poolList es last⟩
def fileOf (pool : Array CpInfo) (this : Nat) (attrs : Array Attribute := #[]) (ms : Array MethodInfo := #[]) (fl : Nat := 33) (sup : Nat := 0) (ifs : Array Nat := #[]) (fds : Array FieldInfo := #[]) : ClassFile where
  minorVersion := 0
  majorVersion := 65
  constantPool := pool
  accessFlags := fl
  thisClass := this
  superClass := sup
  interfaces := ifs
  fields := fds
  methods := ms
  attributes := attrs
def plain (name : String) (sup : Option ClassId) : Class where
  name := name
  kind := .ordinary
  loader := none
  accessFlags := 33
  super := sup
  interfaces := #[]
  cf := none
  fields := #[]
  methods := #[]
  instanceTypes := #[]
  staticTypes := #[]
  resolved := #[]
  callSites := []
  init := .initialized
  statics := none
  mirror := none

def pool0 : Array CpInfo := pool [(5, u "<init>"), (0, u "()V"), (1, .class_ 10), (1, u "java/lang/Object")] 113

def k0m0 : Method := { name := "<init>", desc := "()V", sig := { parameters := [], returnType := none }, accessFlags := 1, code := none }
/-- java/lang/Object -/
def k0 : Class := { plain "java/lang/Object" none with
  accessFlags := 33
  interfaces := #[]
  cf := some (fileOf pool0 8 #[] #[{ accessFlags := 1, nameIndex := 5, descriptorIndex := 6, attributes := #[] }] 33 0 #[] #[])
  fields := #[]
  methods := #[k0m0]
  instanceTypes := #[]
  staticTypes := #[]
  resolved := Array.replicate 124 none
  statics := none }

def pool1 : Array CpInfo := pool [(2, .class_ 4), (1, u "java/lang/Object"), (0, u "<init>"), (0, u "()V"), (0, .integer 2147483647), (0, .methodref 9 10), (0, .class_ 11), (0, .nameAndType 12 13), (0, u "com/example/farspan/farspan/wire/Packet"), (0, u "blocksOf"), (0, u "(I)I"), (0, .class_ 15), (0, u "com/example/farspan/farspan/wire/PacketBlocksOfPinLaw"), (2, u "law"), (0, u "(II)Z")] 3

def k1m0 : Method := { name := "<init>", desc := "()V", sig := { parameters := [], returnType := none }, accessFlags := 2, code := none }
def k1c1 : Code := { maxStack := 2, maxLocals := 7, code := code, exceptionTable := #[], attributes := #[] }
def k1m1 : Method := { name := "law", desc := "(II)Z", sig := { parameters := [.int, .int], returnType := some .boolean }, accessFlags := 9, code := some k1c1 }
/-- com/example/farspan/farspan/wire/PacketBlocksOfPinLaw -/
def k1 : Class := { plain "com/example/farspan/farspan/wire/PacketBlocksOfPinLaw" (some 0) with
  accessFlags := 49
  interfaces := #[]
  cf := some (fileOf pool1 14 #[] #[{ accessFlags := 2, nameIndex := 5, descriptorIndex := 6, attributes := #[] }, { accessFlags := 9, nameIndex := 18, descriptorIndex := 19, attributes := #[] }] 49 2 #[] #[])
  fields := #[]
  methods := #[k1m0, k1m1]
  instanceTypes := #[]
  staticTypes := #[]
  resolved := Array.replicate 23 none
  statics := none }

def pool2 : Array CpInfo := pool [(1, .class_ 2), (0, u "com/example/farspan/farspan/wire/Packet"), (5, .class_ 10), (1, u "java/lang/Object"), (16, u "client"), (0, u "Lcom/example/farspan/farspan/wire/EntityId;"), (2, u "domain"), (0, u "I"), (2, u "control"), (2, u "transaction"), (2, u "packetDelivery"), (2, u "server"), (2, u "code"), (3, u "[B"), (4, u "userData"), (2, u "msgDelivery"), (2, u "segmentSize"), (2, u "data"), (6, u "blocksOf"), (0, u "(I)I"), (101, .class_ 176), (0, u "com/example/farspan/farspan/wire/Packet$Forwarded"), (106, u "HEADER_SIZE"), (2, u "MIN_SIZE"), (1, u "USER_DATA_SIZE"), (1, u "RESPONSE"), (1, u "SDA"), (0, u "MDM"), (1, u "MAX_FORWARD_COUNT"), (1, u "FORWARD_TRAILER"), (1, u "BLOCK_SIZE"), (1, u "MAX_GROUP_SEGMENT"), (1, u "MAX_RUN"), (1, u "MAX_SEGMENT"), (0, u "WORD"), (1, u "PADDING"), (0, u "VERSION_SHIFT"), (1, u "DOMAIN_SHIFT"), (1, u "MAX_DOMAIN"), (1, u "MAX_LENGTH"), (0, u "FORWARD_SHIFT"), (0, u "IPV4_SIZE"), (0, u "PORT_MASK")] 58

def k2c0 : Code := { maxStack := 2, maxLocals := 2, code := prog_81_method_15_code, exceptionTable := #[], attributes := #[] }
def k2m0 : Method := { name := "blocksOf", desc := "(I)I", sig := { parameters := [.int], returnType := some .int }, accessFlags := 9, code := some k2c0 }
/-- com/example/farspan/farspan/wire/Packet -/
def k2 : Class := { plain "com/example/farspan/farspan/wire/Packet" (some 0) with
  accessFlags := 49
  interfaces := #[]
  cf := some (fileOf pool2 1 #[.nestMembers #[175]] #[{ accessFlags := 9, nameIndex := 72, descriptorIndex := 73, attributes := #[] }] 49 8 #[] #[{ accessFlags := 25, nameIndex := 283, descriptorIndex := 32, attributes := #[] }, { accessFlags := 25, nameIndex := 286, descriptorIndex := 32, attributes := #[] }, { accessFlags := 25, nameIndex := 288, descriptorIndex := 32, attributes := #[] }, { accessFlags := 25, nameIndex := 290, descriptorIndex := 32, attributes := #[] }, { accessFlags := 25, nameIndex := 292, descriptorIndex := 32, attributes := #[] }, { accessFlags := 25, nameIndex := 293, descriptorIndex := 32, attributes := #[] }, { accessFlags := 25, nameIndex := 295, descriptorIndex := 32, attributes := #[] }, { accessFlags := 25, nameIndex := 297, descriptorIndex := 32, attributes := #[] }, { accessFlags := 25, nameIndex := 299, descriptorIndex := 32, attributes := #[] }, { accessFlags := 25, nameIndex := 301, descriptorIndex := 32, attributes := #[] }, { accessFlags := 25, nameIndex := 303, descriptorIndex := 32, attributes := #[] }, { accessFlags := 25, nameIndex := 305, descriptorIndex := 32, attributes := #[] }, { accessFlags := 26, nameIndex := 306, descriptorIndex := 32, attributes := #[] }, { accessFlags := 26, nameIndex := 308, descriptorIndex := 32, attributes := #[] }, { accessFlags := 26, nameIndex := 309, descriptorIndex := 32, attributes := #[] }, { accessFlags := 26, nameIndex := 311, descriptorIndex := 32, attributes := #[] }, { accessFlags := 26, nameIndex := 313, descriptorIndex := 32, attributes := #[] }, { accessFlags := 26, nameIndex := 315, descriptorIndex := 32, attributes := #[] }, { accessFlags := 26, nameIndex := 316, descriptorIndex := 32, attributes := #[] }, { accessFlags := 26, nameIndex := 317, descriptorIndex := 32, attributes := #[] }, { accessFlags := 26, nameIndex := 318, descriptorIndex := 32, attributes := #[] }, { accessFlags := 18, nameIndex := 27, descriptorIndex := 28, attributes := #[] }, { accessFlags := 18, nameIndex := 31, descriptorIndex := 32, attributes := #[] }, { accessFlags := 18, nameIndex := 35, descriptorIndex := 32, attributes := #[] }, { accessFlags := 18, nameIndex := 38, descriptorIndex := 32, attributes := #[] }, { accessFlags := 18, nameIndex := 41, descriptorIndex := 32, attributes := #[] }, { accessFlags := 18, nameIndex := 44, descriptorIndex := 28, attributes := #[] }, { accessFlags := 18, nameIndex := 47, descriptorIndex := 32, attributes := #[] }, { accessFlags := 18, nameIndex := 56, descriptorIndex := 51, attributes := #[] }, { accessFlags := 18, nameIndex := 59, descriptorIndex := 32, attributes := #[] }, { accessFlags := 18, nameIndex := 62, descriptorIndex := 32, attributes := #[] }, { accessFlags := 18, nameIndex := 65, descriptorIndex := 51, attributes := #[] }])
  fields := #[{ name := "HEADER_SIZE", type := .int, accessFlags := 25, slot := 0, constantValue := 0 }, { name := "MIN_SIZE", type := .int, accessFlags := 25, slot := 1, constantValue := 0 }, { name := "USER_DATA_SIZE", type := .int, accessFlags := 25, slot := 2, constantValue := 0 }, { name := "RESPONSE", type := .int, accessFlags := 25, slot := 3, constantValue := 0 }, { name := "SDA", type := .int, accessFlags := 25, slot := 4, constantValue := 0 }, { name := "MDM", type := .int, accessFlags := 25, slot := 5, constantValue := 0 }, { name := "MAX_FORWARD_COUNT", type := .int, accessFlags := 25, slot := 6, constantValue := 0 }, { name := "FORWARD_TRAILER", type := .int, accessFlags := 25, slot := 7, constantValue := 0 }, { name := "BLOCK_SIZE", type := .int, accessFlags := 25, slot := 8, constantValue := 0 }, { name := "MAX_GROUP_SEGMENT", type := .int, accessFlags := 25, slot := 9, constantValue := 0 }, { name := "MAX_RUN", type := .int, accessFlags := 25, slot := 10, constantValue := 0 }, { name := "MAX_SEGMENT", type := .int, accessFlags := 25, slot := 11, constantValue := 0 }, { name := "WORD", type := .int, accessFlags := 26, slot := 12, constantValue := 0 }, { name := "PADDING", type := .int, accessFlags := 26, slot := 13, constantValue := 0 }, { name := "VERSION_SHIFT", type := .int, accessFlags := 26, slot := 14, constantValue := 0 }, { name := "DOMAIN_SHIFT", type := .int, accessFlags := 26, slot := 15, constantValue := 0 }, { name := "MAX_DOMAIN", type := .int, accessFlags := 26, slot := 16, constantValue := 0 }, { name := "MAX_LENGTH", type := .int, accessFlags := 26, slot := 17, constantValue := 0 }, { name := "FORWARD_SHIFT", type := .int, accessFlags := 26, slot := 18, constantValue := 0 }, { name := "IPV4_SIZE", type := .int, accessFlags := 26, slot := 19, constantValue := 0 }, { name := "PORT_MASK", type := .int, accessFlags := 26, slot := 20, constantValue := 0 }, { name := "client", type := (.object "com/example/farspan/farspan/wire/EntityId"), accessFlags := 18, slot := 0, constantValue := 0 }, { name := "domain", type := .int, accessFlags := 18, slot := 1, constantValue := 0 }, { name := "control", type := .int, accessFlags := 18, slot := 2, constantValue := 0 }, { name := "transaction", type := .int, accessFlags := 18, slot := 3, constantValue := 0 }, { name := "packetDelivery", type := .int, accessFlags := 18, slot := 4, constantValue := 0 }, { name := "server", type := (.object "com/example/farspan/farspan/wire/EntityId"), accessFlags := 18, slot := 5, constantValue := 0 }, { name := "code", type := .int, accessFlags := 18, slot := 6, constantValue := 0 }, { name := "userData", type := (.array .byte), accessFlags := 18, slot := 7, constantValue := 0 }, { name := "msgDelivery", type := .int, accessFlags := 18, slot := 8, constantValue := 0 }, { name := "segmentSize", type := .int, accessFlags := 18, slot := 9, constantValue := 0 }, { name := "data", type := (.array .byte), accessFlags := 18, slot := 10, constantValue := 0 }]
  methods := #[k2m0]
  instanceTypes := #[(.object "com/example/farspan/farspan/wire/EntityId"), .int, .int, .int, .int, (.object "com/example/farspan/farspan/wire/EntityId"), .int, (.array .byte), .int, .int, (.array .byte)]
  staticTypes := #[.int, .int, .int, .int, .int, .int, .int, .int, .int, .int, .int, .int, .int, .int, .int, .int, .int, .int, .int, .int, .int]
  resolved := Array.replicate 377 none
  statics := none }

def pool3 : Array CpInfo := pool [(1, u "java/lang/Cloneable"), (0, .class_ 1), (0, u "java/lang/Object"), (0, .class_ 3)] 3

/-- java/lang/Cloneable -/
def k3 : Class := { plain "java/lang/Cloneable" (some 0) with
  accessFlags := 1537
  interfaces := #[]
  cf := some (fileOf pool3 2 #[] #[] 1537 4 #[] #[])
  fields := #[]
  methods := #[]
  instanceTypes := #[]
  staticTypes := #[]
  resolved := Array.replicate 8 none
  statics := none }

def pool4 : Array CpInfo := pool [(1, u "java/io/Serializable"), (0, .class_ 1), (0, u "java/lang/Object"), (0, .class_ 3)] 3

/-- java/io/Serializable -/
def k4 : Class := { plain "java/io/Serializable" (some 0) with
  accessFlags := 1537
  interfaces := #[]
  cf := some (fileOf pool4 2 #[] #[] 1537 4 #[] #[])
  fields := #[]
  methods := #[]
  instanceTypes := #[]
  staticTypes := #[]
  resolved := Array.replicate 8 none
  statics := none }

/-- the primitive byte -/
def k5 : Class := { plain "byte" none with kind := .primitive 'B', accessFlags := 0x411 }
/-- [B -/
def k6 : Class := { plain "[B" (some 0) with kind := .array 5 .byte, interfaces := #[3, 4], accessFlags := 1041 }

/-- the primitive int -/
def k7 : Class := { plain "int" none with kind := .primitive 'I', accessFlags := 0x411 }
/-- [I -/
def k8 : Class := { plain "[I" (some 0) with kind := .array 7 .int, interfaces := #[3, 4], accessFlags := 1041 }

def heap : Heap := #[]
def classes : Array Class := #[k0, k1, k2, k3, k4, k5, k6, k7, k8]
def interned : List (Array UInt16 × Addr) := []
def slotsUsed : Nat := 0
def theMethod : MethodId := ⟨1, 1⟩
def args0 : Array Value := #[.int 700, .int 1]
def aboutOver (below : List Frame) : State where
  vm := { classes := classes, interned := interned.toArray }
  heap := heap
  slotsUsed := slotsUsed
  threads := #[{ frames := .invoking theMethod args0 :: below }]
def below0 : List Frame := [.native { method := ⟨0, 0⟩, args := #[] }]
def about1 : State := aboutOver below0
def p0 : Program := .bare "" "" ""
def e0 : Env := launch0.env 0 0 0
theorem w_frames : about1.frames = Frame.invoking theMethod args0 :: below0 := rfl
set_option maxRecDepth 65536 in
theorem w_args : argsFit about1.vm theMethod args0 = true := by decide +kernel
set_option maxRecDepth 65536 in
theorem w_heap : heapFits about1 = true := by decide +kernel
set_option maxRecDepth 65536 in
theorem w_runnable : about1.curStatus? = some .runnable := by decide +kernel
set_option maxRecDepth 65536 in
theorem w_alone : about1.alone = true := by decide +kernel
set_option maxRecDepth 65536 in
theorem w_named : about1.methodNamed? x = some theMethod := by decide +kernel
set_option maxRecDepth 65536 in
theorem w_hears : about1.hears theMethod below0 = true := by decide +kernel
set_option maxRecDepth 65536 in
theorem w_ripe : about1.ripe theMethod args0 below0 = true := by decide +kernel
theorem w_running : about1.status = .running := rfl
set_option maxRecDepth 65536 in
theorem w_room : about1.hasRoom e0.platform room_1 = true :=
  launch0.hasRoom_least _ room_1 (by decide +kernel) (by decide +kernel) (by decide +kernel) (by decide +kernel) (by decide +kernel) (by decide +kernel)
theorem allAtoms_all (ts : List Jvm.Cond) (a : Array Jvm.Value) (st : Jvm.State) : (allAtoms ts).before a st = ts.all (fun c => c.before a st) := by
  induction ts with
  | nil => rfl
  | cons c t ih =>
    show (Jvm.Cond.and c (allAtoms t)).before a st = _
    rw [Jvm.Cond.before_and, ih, List.all_cons]
def words1 : List Jvm.Cond := Jvm.Cond.code x code maxLocals ret :: tables_1
/-- a 'code' word, met by the world's own term for the bytes: nothing is compared byte by byte -/
theorem code_word {y : MethodName} {bytes : ByteArray} {mx : Nat} {rt : Option FieldType} {a : Array Value} {s : State} {m : MethodId} {meth : Method} {c : Code} (h1 : s.methodNamed? y = some m) (h2 : s.vm.method? m = some meth) (h3 : meth.code = some c) (h4 : c.code = bytes)
    (h5 : (c.maxLocals == mx && c.exceptionTable.isEmpty && decide (c.maxStack ≤ mostOperands) && decide (meth.sig.returnType = rt) && !meth.locks && decide (parseMethodDescriptor y.desc = some meth.sig)) = true) : (Jvm.Cond.code y bytes mx rt).before a s = true := by
  simp only [Bool.and_eq_true, beq_iff_eq, Bool.not_eq_true', decide_eq_true_eq] at h5
  obtain ⟨⟨⟨⟨⟨g1, g2⟩, g3⟩, g4⟩, g5⟩, g6⟩ := h5
  simp [Cond.before, Cond.holds, Cond.value, h1, h2, h3, h4, g1, g2, g3, g4, g5, g6]
def isCode : Jvm.Cond → Bool
  | .code _ _ _ _ => true
  | _ => false
theorem all_split {L : List Jvm.Cond} {P : Jvm.Cond → Bool} (h1 : L.all (fun c => isCode c || P c) = true) (h2 : ∀ c ∈ L.filter isCode, P c = true) : L.all P = true := by
  refine List.all_eq_true.mpr fun c hc => ?_
  have h := List.all_eq_true.mp h1 c hc
  rcases Bool.eq_false_or_eq_true (isCode c) with hi | hi
  · exact h2 c (List.mem_filter.mpr ⟨hc, hi⟩)
  · simpa [hi] using h
set_option maxRecDepth 65536 in
theorem w_c0 : (Jvm.Cond.code x code maxLocals ret).before args0 about1 = true := code_word (m := ⟨1, 1⟩) (meth := k1m1) (c := k1c1) (by decide +kernel) rfl rfl rfl (by decide +kernel)
set_option maxRecDepth 65536 in
theorem w_c1 : (Jvm.Cond.code ({ cls := "com/example/farspan/farspan/wire/Packet", name := "blocksOf", desc := "(I)I" } : Jvm.MethodName) prog_81_method_15_code (2 : Nat) (Option.some Jvm.ClassFile.FieldType.int)).before args0 about1 = true := code_word (m := ⟨2, 0⟩) (meth := k2m0) (c := k2c0) (by decide +kernel) rfl rfl rfl (by decide +kernel)
def codes1 : List Jvm.Cond := [Jvm.Cond.code x code maxLocals ret, Jvm.Cond.code ({ cls := "com/example/farspan/farspan/wire/Packet", name := "blocksOf", desc := "(I)I" } : Jvm.MethodName) prog_81_method_15_code (2 : Nat) (Option.some Jvm.ClassFile.FieldType.int)]
set_option maxRecDepth 65536 in
theorem codes_eq : words1.filter isCode = codes1 := rfl
theorem w_codes : ∀ c ∈ words1.filter isCode, c.before args0 about1 = true := by
  rw [codes_eq]
  intro c hc
  simp only [codes1, List.mem_cons, List.not_mem_nil, or_false] at hc
  rcases hc with rfl | rfl
  · exact w_c0
  · exact w_c1
set_option maxRecDepth 65536 in
theorem w_t1 : words1.all (fun c => isCode c || c.before args0 about1) = true := by decide +kernel
theorem w_tables : (allAtoms (Jvm.Cond.code x code maxLocals ret :: tables_1)).before args0 about1 = true := by
  rw [allAtoms_all]
  show words1.all (fun c => c.before args0 about1) = true
  refine all_split ?_ w_codes
  rw [w_t1]
set_option maxRecDepth 65536 in
theorem w_case : (Jvm.Cond.and given_1 narrow_1).before args0 about1 = true := by decide +kernel
theorem w_applies : (headSpec (Jvm.Cond.code x code maxLocals ret :: tables_1) room_1).applies x e0.platform about1 = true :=
  (Spec.applies_iff w_frames).mpr ⟨w_running, w_runnable, w_alone, w_named, w_hears, w_ripe, w_room, w_tables⟩
theorem atStart : AtStart classFile x code maxLocals ret World_1 tables_1 room_1 Calls_1 rest_1 Pre_1 launch0 p0 e0 about1 theMethod args0 below0 :=
  ⟨lists_1, trivial, launch0.admits_env _ _ _, launch0.least_env, fairChoices_fair.cas, fairChoices_fair.clock, w_frames, w_args, w_heap, w_applies, trivial, trivial, w_case⟩
end start1
theorem witness_1 : WitnessClaimed_1 := ⟨start1.p0, start1.e0, start1.about1, start1.theMethod, start1.args0, start1.below0, start1.atStart⟩
end Jvm.Pilot.@@N@@
