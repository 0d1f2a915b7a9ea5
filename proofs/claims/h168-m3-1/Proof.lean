import JvmDerived
import JvmDerived.Pilot.@@N@@Statement
import JvmDerived.Pilot.@@N@@Code
set_option linter.unusedVariables false
set_option linter.unusedSimpArgs false
namespace Jvm.Pilot.@@N@@
open Jvm Jvm.ClassFile Sem Op Lib Jvm.Free Jvm.Stand Jvm.LawKit Jvm.RoadKit Bundle Jvm.Pilot.@@N@@.Jvm.D
abbrev OTr := List (Nat × Instr × Nat)
abbrev OR := Option (Prop × Nat × Array Slot × List Value)
/-- place j of the array at a holds v -/
def Rd (Z : State) (h : Heap) (a : Addr) (ty : FieldType) (j : Int32) (v : Value) : Prop := ∃ c, Arr Z h a c ty ∧ ¬ (j < 0 ∨ c.slots.size ≤ j.toNatClampNeg) ∧ c.slots[j.toNatClampNeg]? = some v
/-- the array at a has n places -/
def Ln (Z : State) (h : Heap) (a : Addr) (n : Int32) : Prop := ∃ c ty, Arr Z h a c ty ∧ c.slots.size.toInt32 = n
def okB (b : ByteArray) (t : OTr) : Bool := t.all fun x => decide (decode b x.1 = .ok (x.2.1, x.2.2))
def cII : ClassFile.Cond → Bool → Int32 → Int32 → Prop
  | .eq, true, x, y => x = y
  | .eq, false, x, y => ¬ x = y
  | .ne, true, x, y => ¬ x = y
  | .ne, false, x, y => x = y
  | .lt, true, x, y => x < y
  | .lt, false, x, y => ¬ x < y
  | .ge, true, x, y => ¬ x < y
  | .ge, false, x, y => x < y
  | .gt, true, x, y => y < x
  | .gt, false, x, y => ¬ y < x
  | .le, true, x, y => ¬ y < x
  | .le, false, x, y => y < x
def cAA : ClassFile.ACond → Bool → Value → Value → Prop
  | .eq, true, x, y => x = y
  | .eq, false, x, y => ¬ x = y
  | .ne, true, x, y => ¬ x = y
  | .ne, false, x, y => x = y
def oAnd (c : Prop) (r : OR) : OR := match r with | some (P, x) => some (c ∧ P, x) | none => none
def oLdI (L : Array Slot) (x : Nat) (f : Value → OR) : OR := match L[x]? with | some (.val (.int v)) => f (.int v) | _ => none
def oLdI' (L : Array Slot) (x : Nat) (f : Int32 → OR) : OR := match L[x]? with | some (.val (.int v)) => f v | _ => none
def oLdJ (L : Array Slot) (x : Nat) (f : Value → OR) : OR := match L[x]? with | some (.val (.long v)) => f (.long v) | _ => none
def oLdA (L : Array Slot) (x : Nat) (f : Value → OR) : OR := match L[x]? with | some (.val (.ref v)) => f (.ref v) | some (.val .null) => f .null | _ => none
def oSt (L : Array Slot) (x : Nat) (v : Value) (f : Array Slot → OR) : OR := match storeLocals L x v with | some L' => f L' | none => none
def oI (S : List Value) (f : Int32 → List Value → OR) : OR := match S with | .int v :: r => f v r | _ => none
def oJ (S : List Value) (f : Int64 → List Value → OR) : OR := match S with | .long v :: r => f v r | _ => none
def oR (S : List Value) (f : Addr → List Value → OR) : OR := match S with | .ref v :: r => f v r | _ => none
def oA (S : List Value) (f : Value → List Value → OR) : OR := match S with | .ref v :: r => f (.ref v) r | .null :: r => f .null r | _ => none
def oNul (S : List Value) (f : List Value → OR) (g : Addr → List Value → OR) : OR := match S with | .null :: r => f r | .ref v :: r => g v r | _ => none
def o1 (S : List Value) (f : Value → List Value → OR) : OR := match S with | .ref v :: r => f (.ref v) r | .null :: r => f .null r | .int v :: r => f (.int v) r | _ => none
def oD2 (S : List Value) (f : Int64 → List Value → OR) (g : Value → Value → List Value → OR) : OR := match S with | .long v :: r => f v r | S => o1 S fun v r => o1 r fun w r' => g v w r'
def oII (S : List Value) (f : Int32 → Int32 → List Value → OR) : OR := match S with | .int y :: .int x :: r => f x y r | _ => none
def oJJ (S : List Value) (f : Int64 → Int64 → List Value → OR) : OR := match S with | .long y :: .long x :: r => f x y r | _ => none
def oJI (S : List Value) (f : Int64 → Int32 → List Value → OR) : OR := match S with | .int y :: .long x :: r => f x y r | _ => none
def oIR (S : List Value) (f : Int32 → Addr → List Value → OR) : OR := match S with | .int y :: .ref x :: r => f y x r | _ => none
def oB (o : List Value) (f g : List Value → OR) : OR := match o with | .ref _ :: o' => f o' | .null :: o' => g o' | _ => none
def oV (o : List Value) (f : Value → List Value → OR) : OR := match o with | v :: o' => f v o' | _ => none
def oN (o : List Value) (f : Int32 → List Value → OR) : OR := match o with | .int v :: o' => f v o' | _ => none
def oM (o : List Value) (f : Int64 → List Value → OR) : OR := match o with | .long v :: o' => f v o' | _ => none
def oTo (pc : Nat) (d : Int) (f : Nat → OR) : OR := bif decide (0 ≤ (pc : Int) + d) then f ((pc : Int) + d).toNat else none
def ost (Z : State) (h : Heap) (a0 : Array Value) (own : String) (i : Instr) (n pc : Nat) (L : Array Slot) (S : List Value) (o : List Value) (k : Nat → Array Slot → List Value → List Value → OR) : OR :=
  match i with
  | .iload x => bif Nat.beq n 2 then oLdI L x fun v => k (pc + 2) L (v :: S) o else none
  | .iload_n x => bif Nat.beq n 1 then oLdI L x.val fun v => k (pc + 1) L (v :: S) o else none
  | .lload x => bif Nat.beq n 2 then oLdJ L x fun v => k (pc + 2) L (v :: S) o else none
  | .lload_n x => bif Nat.beq n 1 then oLdJ L x.val fun v => k (pc + 1) L (v :: S) o else none
  | .aload x => bif Nat.beq n 2 then oLdA L x fun v => k (pc + 2) L (v :: S) o else none
  | .aload_n x => bif Nat.beq n 1 then oLdA L x.val fun v => k (pc + 1) L (v :: S) o else none
  | .istore x => bif Nat.beq n 2 then oI S fun v r => oSt L x (.int v) fun L' => k (pc + 2) L' r o else none
  | .istore_n x => bif Nat.beq n 1 then oI S fun v r => oSt L x.val (.int v) fun L' => k (pc + 1) L' r o else none
  | .lstore x => bif Nat.beq n 2 then oJ S fun v r => oSt L x (.long v) fun L' => k (pc + 2) L' r o else none
  | .lstore_n x => bif Nat.beq n 1 then oJ S fun v r => oSt L x.val (.long v) fun L' => k (pc + 1) L' r o else none
  | .astore x => bif Nat.beq n 2 then oA S fun v r => oSt L x (v) fun L' => k (pc + 2) L' r o else none
  | .astore_n x => bif Nat.beq n 1 then oA S fun v r => oSt L x.val (v) fun L' => k (pc + 1) L' r o else none
  | .iconst i => bif Nat.beq n 1 then k (pc + 1) L (.int (Int32.ofInt i) :: S) o else none
  | .bipush i => bif Nat.beq n 2 then k (pc + 2) L (.int (Int8.ofInt i).toInt32 :: S) o else none
  | .sipush i => bif Nat.beq n 3 then k (pc + 3) L (.int (Int16.ofInt i).toInt32 :: S) o else none
  | .lconst i => bif Nat.beq n 1 then k (pc + 1) L (.long (Int64.ofNat i) :: S) o else none
  | .aconst_null => bif Nat.beq n 1 then k (pc + 1) L (.null :: S) o else none
  | .iadd => bif Nat.beq n 1 then oII S fun x y r => k (pc + 1) L (.int (x + y) :: r) o else none
  | .isub => bif Nat.beq n 1 then oII S fun x y r => k (pc + 1) L (.int (x - y) :: r) o else none
  | .imul => bif Nat.beq n 1 then oII S fun x y r => k (pc + 1) L (.int (x * y) :: r) o else none
  | .iand => bif Nat.beq n 1 then oII S fun x y r => k (pc + 1) L (.int (x &&& y) :: r) o else none
  | .ior => bif Nat.beq n 1 then oII S fun x y r => k (pc + 1) L (.int (x ||| y) :: r) o else none
  | .ixor => bif Nat.beq n 1 then oII S fun x y r => k (pc + 1) L (.int (x ^^^ y) :: r) o else none
  | .ishl => bif Nat.beq n 1 then oII S fun x y r => k (pc + 1) L (.int (x <<< (y &&& 31)) :: r) o else none
  | .ishr => bif Nat.beq n 1 then oII S fun x y r => k (pc + 1) L (.int (x >>> (y &&& 31)) :: r) o else none
  | .iushr => bif Nat.beq n 1 then oII S fun x y r => k (pc + 1) L (.int (XT.ushr x y) :: r) o else none
  | .idiv => bif Nat.beq n 1 then oII S fun x y r => oAnd (y ≠ 0) (k (pc + 1) L (.int (x / y) :: r) o) else none
  | .irem => bif Nat.beq n 1 then oII S fun x y r => oAnd (y ≠ 0) (k (pc + 1) L (.int (x % y) :: r) o) else none
  | .ladd => bif Nat.beq n 1 then oJJ S fun x y r => k (pc + 1) L (.long (x + y) :: r) o else none
  | .lsub => bif Nat.beq n 1 then oJJ S fun x y r => k (pc + 1) L (.long (x - y) :: r) o else none
  | .lmul => bif Nat.beq n 1 then oJJ S fun x y r => k (pc + 1) L (.long (x * y) :: r) o else none
  | .land => bif Nat.beq n 1 then oJJ S fun x y r => k (pc + 1) L (.long (x &&& y) :: r) o else none
  | .lor => bif Nat.beq n 1 then oJJ S fun x y r => k (pc + 1) L (.long (x ||| y) :: r) o else none
  | .lxor => bif Nat.beq n 1 then oJJ S fun x y r => k (pc + 1) L (.long (x ^^^ y) :: r) o else none
  | .lcmp => bif Nat.beq n 1 then oJJ S fun x y r => k (pc + 1) L (.int (XT.cmpL x y) :: r) o else none
  | .ldiv => bif Nat.beq n 1 then oJJ S fun x y r => oAnd (y ≠ 0) (k (pc + 1) L (.long (x / y) :: r) o) else none
  | .lrem => bif Nat.beq n 1 then oJJ S fun x y r => oAnd (y ≠ 0) (k (pc + 1) L (.long (x % y) :: r) o) else none
  | .lshl => bif Nat.beq n 1 then oJI S fun x y r => k (pc + 1) L (.long (x <<< (y.toInt64 &&& 63)) :: r) o else none
  | .lshr => bif Nat.beq n 1 then oJI S fun x y r => k (pc + 1) L (.long (x >>> (y.toInt64 &&& 63)) :: r) o else none
  | .lushr => bif Nat.beq n 1 then oJI S fun x y r => k (pc + 1) L (.long (XT.ushrL x y) :: r) o else none
  | .ineg => bif Nat.beq n 1 then oI S fun v r => k (pc + 1) L (.int (-v) :: r) o else none
  | .i2l => bif Nat.beq n 1 then oI S fun v r => k (pc + 1) L (.long (v.toInt64) :: r) o else none
  | .i2b => bif Nat.beq n 1 then oI S fun v r => k (pc + 1) L (.int (v.toInt8.toInt32) :: r) o else none
  | .i2c => bif Nat.beq n 1 then oI S fun v r => k (pc + 1) L (.int (v.toUInt32.toUInt16.toUInt32.toInt32) :: r) o else none
  | .i2s => bif Nat.beq n 1 then oI S fun v r => k (pc + 1) L (.int (v.toInt16.toInt32) :: r) o else none
  | .lneg => bif Nat.beq n 1 then oJ S fun v r => k (pc + 1) L (.long (-v) :: r) o else none
  | .l2i => bif Nat.beq n 1 then oJ S fun v r => k (pc + 1) L (.int (v.toInt32) :: r) o else none
  | .dup => bif Nat.beq n 1 then o1 S fun v r => k (pc + 1) L (v :: v :: r) o else none
  | .pop => bif Nat.beq n 1 then o1 S fun v r => k (pc + 1) L r o else none
  | .dup_x1 => bif Nat.beq n 1 then o1 S fun v r => o1 r fun w r' => k (pc + 1) L (v :: w :: v :: r') o else none
  | .dup2 => bif Nat.beq n 1 then oD2 S (fun v r => k (pc + 1) L (.long v :: .long v :: r) o) fun v w r => k (pc + 1) L (v :: w :: v :: w :: r) o else none
  | .iinc x d => bif Nat.beq n 3 then oLdI' L x fun v => oSt L x (.int (v + Int32.ofInt d)) fun L' => k (pc + 3) L' S o else none
  | .goto d => bif Nat.beq n 3 then oTo pc d fun q => k q L S o else none
  | .ifCond cd d => bif Nat.beq n 3 then oI S fun v r => oB o (fun o' => oAnd (cII cd true v 0) (oTo pc d fun q => k q L r o')) fun o' => oAnd (cII cd false v 0) (k (pc + 3) L r o') else none
  | .if_icmp cd d => bif Nat.beq n 3 then oII S fun x y r => oB o (fun o' => oAnd (cII cd true x y) (oTo pc d fun q => k q L r o')) fun o' => oAnd (cII cd false x y) (k (pc + 3) L r o') else none
  | .ifnull d => bif Nat.beq n 3 then oNul S (fun r => oTo pc d fun q => k q L r o) fun b r => k (pc + 3) L r o else none
  | .ifnonnull d => bif Nat.beq n 3 then oNul S (fun r => k (pc + 3) L r o) fun b r => oTo pc d fun q => k q L r o else none
  | .if_acmp cd d => bif Nat.beq n 3 then oA S fun y r1 => oA r1 fun x r => oB o (fun o' => oAnd (cAA cd true x y) (oTo pc d fun q => k q L r o')) fun o' => oAnd (cAA cd false x y) (k (pc + 3) L r o') else none
  | .iaload => bif Nat.beq n 1 then oIR S fun j a r => oV o fun v o' => oAnd (Rd Z h a .int j v) (k (pc + 1) L (v :: r) o') else none
  | .laload => bif Nat.beq n 1 then oIR S fun j a r => oV o fun v o' => oAnd (Rd Z h a .long j v) (k (pc + 1) L (v :: r) o') else none
  | .caload => bif Nat.beq n 1 then oIR S fun j a r => oV o fun v o' => oAnd (Rd Z h a .char j v) (k (pc + 1) L (v :: r) o') else none
  | .baload => bif Nat.beq n 1 then oIR S fun j a r => oV o fun v o' => oAnd (Rd Z h a .byte j v) (k (pc + 1) L (v :: r) o') else none
  | .aaload => bif Nat.beq n 1 then oIR S fun j a r => oV o fun v o' => oAnd (∃ ty, ty.isReference = true ∧ Rd Z h a ty j v) (k (pc + 1) L (v :: r) o') else none
  | .arraylength => bif Nat.beq n 1 then oR S fun a r => oN o fun n o' => oAnd (Ln Z h a n) (k (pc + 1) L (.int n :: r) o') else none
  | .ldc i => bif Nat.beq n 2 then oN o fun v o' => oAnd ((Jvm.Cond.constant own i v).before a0 Z = true) (k (pc + 2) L (.int v :: S) o') else none
  | .ldc_w i => bif Nat.beq n 3 then oN o fun v o' => oAnd ((Jvm.Cond.constant own i v).before a0 Z = true) (k (pc + 3) L (.int v :: S) o') else none
  | .ldc2_w i => bif Nat.beq n 3 then oM o fun v o' => oAnd ((Jvm.Cond.constantLong own i v).before a0 Z = true) (k (pc + 3) L (.long v :: S) o') else none
  | _ => none
def orun (Z : State) (h : Heap) (a0 : Array Value) (own : String) : OTr → List Value → Nat → Array Slot → List Value → OR
  | [], _, pc, L, S => some (True, pc, L, S)
  | x :: t, o, pc, L, S => bif Nat.beq x.1 pc then ost Z h a0 own x.2.1 x.2.2 pc L S o fun pc L S o => orun Z h a0 own t o pc L S else none
section OwnLaws
variable {r : Prop × Nat × Array Slot × List Value}
theorem oAnd_ok {c : Prop} {q : OR} {P : Prop} {x : Nat × Array Slot × List Value} (h : oAnd c q = some (P, x)) (hP : P) : ∃ P', c ∧ P' ∧ q = some (P', x) := by
  unfold oAnd at h
  split at h
  · simp only [Option.some.injEq, Prod.mk.injEq] at h
    obtain ⟨rfl, rfl⟩ := h
    exact ⟨_, hP.1, hP.2, rfl⟩
  · cases h
theorem oLdI_ok {L : Array Slot} {x : Nat} {f : Value → OR} (h : oLdI L x f = some r) : ∃ v, L[x]? = some (.val (.int v)) ∧ f (.int v) = some r := by
  unfold oLdI at h
  split at h
  · exact ⟨_, by assumption, h⟩
  · cases h
theorem oLdI'_ok {L : Array Slot} {x : Nat} {f : Int32 → OR} (h : oLdI' L x f = some r) : ∃ v, L[x]? = some (.val (.int v)) ∧ f v = some r := by
  unfold oLdI' at h
  split at h
  · exact ⟨_, by assumption, h⟩
  · cases h
theorem oLdJ_ok {L : Array Slot} {x : Nat} {f : Value → OR} (h : oLdJ L x f = some r) : ∃ v, L[x]? = some (.val (.long v)) ∧ f (.long v) = some r := by
  unfold oLdJ at h
  split at h
  · exact ⟨_, by assumption, h⟩
  · cases h
theorem oLdA_ok {L : Array Slot} {x : Nat} {f : Value → OR} (h : oLdA L x f = some r) : ∃ v, L[x]? = some (.val v) ∧ v.isRef = true ∧ f v = some r := by
  unfold oLdA at h
  split at h
  · exact ⟨_, by assumption, rfl, h⟩
  · exact ⟨_, by assumption, rfl, h⟩
  · cases h
theorem oSt_ok {L : Array Slot} {x : Nat} {v : Value} {f : Array Slot → OR} (h : oSt L x v f = some r) : ∃ L', storeLocals L x v = some L' ∧ f L' = some r := by
  unfold oSt at h
  split at h
  · exact ⟨_, by assumption, h⟩
  · cases h
theorem oI_ok {S : List Value} {f : Int32 → List Value → OR} (h : oI S f = some r) : ∃ v q, S = .int v :: q ∧ f v q = some r := by
  unfold oI at h
  split at h
  · exact ⟨_, _, rfl, h⟩
  · cases h
theorem oJ_ok {S : List Value} {f : Int64 → List Value → OR} (h : oJ S f = some r) : ∃ v q, S = .long v :: q ∧ f v q = some r := by
  unfold oJ at h
  split at h
  · exact ⟨_, _, rfl, h⟩
  · cases h
theorem oR_ok {S : List Value} {f : Addr → List Value → OR} (h : oR S f = some r) : ∃ v q, S = .ref v :: q ∧ f v q = some r := by
  unfold oR at h
  split at h
  · exact ⟨_, _, rfl, h⟩
  · cases h
theorem oA_ok {S : List Value} {f : Value → List Value → OR} (h : oA S f = some r) : ∃ v q, S = v :: q ∧ v.isRef = true ∧ f v q = some r := by
  unfold oA at h
  split at h
  · exact ⟨_, _, rfl, rfl, h⟩
  · exact ⟨_, _, rfl, rfl, h⟩
  · cases h
theorem oNul_ok {S : List Value} {f : List Value → OR} {g : Addr → List Value → OR} (h : oNul S f g = some r) : (∃ q, S = .null :: q ∧ f q = some r) ∨ ∃ b q, S = .ref b :: q ∧ g b q = some r := by
  unfold oNul at h
  split at h
  · exact Or.inl ⟨_, rfl, h⟩
  · exact Or.inr ⟨_, _, rfl, h⟩
  · cases h
theorem o1_ok {S : List Value} {f : Value → List Value → OR} (h : o1 S f = some r) : ∃ v q, S = v :: q ∧ v.category = 1 ∧ f v q = some r := by
  unfold o1 at h
  split at h
  · exact ⟨_, _, rfl, rfl, h⟩
  · exact ⟨_, _, rfl, rfl, h⟩
  · exact ⟨_, _, rfl, rfl, h⟩
  · cases h
theorem oD2_ok {S : List Value} {f : Int64 → List Value → OR} {g : Value → Value → List Value → OR} (h : oD2 S f g = some r) : (∃ v q, S = .long v :: q ∧ f v q = some r) ∨ ∃ v w q, S = v :: w :: q ∧ v.category = 1 ∧ w.category = 1 ∧ g v w q = some r := by
  unfold oD2 at h
  split at h
  · exact Or.inl ⟨_, _, rfl, h⟩
  · obtain ⟨v, q, rfl, e1, e2⟩ := o1_ok h
    obtain ⟨w, q', rfl, e3, e4⟩ := o1_ok e2
    exact Or.inr ⟨_, _, _, rfl, e1, e3, e4⟩
theorem oII_ok {S : List Value} {f : Int32 → Int32 → List Value → OR} (h : oII S f = some r) : ∃ x y q, S = .int y :: .int x :: q ∧ f x y q = some r := by
  unfold oII at h
  split at h
  · exact ⟨_, _, _, rfl, h⟩
  · cases h
theorem oJJ_ok {S : List Value} {f : Int64 → Int64 → List Value → OR} (h : oJJ S f = some r) : ∃ x y q, S = .long y :: .long x :: q ∧ f x y q = some r := by
  unfold oJJ at h
  split at h
  · exact ⟨_, _, _, rfl, h⟩
  · cases h
theorem oJI_ok {S : List Value} {f : Int64 → Int32 → List Value → OR} (h : oJI S f = some r) : ∃ x y q, S = .int y :: .long x :: q ∧ f x y q = some r := by
  unfold oJI at h
  split at h
  · exact ⟨_, _, _, rfl, h⟩
  · cases h
theorem oIR_ok {S : List Value} {f : Int32 → Addr → List Value → OR} (h : oIR S f = some r) : ∃ y x q, S = .int y :: .ref x :: q ∧ f y x q = some r := by
  unfold oIR at h
  split at h
  · exact ⟨_, _, _, rfl, h⟩
  · cases h
theorem oB_ok {o : List Value} {f g : List Value → OR} (h : oB o f g = some r) : (∃ o', f o' = some r) ∨ ∃ o', g o' = some r := by
  unfold oB at h
  split at h
  · exact Or.inl ⟨_, h⟩
  · exact Or.inr ⟨_, h⟩
  · cases h
theorem oV_ok {o : List Value} {f : Value → List Value → OR} (h : oV o f = some r) : ∃ v o', f v o' = some r := by
  unfold oV at h
  split at h
  · exact ⟨_, _, h⟩
  · cases h
theorem oN_ok {o : List Value} {f : Int32 → List Value → OR} (h : oN o f = some r) : ∃ v o', f v o' = some r := by
  unfold oN at h
  split at h
  · exact ⟨_, _, h⟩
  · cases h
theorem oM_ok {o : List Value} {f : Int64 → List Value → OR} (h : oM o f = some r) : ∃ v o', f v o' = some r := by
  unfold oM at h
  split at h
  · exact ⟨_, _, h⟩
  · cases h
theorem oTo_ok {pc : Nat} {d : Int} {f : Nat → OR} (h : oTo pc d f = some r) : ∃ q, 0 ≤ (pc : Int) + d ∧ ((pc : Int) + d).toNat = q ∧ f q = some r := by
  unfold oTo at h
  by_cases q : 0 ≤ (pc : Int) + d
  · simp only [q, decide_true, cond_true] at h
    exact ⟨_, q, rfl, h⟩
  · simp [q] at h
theorem bif_ok {n n' : Nat} {q : OR} (h : (bif Nat.beq n n' then q else none) = some r) : n = n' ∧ q = some r := by
  cases hb : Nat.beq n n'
  · rw [hb] at h; cases h
  · rw [hb] at h; exact ⟨Nat.eq_of_beq_eq_true hb, h⟩
theorem cII_ok {cd : ClassFile.Cond} {b : Bool} {x y : Int32} (h : cII cd b x y) : if_icmp.holds cd x y = b := by
  cases cd <;> cases b <;> simp only [cII] at h <;> simp [if_icmp.holds, h] <;> first | done | exact Int32.not_lt.mp h | exact Int32.not_le.mpr h | exact h
theorem cI0_ok {cd : ClassFile.Cond} {b : Bool} {x : Int32} (h : cII cd b x 0) : ifCond.holds cd x = b := by
  cases cd <;> cases b <;> simp only [cII] at h <;> simp [ifCond.holds, h] <;> first | done | exact Int32.not_lt.mp h | exact Int32.not_le.mpr h | exact h
theorem cAA_ok {cd : ClassFile.ACond} {b : Bool} {x y : Value} (h : cAA cd b x y) : XT.acmp cd x y = b := by
  cases cd <;> cases b <;> simp only [cAA] at h <;> simp [XT.acmp, h]
theorem lrem_mod (x y : Int64) : x - (x / y) * y = x % y := by
  apply Int64.toInt_inj.mp
  have h1 := Int64.le_toInt (x % y)
  have h2 := Int64.toInt_lt (x % y)
  rw [Int64.toInt_sub, Int64.toInt_mul, Int64.toInt_div, Int.bmod_mul_bmod, Int.sub_bmod_bmod, Int.mul_comm (x.toInt.tdiv y.toInt), ← Int.tmod_def, ← Int64.toInt_mod]
  exact Int.bmod_eq_of_le_mul_two (by omega) (by omega)
end OwnLaws
section OwnRun
variable {p : Program} {l : Launch} {e : Env} {R : Room} {s : State} {m : MethodId} {args : Array Value} {below : List Frame} {meth : Method} {c : Code} {T : State} {locs : List Loc} {cells slots : Nat} {Z : State} {a0 : Array Value} {h : Heap} {own : String}
set_option maxHeartbeats 4000000 in
theorem ost_ok (X : Stand p l e R s m args below meth c T locs cells slots) (hx : p.tables.exec = Jvm.exec) (hZ : Z.Warmed39 s.vm) (hown : s.vm.findClass own = some m.cls) (eT : T.heap = h) {i : Instr} {n pc : Nat} {L : Array Slot} {S o : List Value} {k : Nat → Array Slot → List Value → List Value → OR} {P : Prop} {x' : Nat × Array Slot × List Value} {target : State}
    (hr : ost Z h a0 own i n pc L S o k = some (P, x')) (hP : P) (hd : decode c.code pc = .ok (i, n)) (kk : ∀ pc L S o P', k pc L S o = some (P', x') → P' → Steps p.tables e below (T.setTop (mkF m pc L S)) target) : Steps p.tables e below (T.setTop (mkF m pc L S)) target := by
  unfold ost at hr
  split at hr
  · obtain ⟨rfl, hq⟩ := bif_ok hr
    obtain ⟨v, e1, e3⟩ := oLdI_ok hq
    exact XS.iload X.here hx rfl hd e1 (kk _ _ _ _ _ e3 hP)
  · obtain ⟨rfl, hq⟩ := bif_ok hr
    obtain ⟨v, e1, e3⟩ := oLdI_ok hq
    exact XS.iloadN X.here hx rfl hd e1 (kk _ _ _ _ _ e3 hP)
  · obtain ⟨rfl, hq⟩ := bif_ok hr
    obtain ⟨v, e1, e3⟩ := oLdJ_ok hq
    exact XT.lload X.here hx rfl hd e1 (kk _ _ _ _ _ e3 hP)
  · obtain ⟨rfl, hq⟩ := bif_ok hr
    obtain ⟨v, e1, e3⟩ := oLdJ_ok hq
    exact XT.lloadN X.here hx rfl hd e1 (kk _ _ _ _ _ e3 hP)
  · obtain ⟨rfl, hq⟩ := bif_ok hr
    obtain ⟨v, e1, e2, e3⟩ := oLdA_ok hq
    exact XS.aload X.here hx rfl hd e1 e2 (kk _ _ _ _ _ e3 hP)
  · obtain ⟨rfl, hq⟩ := bif_ok hr
    obtain ⟨v, e1, e2, e3⟩ := oLdA_ok hq
    exact XS.aloadN X.here hx rfl hd e1 e2 (kk _ _ _ _ _ e3 hP)
  · obtain ⟨rfl, hq⟩ := bif_ok hr
    obtain ⟨v, r, rfl, e3⟩ := oI_ok hq
    obtain ⟨L', e4, e5⟩ := oSt_ok e3
    exact XS.istore X.here hx rfl hd rfl e4 (kk _ _ _ _ _ e5 hP)
  · obtain ⟨rfl, hq⟩ := bif_ok hr
    obtain ⟨v, r, rfl, e3⟩ := oI_ok hq
    obtain ⟨L', e4, e5⟩ := oSt_ok e3
    exact XS.istoreN X.here hx rfl hd rfl e4 (kk _ _ _ _ _ e5 hP)
  · obtain ⟨rfl, hq⟩ := bif_ok hr
    obtain ⟨v, r, rfl, e3⟩ := oJ_ok hq
    obtain ⟨L', e4, e5⟩ := oSt_ok e3
    exact XT.lstore X.here hx rfl hd rfl e4 (kk _ _ _ _ _ e5 hP)
  · obtain ⟨rfl, hq⟩ := bif_ok hr
    obtain ⟨v, r, rfl, e3⟩ := oJ_ok hq
    obtain ⟨L', e4, e5⟩ := oSt_ok e3
    exact XT.lstoreN X.here hx rfl hd rfl e4 (kk _ _ _ _ _ e5 hP)
  · obtain ⟨rfl, hq⟩ := bif_ok hr
    obtain ⟨v, r, rfl, e2, e3⟩ := oA_ok hq
    obtain ⟨L', e4, e5⟩ := oSt_ok e3
    exact XS.astore X.here hx rfl hd rfl e2 e4 (kk _ _ _ _ _ e5 hP)
  · obtain ⟨rfl, hq⟩ := bif_ok hr
    obtain ⟨v, r, rfl, e2, e3⟩ := oA_ok hq
    obtain ⟨L', e4, e5⟩ := oSt_ok e3
    exact XS.astoreN X.here hx rfl hd rfl e2 e4 (kk _ _ _ _ _ e5 hP)
  · obtain ⟨rfl, hq⟩ := bif_ok hr
    exact XS.iconst X.here hx rfl hd (kk _ _ _ _ _ hq hP)
  · obtain ⟨rfl, hq⟩ := bif_ok hr
    exact XS.bipush X.here hx rfl hd (kk _ _ _ _ _ hq hP)
  · obtain ⟨rfl, hq⟩ := bif_ok hr
    exact XS.sipush X.here hx rfl hd (kk _ _ _ _ _ hq hP)
  · obtain ⟨rfl, hq⟩ := bif_ok hr
    exact XT.lconst X.here hx rfl hd (kk _ _ _ _ _ hq hP)
  · obtain ⟨rfl, hq⟩ := bif_ok hr
    exact XS.aconstNull X.here hx rfl hd (kk _ _ _ _ _ hq hP)
  · obtain ⟨rfl, hq⟩ := bif_ok hr
    obtain ⟨x, y, r, rfl, e3⟩ := oII_ok hq
    exact XS.iadd X.here hx rfl hd rfl (kk _ _ _ _ _ e3 hP)
  · obtain ⟨rfl, hq⟩ := bif_ok hr
    obtain ⟨x, y, r, rfl, e3⟩ := oII_ok hq
    exact XS.isub X.here hx rfl hd rfl (kk _ _ _ _ _ e3 hP)
  · obtain ⟨rfl, hq⟩ := bif_ok hr
    obtain ⟨x, y, r, rfl, e3⟩ := oII_ok hq
    exact XS.imul X.here hx rfl hd rfl (kk _ _ _ _ _ e3 hP)
  · obtain ⟨rfl, hq⟩ := bif_ok hr
    obtain ⟨x, y, r, rfl, e3⟩ := oII_ok hq
    exact XS.iand X.here hx rfl hd rfl (kk _ _ _ _ _ e3 hP)
  · obtain ⟨rfl, hq⟩ := bif_ok hr
    obtain ⟨x, y, r, rfl, e3⟩ := oII_ok hq
    exact XT.ior X.here hx rfl hd rfl (kk _ _ _ _ _ e3 hP)
  · obtain ⟨rfl, hq⟩ := bif_ok hr
    obtain ⟨x, y, r, rfl, e3⟩ := oII_ok hq
    exact XT.ixor X.here hx rfl hd rfl (kk _ _ _ _ _ e3 hP)
  · obtain ⟨rfl, hq⟩ := bif_ok hr
    obtain ⟨x, y, r, rfl, e3⟩ := oII_ok hq
    exact XT.ishl X.here hx rfl hd rfl (kk _ _ _ _ _ e3 hP)
  · obtain ⟨rfl, hq⟩ := bif_ok hr
    obtain ⟨x, y, r, rfl, e3⟩ := oII_ok hq
    exact XT.ishr X.here hx rfl hd rfl (kk _ _ _ _ _ e3 hP)
  · obtain ⟨rfl, hq⟩ := bif_ok hr
    obtain ⟨x, y, r, rfl, e3⟩ := oII_ok hq
    exact XT.iushr X.here hx rfl hd rfl (kk _ _ _ _ _ e3 hP)
  · obtain ⟨rfl, hq⟩ := bif_ok hr
    obtain ⟨x, y, r, rfl, e3⟩ := oII_ok hq
    obtain ⟨P', h1, h2, e4⟩ := oAnd_ok e3 hP
    exact XS.idiv X.here hx rfl hd rfl h1 (kk _ _ _ _ _ e4 h2)
  · obtain ⟨rfl, hq⟩ := bif_ok hr
    obtain ⟨x, y, r, rfl, e3⟩ := oII_ok hq
    obtain ⟨P', h1, h2, e4⟩ := oAnd_ok e3 hP
    exact iremM X hx rfl hd rfl h1 (kk _ _ _ _ _ e4 h2)
  · obtain ⟨rfl, hq⟩ := bif_ok hr
    obtain ⟨x, y, r, rfl, e3⟩ := oJJ_ok hq
    exact XT.ladd X.here hx rfl hd rfl (kk _ _ _ _ _ e3 hP)
  · obtain ⟨rfl, hq⟩ := bif_ok hr
    obtain ⟨x, y, r, rfl, e3⟩ := oJJ_ok hq
    exact XT.lsub X.here hx rfl hd rfl (kk _ _ _ _ _ e3 hP)
  · obtain ⟨rfl, hq⟩ := bif_ok hr
    obtain ⟨x, y, r, rfl, e3⟩ := oJJ_ok hq
    exact XT.lmul X.here hx rfl hd rfl (kk _ _ _ _ _ e3 hP)
  · obtain ⟨rfl, hq⟩ := bif_ok hr
    obtain ⟨x, y, r, rfl, e3⟩ := oJJ_ok hq
    exact XT.land X.here hx rfl hd rfl (kk _ _ _ _ _ e3 hP)
  · obtain ⟨rfl, hq⟩ := bif_ok hr
    obtain ⟨x, y, r, rfl, e3⟩ := oJJ_ok hq
    exact XT.lor X.here hx rfl hd rfl (kk _ _ _ _ _ e3 hP)
  · obtain ⟨rfl, hq⟩ := bif_ok hr
    obtain ⟨x, y, r, rfl, e3⟩ := oJJ_ok hq
    exact XT.lxor X.here hx rfl hd rfl (kk _ _ _ _ _ e3 hP)
  · obtain ⟨rfl, hq⟩ := bif_ok hr
    obtain ⟨x, y, r, rfl, e3⟩ := oJJ_ok hq
    exact XT.lcmp X.here hx rfl hd rfl (kk _ _ _ _ _ e3 hP)
  · obtain ⟨rfl, hq⟩ := bif_ok hr
    obtain ⟨x, y, r, rfl, e3⟩ := oJJ_ok hq
    obtain ⟨P', h1, h2, e4⟩ := oAnd_ok e3 hP
    exact XT.ldiv X.here hx rfl hd rfl h1 (kk _ _ _ _ _ e4 h2)
  · obtain ⟨rfl, hq⟩ := bif_ok hr
    obtain ⟨x, y, r, rfl, e3⟩ := oJJ_ok hq
    obtain ⟨P', h1, h2, e4⟩ := oAnd_ok e3 hP
    exact XT.lrem X.here hx rfl hd rfl h1 (by rw [lrem_mod]; exact kk _ _ _ _ _ e4 h2)
  · obtain ⟨rfl, hq⟩ := bif_ok hr
    obtain ⟨x, y, r, rfl, e3⟩ := oJI_ok hq
    exact XT.lshl X.here hx rfl hd rfl (kk _ _ _ _ _ e3 hP)
  · obtain ⟨rfl, hq⟩ := bif_ok hr
    obtain ⟨x, y, r, rfl, e3⟩ := oJI_ok hq
    exact XT.lshr X.here hx rfl hd rfl (kk _ _ _ _ _ e3 hP)
  · obtain ⟨rfl, hq⟩ := bif_ok hr
    obtain ⟨x, y, r, rfl, e3⟩ := oJI_ok hq
    exact XT.lushr X.here hx rfl hd rfl (kk _ _ _ _ _ e3 hP)
  · obtain ⟨rfl, hq⟩ := bif_ok hr
    obtain ⟨v, r, rfl, e3⟩ := oI_ok hq
    exact XS.ineg X.here hx rfl hd rfl (kk _ _ _ _ _ e3 hP)
  · obtain ⟨rfl, hq⟩ := bif_ok hr
    obtain ⟨v, r, rfl, e3⟩ := oI_ok hq
    exact XT.i2l X.here hx rfl hd rfl (kk _ _ _ _ _ e3 hP)
  · obtain ⟨rfl, hq⟩ := bif_ok hr
    obtain ⟨v, r, rfl, e3⟩ := oI_ok hq
    exact XT.i2b X.here hx rfl hd rfl (kk _ _ _ _ _ e3 hP)
  · obtain ⟨rfl, hq⟩ := bif_ok hr
    obtain ⟨v, r, rfl, e3⟩ := oI_ok hq
    exact XT.i2c X.here hx rfl hd rfl (kk _ _ _ _ _ e3 hP)
  · obtain ⟨rfl, hq⟩ := bif_ok hr
    obtain ⟨v, r, rfl, e3⟩ := oI_ok hq
    exact XT.i2s X.here hx rfl hd rfl (kk _ _ _ _ _ e3 hP)
  · obtain ⟨rfl, hq⟩ := bif_ok hr
    obtain ⟨v, r, rfl, e3⟩ := oJ_ok hq
    exact XT.lneg X.here hx rfl hd rfl (kk _ _ _ _ _ e3 hP)
  · obtain ⟨rfl, hq⟩ := bif_ok hr
    obtain ⟨v, r, rfl, e3⟩ := oJ_ok hq
    exact XT.l2i X.here hx rfl hd rfl (kk _ _ _ _ _ e3 hP)
  · obtain ⟨rfl, hq⟩ := bif_ok hr
    obtain ⟨v, r, rfl, e2, e3⟩ := o1_ok hq
    exact XS.dup X.here hx rfl hd rfl e2 (kk _ _ _ _ _ e3 hP)
  · obtain ⟨rfl, hq⟩ := bif_ok hr
    obtain ⟨v, r, rfl, e2, e3⟩ := o1_ok hq
    exact XT.pop X.here hx rfl hd rfl e2 (kk _ _ _ _ _ e3 hP)
  · obtain ⟨rfl, hq⟩ := bif_ok hr
    obtain ⟨v, r, rfl, e2, e3⟩ := o1_ok hq
    obtain ⟨w, r', rfl, e4, e5⟩ := o1_ok e3
    exact XT.dupX1 X.here hx rfl hd rfl e2 e4 (kk _ _ _ _ _ e5 hP)
  · obtain ⟨rfl, hq⟩ := bif_ok hr
    rcases oD2_ok hq with ⟨v, r, rfl, e3⟩ | ⟨v, w, r, rfl, e1, e2, e3⟩
    · exact XT.dup2L X.here hx rfl hd rfl (kk _ _ _ _ _ e3 hP)
    · exact XT.dup2 X.here hx rfl hd rfl e1 e2 (kk _ _ _ _ _ e3 hP)
  · obtain ⟨rfl, hq⟩ := bif_ok hr
    obtain ⟨v, e1, e3⟩ := oLdI'_ok hq
    obtain ⟨L', e4, e5⟩ := oSt_ok e3
    exact XS.iinc X.here hx rfl hd e1 e4 (kk _ _ _ _ _ e5 hP)
  · obtain ⟨rfl, hq⟩ := bif_ok hr
    obtain ⟨q, e1, e2, e3⟩ := oTo_ok hq
    exact XS.goto X.here hx rfl rfl hd e1 e2 (kk _ _ _ _ _ e3 hP)
  · obtain ⟨rfl, hq⟩ := bif_ok hr
    obtain ⟨v, r, rfl, e3⟩ := oI_ok hq
    rcases oB_ok e3 with ⟨o', e4⟩ | ⟨o', e4⟩
    · obtain ⟨P', h1, h2, e5⟩ := oAnd_ok e4 hP
      obtain ⟨q, e6, e7, e8⟩ := oTo_ok e5
      exact XS.ifYes X.here hx rfl rfl hd rfl (cI0_ok h1) e6 e7 (kk _ _ _ _ _ e8 h2)
    · obtain ⟨P', h1, h2, e5⟩ := oAnd_ok e4 hP
      exact XS.ifNo X.here hx rfl hd rfl (cI0_ok h1) (kk _ _ _ _ _ e5 h2)
  · obtain ⟨rfl, hq⟩ := bif_ok hr
    obtain ⟨x, y, r, rfl, e3⟩ := oII_ok hq
    rcases oB_ok e3 with ⟨o', e4⟩ | ⟨o', e4⟩
    · obtain ⟨P', h1, h2, e5⟩ := oAnd_ok e4 hP
      obtain ⟨q, e6, e7, e8⟩ := oTo_ok e5
      exact XS.icmpYes X.here hx rfl rfl hd rfl (cII_ok h1) e6 e7 (kk _ _ _ _ _ e8 h2)
    · obtain ⟨P', h1, h2, e5⟩ := oAnd_ok e4 hP
      exact XS.icmpNo X.here hx rfl hd rfl (cII_ok h1) (kk _ _ _ _ _ e5 h2)
  · obtain ⟨rfl, hq⟩ := bif_ok hr
    rcases oNul_ok hq with ⟨r, rfl, e3⟩ | ⟨b, r, rfl, e3⟩
    · obtain ⟨q, e6, e7, e8⟩ := oTo_ok e3
      exact XS.ifnullYes X.here hx rfl rfl hd rfl e6 e7 (kk _ _ _ _ _ e8 hP)
    · exact XS.ifnullNo X.here hx rfl hd rfl (kk _ _ _ _ _ e3 hP)
  · obtain ⟨rfl, hq⟩ := bif_ok hr
    rcases oNul_ok hq with ⟨r, rfl, e3⟩ | ⟨b, r, rfl, e3⟩
    · exact XT.ifnonnullNo X.here hx rfl hd rfl (kk _ _ _ _ _ e3 hP)
    · obtain ⟨q, e6, e7, e8⟩ := oTo_ok e3
      exact XT.ifnonnullYes X.here hx rfl rfl hd rfl e6 e7 (kk _ _ _ _ _ e8 hP)
  · obtain ⟨rfl, hq⟩ := bif_ok hr
    obtain ⟨y, r1, rfl, ey, e2⟩ := oA_ok hq
    obtain ⟨x, r, rfl, ex, e3⟩ := oA_ok e2
    rcases oB_ok e3 with ⟨o', e4⟩ | ⟨o', e4⟩
    · obtain ⟨P', h1, h2, e5⟩ := oAnd_ok e4 hP
      obtain ⟨q, e6, e7, e8⟩ := oTo_ok e5
      exact XT.acmpYes X.here hx rfl rfl hd rfl ex ey (cAA_ok h1) e6 e7 (kk _ _ _ _ _ e8 h2)
    · obtain ⟨P', h1, h2, e5⟩ := oAnd_ok e4 hP
      exact XT.acmpNo X.here hx rfl hd rfl ex ey (cAA_ok h1) (kk _ _ _ _ _ e5 h2)
  · obtain ⟨rfl, hq⟩ := bif_ok hr
    obtain ⟨j, a, r, rfl, e3⟩ := oIR_ok hq
    obtain ⟨v, o', e4⟩ := oV_ok e3
    obtain ⟨P', ⟨cl, h1, h3, h4⟩, h2, e5⟩ := oAnd_ok e4 hP
    exact X.iaload hx (by rw [eT]; exact h1.1) (State.isArrayOf_alike hZ.alike h1.2.1) h1.2.2 h3 h4 (g := mkF m pc L _) rfl rfl hd _ (kk _ _ _ _ _ e5 h2)
  · obtain ⟨rfl, hq⟩ := bif_ok hr
    obtain ⟨j, a, r, rfl, e3⟩ := oIR_ok hq
    obtain ⟨v, o', e4⟩ := oV_ok e3
    obtain ⟨P', ⟨cl, h1, h3, h4⟩, h2, e5⟩ := oAnd_ok e4 hP
    exact X.laload hx (by rw [eT]; exact h1.1) (State.isArrayOf_alike hZ.alike h1.2.1) h1.2.2 h3 h4 (g := mkF m pc L _) rfl rfl hd _ (kk _ _ _ _ _ e5 h2)
  · obtain ⟨rfl, hq⟩ := bif_ok hr
    obtain ⟨j, a, r, rfl, e3⟩ := oIR_ok hq
    obtain ⟨v, o', e4⟩ := oV_ok e3
    obtain ⟨P', ⟨cl, h1, h3, h4⟩, h2, e5⟩ := oAnd_ok e4 hP
    exact X.caload hx (by rw [eT]; exact h1.1) (State.isArrayOf_alike hZ.alike h1.2.1) h1.2.2 h3 h4 (g := mkF m pc L _) rfl rfl hd _ (kk _ _ _ _ _ e5 h2)
  · obtain ⟨rfl, hq⟩ := bif_ok hr
    obtain ⟨j, a, r, rfl, e3⟩ := oIR_ok hq
    obtain ⟨v, o', e4⟩ := oV_ok e3
    obtain ⟨P', ⟨cl, h1, h3, h4⟩, h2, e5⟩ := oAnd_ok e4 hP
    exact X.baloadBytes hx (by rw [eT]; exact h1.1) (State.isArrayOf_alike hZ.alike h1.2.1) h1.2.2 h3 h4 (g := mkF m pc L _) rfl rfl hd _ (kk _ _ _ _ _ e5 h2)
  · obtain ⟨rfl, hq⟩ := bif_ok hr
    obtain ⟨j, a, r, rfl, e3⟩ := oIR_ok hq
    obtain ⟨v, o', e4⟩ := oV_ok e3
    obtain ⟨P', ⟨ty, hty, cl, h1, h3, h4⟩, h2, e5⟩ := oAnd_ok e4 hP
    exact X.aaload hx (by rw [eT]; exact h1.1) (State.isArrayOf_alike hZ.alike h1.2.1) hty h1.2.2 h3 h4 (g := mkF m pc L _) rfl rfl hd _ (kk _ _ _ _ _ e5 h2)
  · obtain ⟨rfl, hq⟩ := bif_ok hr
    obtain ⟨a, r, rfl, e3⟩ := oR_ok hq
    obtain ⟨n, o', e4⟩ := oN_ok e3
    obtain ⟨P', ⟨cl, ty, h1, rfl⟩, h2, e5⟩ := oAnd_ok e4 hP
    exact X.arraylength hx (by rw [eT]; exact h1.1) (State.isArrayOf_alike hZ.alike h1.2.1) (g := mkF m pc L _) rfl rfl hd _ (kk _ _ _ _ _ e5 h2)
  · obtain ⟨rfl, hq⟩ := bif_ok hr
    obtain ⟨v, o', e4⟩ := oN_ok hq
    obtain ⟨P', h1, h2, e5⟩ := oAnd_ok e4 hP
    exact Stand.ldcI X hx hown (mvT hZ h1) rfl hd (kk _ _ _ _ _ e5 h2)
  · obtain ⟨rfl, hq⟩ := bif_ok hr
    obtain ⟨v, o', e4⟩ := oN_ok hq
    obtain ⟨P', h1, h2, e5⟩ := oAnd_ok e4 hP
    exact Stand.ldcWI X hx hown (mvT hZ h1) rfl hd (kk _ _ _ _ _ e5 h2)
  · obtain ⟨rfl, hq⟩ := bif_ok hr
    obtain ⟨v, o', e4⟩ := oM_ok hq
    obtain ⟨P', h1, h2, e5⟩ := oAnd_ok e4 hP
    exact Stand.ldc2J X hx hown (mvT hZ h1) rfl hd (kk _ _ _ _ _ e5 h2)
  · cases hr
theorem orun_ok (X : Stand p l e R s m args below meth c T locs cells slots) (hx : p.tables.exec = Jvm.exec) (hZ : Z.Warmed39 s.vm) (hown : s.vm.findClass own = some m.cls) (eT : T.heap = h) {b : ByteArray} (hby : c.code = b) {target : State} : ∀ (t : OTr) (o : List Value) (pc : Nat) (L : Array Slot) (S : List Value) (P : Prop) (pc' : Nat) (L' : Array Slot) (S' : List Value),
    okB b t = true → orun Z h a0 own t o pc L S = some (P, pc', L', S') → P → Steps p.tables e below (T.setTop (mkF m pc' L' S')) target → Steps p.tables e below (T.setTop (mkF m pc L S)) target
  | [], o, pc, L, S, P, pc', L', S', _, hr, _, hs => by
    simp only [orun, Option.some.injEq, Prod.mk.injEq] at hr
    obtain ⟨-, rfl, rfl, rfl⟩ := hr
    exact hs
  | y :: t, o, pc, L, S, P, pc', L', S', hok, hr, hP, hs => by
    simp only [okB, List.all_cons, Bool.and_eq_true, decide_eq_true_eq] at hok
    obtain ⟨h1, h2⟩ := bif_ok hr
    subst h1
    exact ost_ok X hx hZ hown eT h2 hP (hb hby hok.1) fun pc L S o P' q hP' => orun_ok X hx hZ hown eT hby t o pc L S P' pc' L' S' hok.2 q hP' hs
end OwnRun
section OwnGo
/-- where the run stands (the narrow frame): its heap is h; what was written lies in new cells -/
def Nw (Z : State) (n0 : Nat) (h : Heap) (p : Program) (l : Launch) (e : Env) (R : Room) (s : State) (m : MethodId) (args : Array Value) (below : List Frame) (meth : Method) (c : Code) (T : State) (cells slots : Nat) : Prop :=
  ∃ locs, Stand p l e R s m args below meth c T locs cells slots ∧ T.heap = h ∧ Fr n0 locs ∧ n0 ≤ h.size ∧ Z.Warmed39 s.vm
def Cx (Z : State) (own : String) (b : ByteArray) (ml : Nat) (p : Program) (m : MethodId) (c : Code) : Prop := p.tables.exec = Jvm.exec ∧ Z.vm.findClass own = some m.cls ∧ c.code = b ∧ c.maxLocals = ml
def Ld (p : Program) (e : Env) (below : List Frame) (T : State) (g : JFrame) (T' : State) (g' : JFrame) : Prop := ∀ target, Steps p.tables e below (T'.setTop g') target → Steps p.tables e below (T.setTop g) target
/-- the frame returns v -/
def Fn (p : Program) (e : Env) (below : List Frame) (m : MethodId) (T : State) (g : JFrame) (v : Option Value) : Prop :=
  ∀ fs : List Frame, (∀ (f : JFrame) (acts : List Action), f.method = m → f.locked = none → f.entered = [] → (doReturn e (T.setTop f) acts v).1 = T.setFrames fs) → Steps p.tables e below (T.setTop g) (T.setFrames fs)
variable {p : Program} {l : Launch} {e : Env} {R : Room} {s : State} {m : MethodId} {args : Array Value} {below : List Frame} {meth : Method} {c : Code} {T T1 T2 : State} {cells slots : Nat} {Z : State} {a0 : Array Value} {h h1 h2 : Heap} {own : String} {n0 : Nat} {b : ByteArray} {ml : Nat} {g g1 g2 : JFrame}
theorem Ld.refl : Ld p e below T g T g := fun _ k => k
theorem Ld.trans (A : Ld p e below T g T1 g1) (B : Ld p e below T1 g1 T2 g2) : Ld p e below T g T2 g2 := fun t k => A t (B t k)
theorem Ld.cast {g' : JFrame} (A : Ld p e below T g T1 g1) (q : g1 = g') : Ld p e below T g T1 g' := q ▸ A
theorem Nw.size (N : Nw Z n0 h p l e R s m args below meth c T cells slots) : n0 ≤ h.size := by obtain ⟨_, _, _, _, q, _⟩ := N; exact q
theorem Nw.mono {cells' slots' : Nat} (N : Nw Z n0 h p l e R s m args below meth c T cells slots) (q1 : cells ≤ cells') (q2 : slots ≤ slots') : Nw Z n0 h p l e R s m args below meth c T cells' slots' := by
  obtain ⟨L, X, r⟩ := N; exact ⟨L, X.mono q1 q2, r⟩
theorem cx_own (K : Cx Z own b ml p m c) (hZ : Z.Warmed39 s.vm) : s.vm.findClass own = some m.cls := by rw [hZ.alike.findClass]; exact K.2.1
theorem goRun (K : Cx Z own b ml p m c) (N : Nw Z n0 h p l e R s m args below meth c T cells slots) (a0 : Array Value) (t : OTr) (o : List Value) {pc : Nat} {L : Array Slot} {S : List Value} {P : Prop} {pc' : Nat} {L' : Array Slot} {S' : List Value}
    (ok : okB b t = true) (hr : orun Z h a0 own t o pc L S = some (P, pc', L', S')) (hP : P) : Ld p e below T (mkF m pc L S) T (mkF m pc' L' S') := fun _ k => by
  obtain ⟨_, X, eT, _, _, hZ⟩ := N
  exact orun_ok X K.1 hZ (cx_own K hZ) eT K.2.2.1 t o pc L S P pc' L' S' ok hr hP k
theorem goNew (K : Cx Z own b ml p m c) (N : Nw Z n0 h p l e R s m args below meth c T cells slots) {C : String} {index n : Nat} (w : (Jvm.Cond.classLink own index C).before a0 Z = true) (wi : (Jvm.Cond.instantiable C n).before a0 Z = true) (wz : (Jvm.Cond.initialized C).before a0 Z = true)
    {pc : Nat} {L : Array Slot} {S : List Value} (hd : decode b pc = .ok (.new index, 3)) (hc : cells + 1 ≤ R.cells) (hl : slots + n ≤ R.slots) :
    ∃ T' h' a, a = h.size ∧ Nw Z n0 h' p l e R s m args below meth c T' (cells + 1) (slots + n) ∧ Ext h h' ∧ Exa Z h' a C ∧ (∀ {O nm d : String} {ty : FieldType}, Laid Z a0 C O nm d → parseFieldDescriptor d = some ty → Fld Z h' a O nm d (defaultValue ty)) ∧ Ld p e below T (mkF m pc L S) T' (mkF m (pc + 3) L (.ref a :: S)) := by
  obtain ⟨Lc, X, eT, F, q, hZ⟩ := N
  obtain ⟨T', h', X', e', E, A, D, -, st⟩ := newO X K.1 hZ (cx_own K hZ) w wi wz eT (g := mkF m pc L S) rfl (hb K.2.2.1 hd) hc hl
  exact ⟨T', h', _, rfl, ⟨Lc, X', e', F, Nat.le_trans q E.1, hZ⟩, E, A, D, st⟩
theorem goGet (K : Cx Z own b ml p m c) (N : Nw Z n0 h p l e R s m args below meth c T cells slots) {O n d : String} {index : Nat} (w : (Jvm.Cond.fieldLink own index O n d).before a0 Z = true) {a : Addr} {v : Value} (F : Fld Z h a O n d v)
    {pc : Nat} {L : Array Slot} {S : List Value} (hd : decode b pc = .ok (.getfield index, 3)) : ∃ T', Nw Z n0 h p l e R s m args below meth c T' cells slots ∧ Ld p e below T (mkF m pc L (.ref a :: S)) T' (mkF m (pc + 3) L (v :: S)) := by
  obtain ⟨Lc, X, eT, r, q, hZ⟩ := N
  obtain ⟨T', X', e', st⟩ := getF X K.1 hZ (cx_own K hZ) (host := "") (Or.inl w) Via.refl eT F (g := mkF m pc L (.ref a :: S)) rfl rfl (hb K.2.2.1 hd)
  exact ⟨T', ⟨Lc, X', e', r, q, hZ⟩, st⟩
theorem goSta (K : Cx Z own b ml p m c) (N : Nw Z n0 h p l e R s m args below meth c T cells slots) {O n d : String} {index : Nat} (w : (Jvm.Cond.fieldLink own index O n d).before a0 Z = true) {v : Value} (F : Sta Z h O n d v)
    {pc : Nat} {L : Array Slot} {S : List Value} (hd : decode b pc = .ok (.getstatic index, 3)) : ∃ T', Nw Z n0 h p l e R s m args below meth c T' cells slots ∧ Ld p e below T (mkF m pc L S) T' (mkF m (pc + 3) L (v :: S)) := by
  obtain ⟨Lc, X, eT, r, q, hZ⟩ := N
  obtain ⟨T', X', e', st⟩ := getS (host := "") X K.1 hZ (cx_own K hZ) w Via.refl eT F (g := mkF m pc L S) rfl (hb K.2.2.1 hd)
  exact ⟨T', ⟨Lc, X', e', r, q, hZ⟩, st⟩
theorem goPut (K : Cx Z own b ml p m c) (N : Nw Z n0 h p l e R s m args below meth c T cells slots) {O n d C : String} {index kk : Nat} {ty : FieldType} (w : (Jvm.Cond.fieldLink own index O n d).before a0 Z = true) {a : Addr} {v old : Value} (F : Fld Z h a O n d old) (E : Exa Z h a C)
    (Ly : (Jvm.Cond.lays C O n d).before a0 Z = true ∨ ((Jvm.Cond.laysFinal C O n d).before a0 Z = true ∧ own = O ∧ meth.name = "<init>")) (wi : (Jvm.Cond.instantiable C kk).before a0 Z = true) (hty : parseFieldDescriptor d = some ty) (hn : narrow ty v = v) (hf : fits ty v = true) (ha : n0 ≤ a)
    {pc : Nat} {L : Array Slot} {S : List Value} (hd : decode b pc = .ok (.putfield index, 3)) :
    ∃ T' h', Nw Z n0 h' p l e R s m args below meth c T' cells slots ∧ Wr h h' a (Jvm.RoadKit.slotOf Z O n d) v ∧ Ld p e below T (mkF m pc L (v :: .ref a :: S)) T' (mkF m (pc + 3) L S) := by
  obtain ⟨Lc, X, eT, r, q, hZ⟩ := N
  obtain ⟨T', h', X', e', W, st⟩ := putF X K.1 hZ (cx_own K hZ) (host := "") (Or.inl w) Via.refl eT F E Ly wi hty hn hf (g := mkF m pc L (v :: .ref a :: S)) rfl rfl (hb K.2.2.1 hd)
  exact ⟨T', h', ⟨_, X', e', Fr.snoc X' r ha, by rw [W.size]; exact q, hZ⟩, W, st⟩
theorem goInit (K : Cx Z own b ml p m c) (N : Nw Z n0 h p l e R s m args below meth c T cells slots) {index : Nat} (w1 : (Jvm.Cond.methodLink own index ⟨"java/lang/Object", "<init>", "()V"⟩).before a0 Z = true) (w2 : (Jvm.Cond.instanceMethod ⟨"java/lang/Object", "<init>", "()V"⟩).before a0 Z = true) {ob : ByteArray} (w3 : (Jvm.Cond.code ⟨"java/lang/Object", "<init>", "()V"⟩ ob 1 none).before a0 Z = true) (ho : ob = ⟨#[0xb1]⟩)
    {a : Addr} {pc : Nat} {L : Array Slot} {S : List Value} (hsz : L.size = ml) (hd : decode b pc = .ok (.invokespecial index, 3)) (hf : 1 ≤ R.frames) {W : Nat} (hW : (S.map fun v => v.category).sum ≤ W) (hlo : W + 12 ≤ R.locals) :
    ∃ T', Nw Z n0 h p l e R s m args below meth c T' cells slots ∧ Ld p e below T (mkF m pc L (.ref a :: S)) T' (mkF m (pc + 3) L S) := by
  subst ho
  obtain ⟨Lc, X, eT, r, q, hZ⟩ := N
  obtain ⟨T', X', e', st⟩ := initO X K.1 hZ (cx_own K hZ) w1 w2 w3 eT (g := mkF m pc L (.ref a :: S)) rfl (by rw [K.2.2.2]; exact hsz) rfl (hb K.2.2.1 hd) hf (W := W) (by show 2 * 0 + _ ≤ _; omega) hlo
  exact ⟨T', ⟨Lc, X', e', r, q, hZ⟩, st⟩
theorem goNewP (K : Cx Z own b ml p m c) (N : Nw Z n0 h p l e R s m args below meth c T cells slots) {aty : ArrayType} (w : (Jvm.Cond.arrayClass (newarray.typeOf aty)).before a0 Z = true) {n : Int32} (hn : ¬ n < 0) {cap : Nat} (hcap : n.toNatClampNeg ≤ cap) (hbg : cap * 8 ≤ 536870912) (hc : cells + 1 ≤ R.cells) (hl : slots + cap ≤ R.slots)
    {pc : Nat} {L : Array Slot} {S : List Value} (hd : decode b pc = .ok (.newarray aty, 2)) :
    ∃ T' h' a cA, a = h.size ∧ Nw Z n0 h' p l e R s m args below meth c T' (cells + 1) (slots + cap) ∧ Ext h h' ∧ Arr Z h' a (newA cA (newarray.typeOf aty) n) (newarray.typeOf aty) ∧ Ld p e below T (mkF m pc L (.int n :: S)) T' (mkF m (pc + 2) L (.ref a :: S)) := by
  obtain ⟨Lc, X, eT, r, q, hZ⟩ := N
  obtain ⟨T', h', cA, X', e', E, A, st⟩ := newP X K.1 hZ w eT (g := mkF m pc L (.int n :: S)) rfl (hb K.2.2.1 hd) rfl hn hcap hbg hc hl
  exact ⟨T', h', _, cA, rfl, ⟨Lc, X', e', r, Nat.le_trans q E.1, hZ⟩, E, A, st⟩
theorem goStI (K : Cx Z own b ml p m c) (N : Nw Z n0 h p l e R s m args below meth c T cells slots) {a : Addr} {cl : Cell} (A : Arr Z h a cl .int) {j x : Int32} (hj : ¬ (j < 0 ∨ cl.slots.size ≤ j.toNatClampNeg)) (ha : n0 ≤ a) {pc : Nat} {L : Array Slot} {S : List Value} (hd : decode b pc = .ok (.iastore, 1)) :
    ∃ T' h', Nw Z n0 h' p l e R s m args below meth c T' cells slots ∧ Wr h h' a j.toNatClampNeg (.int x) ∧ Ld p e below T (mkF m pc L (.int x :: .int j :: .ref a :: S)) T' (mkF m (pc + 1) L S) := by
  obtain ⟨Lc, X, eT, r, q, hZ⟩ := N
  obtain ⟨T', h', X', e', W, st⟩ := stI X K.1 hZ eT A hj (g := mkF m pc L (.int x :: .int j :: .ref a :: S)) rfl rfl (hb K.2.2.1 hd)
  exact ⟨T', h', ⟨_, X', e', Fr.snoc X' r ha, by rw [W.size]; exact q, hZ⟩, W, st⟩
theorem goStJ (K : Cx Z own b ml p m c) (N : Nw Z n0 h p l e R s m args below meth c T cells slots) {a : Addr} {cl : Cell} (A : Arr Z h a cl .long) {j : Int32} {x : Int64} (hj : ¬ (j < 0 ∨ cl.slots.size ≤ j.toNatClampNeg)) (ha : n0 ≤ a) {pc : Nat} {L : Array Slot} {S : List Value} (hd : decode b pc = .ok (.lastore, 1)) :
    ∃ T' h', Nw Z n0 h' p l e R s m args below meth c T' cells slots ∧ Wr h h' a j.toNatClampNeg (.long x) ∧ Ld p e below T (mkF m pc L (.long x :: .int j :: .ref a :: S)) T' (mkF m (pc + 1) L S) := by
  obtain ⟨Lc, X, eT, r, q, hZ⟩ := N
  obtain ⟨T', h', X', e', W, st⟩ := stJ X K.1 hZ eT A hj (g := mkF m pc L (.long x :: .int j :: .ref a :: S)) rfl rfl (hb K.2.2.1 hd)
  exact ⟨T', h', ⟨_, X', e', Fr.snoc X' r ha, by rw [W.size]; exact q, hZ⟩, W, st⟩
theorem goStC (K : Cx Z own b ml p m c) (N : Nw Z n0 h p l e R s m args below meth c T cells slots) {a : Addr} {cl : Cell} (A : Arr Z h a cl .char) {j x : Int32} (hj : ¬ (j < 0 ∨ cl.slots.size ≤ j.toNatClampNeg)) (ha : n0 ≤ a) {pc : Nat} {L : Array Slot} {S : List Value} (hd : decode b pc = .ok (.castore, 1)) :
    ∃ T' h', Nw Z n0 h' p l e R s m args below meth c T' cells slots ∧ Wr h h' a j.toNatClampNeg (.int (nar .char x)) ∧ Ld p e below T (mkF m pc L (.int x :: .int j :: .ref a :: S)) T' (mkF m (pc + 1) L S) := by
  obtain ⟨Lc, X, eT, r, q, hZ⟩ := N
  obtain ⟨T', h', X', e', W, st⟩ := stC X K.1 hZ eT A hj (g := mkF m pc L (.int x :: .int j :: .ref a :: S)) rfl rfl (hb K.2.2.1 hd)
  exact ⟨T', h', ⟨_, X', e', Fr.snoc X' r ha, by rw [W.size]; exact q, hZ⟩, W, st⟩
theorem goStB (K : Cx Z own b ml p m c) (N : Nw Z n0 h p l e R s m args below meth c T cells slots) {a : Addr} {cl : Cell} (A : Arr Z h a cl .byte) {j x : Int32} (hj : ¬ (j < 0 ∨ cl.slots.size ≤ j.toNatClampNeg)) (ha : n0 ≤ a) {pc : Nat} {L : Array Slot} {S : List Value} (hd : decode b pc = .ok (.bastore, 1)) :
    ∃ T' h', Nw Z n0 h' p l e R s m args below meth c T' cells slots ∧ Wr h h' a j.toNatClampNeg (.int (nar .byte x)) ∧ Ld p e below T (mkF m pc L (.int x :: .int j :: .ref a :: S)) T' (mkF m (pc + 1) L S) := by
  obtain ⟨Lc, X, eT, r, q, hZ⟩ := N
  obtain ⟨T', h', X', e', W, st⟩ := stB X K.1 hZ eT A hj (g := mkF m pc L (.int x :: .int j :: .ref a :: S)) rfl rfl (hb K.2.2.1 hd)
  exact ⟨T', h', ⟨_, X', e', Fr.snoc X' r ha, by rw [W.size]; exact q, hZ⟩, W, st⟩
/-- what a body does: it returns v, leaves the heap h' with Q v h', writes new cells alone -/
def Con (l : Launch) (Z : State) (n0 : Nat) (y : MethodName) (bytes : ByteArray) (maxL : Nat) (ret : Option FieldType) (ws : List Jvm.Cond) (rm : Room) (as' : Array Value) (h : Heap) (Q : Option Value → Heap → Prop) : Prop :=
  n0 ≤ h.size → MetFree l y (head1 (Jvm.Cond.code y bytes maxL ret :: ws) rm) (fun a U => a = as' ∧ Z.Warmed39 U.vm ∧ U.heap = h) (fun _ _ _ _ _ => True) (fun _ U o U' => ∃ v L, o = .returned v ∧ (n0 ≤ U'.heap.size ∧ Fr n0 L ∧ Q v U'.heap) ∧ FrameEnd U o U' L rm.cells rm.slots)
theorem Con.of {y : MethodName} {bytes : ByteArray} {maxL : Nat} {ret : Option FieldType} {ws : List Jvm.Cond} {rm : Room} {as' : Array Value} {Q : Option Value → Heap → Prop} (pn : plainName y.cls = true) {L0 : Array Slot} (ef : ∀ m, entryFrame m as' maxL = mkF m 0 L0 [])
    (body : ∀ {p : Program} {e : Env} {s : State} {m : MethodId} {below : List Frame} {meth : Method} {c : Code} {T : State}, Cx Z y.cls bytes maxL p m c → meth.sig.returnType = ret → meth.name = y.name → Nw Z n0 h p l e rm s m as' below meth c T 0 0 →
      ∃ (v : Option Value) (T' : State) (g' : JFrame) (h' : Heap) (k n : Nat), Nw Z n0 h' p l e rm s m as' below meth c T' k n ∧ k ≤ rm.cells ∧ n ≤ rm.slots ∧ (ret = none → v = none) ∧ Q v h' ∧ Ld p e below T (mkF m 0 L0 []) T' g' ∧ Fn p e below m T' g' v) : Con l Z n0 y bytes maxL ret ws rm as' h Q := fun hn => by
  refine MetFree.of_bodySF (plainFor_of_name pn) hisR ?_
  intro p e s m args below meth c s₁ Bd hml0 hP hK
  obtain ⟨rfl, hZ, hh⟩ := hP
  have hown : s.vm.findClass y.cls = some m.cls := findClass_of_methodNamed Bd.named
  have X0 := Stand.of_body Bd
  have e0 : s₁.heap = h := by rw [← hh, Bd.state]; rfl
  obtain ⟨v, T', g', h', k, n, ⟨Lc, X, eT, F, q, -⟩, q1, q2, q3, hQ, hL, hF⟩ := body (T := s₁) ⟨Bd.exec, by rw [← hZ.alike.findClass]; exact hown, Bd.bytes, hml0⟩ Bd.returns (name_of_methodNamed Bd.named Bd.method).1 ⟨[], X0, e0, Fr.nil n0, hn, hZ⟩
  subst eT
  obtain ⟨fs, hr, hrun, hended, hW, hsame⟩ := X.leave (v := v) (fun q => q3 (by rw [← Bd.returns]; exact q))
  refine ⟨_, _, castTop (ef m) (hL _ (hF fs hr)), hrun, hended, v, _, rfl, ⟨q, F, hQ⟩, ⟨_, rfl⟩, hW, hsame.mono q1 q2⟩
theorem finI {L : Array Slot} {S : List Value} {z : Int32} {pc : Nat} (K : Cx Z own b ml p m c) (N : Nw Z n0 h p l e R s m args below meth c T cells slots) (hret : meth.sig.returnType = some .int) (hd : decode b pc = .ok (.ireturn, 1)) : Fn p e below m T (mkF m pc L (.int z :: S)) (some (.int z)) := fun fs hl => by
  obtain ⟨_, X, -⟩ := N
  exact retOut X K.1 (t := .int) (i := .ireturn) hret rfl (Or.inl ⟨rfl, Or.inl rfl, z, rfl⟩) (hb K.2.2.1 hd) hl
theorem finN {L : Array Slot} {S : List Value} {z : Int32} {t : FieldType} {pc : Nat} (K : Cx Z own b ml p m c) (N : Nw Z n0 h p l e R s m args below meth c T cells slots) (hret : meth.sig.returnType = some t) (ht : t = .boolean ∨ t = .byte ∨ t = .char ∨ t = .short) (hd : decode b pc = .ok (.ireturn, 1)) : Fn p e below m T (mkF m pc L (.int z :: S)) (some (.int (nar t z))) := fun fs hl => by
  obtain ⟨_, X, -⟩ := N
  exact retN X K.1 (t := t) hret ht (hb K.2.2.1 hd) hl
theorem finJ {L : Array Slot} {S : List Value} {z : Int64} {pc : Nat} (K : Cx Z own b ml p m c) (N : Nw Z n0 h p l e R s m args below meth c T cells slots) (hret : meth.sig.returnType = some .long) (hd : decode b pc = .ok (.lreturn, 1)) : Fn p e below m T (mkF m pc L (.long z :: S)) (some (.long z)) := fun fs hl => by
  obtain ⟨_, X, -⟩ := N
  exact retOut X K.1 (t := .long) (i := .lreturn) hret rfl (Or.inr (Or.inl ⟨rfl, rfl, z, rfl⟩)) (hb K.2.2.1 hd) hl
theorem finA {L : Array Slot} {S : List Value} {z : Value} {t : FieldType} {pc : Nat} (K : Cx Z own b ml p m c) (N : Nw Z n0 h p l e R s m args below meth c T cells slots) (hret : meth.sig.returnType = some t) (ht : t.isReference = true) (hn : narrow t z = z) (hz : z.isRef = true) (hd : decode b pc = .ok (.areturn, 1)) : Fn p e below m T (mkF m pc L (z :: S)) (some z) := fun fs hl => by
  obtain ⟨_, X, -⟩ := N
  exact retOut X K.1 (t := t) (i := .areturn) hret hn (Or.inr (Or.inr (Or.inr (Or.inr ⟨rfl, ht, hz⟩)))) (hb K.2.2.1 hd) hl
theorem finV {L : Array Slot} {pc : Nat} (K : Cx Z own b ml p m c) (N : Nw Z n0 h p l e R s m args below meth c T cells slots) (hret : meth.sig.returnType = none) (hd : decode b pc = .ok (.return_, 1)) : Fn p e below m T (mkF m pc L []) none := fun fs hl => by
  obtain ⟨_, X, -⟩ := N
  exact X.returnOut K.1 hret (hb K.2.2.1 hd) hl
section OwnCalls
variable {y : MethodName} {bytes : ByteArray} {maxL : Nat} {ret : Option FieldType} {rm : Room} {index : Nat} {argsL rest : List Value} {Q : Option Value → Heap → Prop} {pc : Nat} {L : Array Slot} {W : Nat} {ps : List FieldType} {rt : Option FieldType}
theorem goS (K : Cx Z own b ml p m c) (N : Nw Z n0 h p l e R s m args below meth c T cells slots)
    (w1 : (Jvm.Cond.methodLink own index y).before a0 Z = true) (w2 : (Jvm.Cond.static y).before a0 Z = true) (w3 : (Jvm.Cond.initialized y.cls).before a0 Z = true) (w4 : (Jvm.Cond.code y bytes maxL ret).before a0 Z = true)
    (hM : Con l Z n0 y bytes maxL ret [] rm argsL.toArray h Q) (hy : y.cls ≠ "java/lang/invoke/MethodHandle" ∧ y.cls ≠ "java/lang/invoke/VarHandle") (hf : rm.frames + 1 ≤ R.frames) (hl : W + (maxL + 11) + rm.locals ≤ R.locals) (hc : cells + rm.cells ≤ R.cells) (hs : slots + rm.slots ≤ R.slots)
    (hsz : L.size = ml) (hp : parseMethodDescriptor y.desc = some ⟨ps, rt⟩) (hlen : argsL.length = ps.length) (hW : (rest.map fun v => v.category).sum ≤ W) (hd : decode b pc = .ok (.invokestatic index, 3)) :
    ∃ v T' h', Nw Z n0 h' p l e R s m args below meth c T' (cells + rm.cells) (slots + rm.slots) ∧ Q v h' ∧ Ld p e below T (mkF m pc L (argsL.reverse ++ rest)) T' (mkF m (pc + 3) L (v.toList ++ rest)) := by
  obtain ⟨Lc, X, eT, r, q, hZ⟩ := N
  obtain ⟨v, _, ⟨T', L', k', n'⟩, -, X', ⟨Lc', hQ, l', y', z'⟩, st⟩ := Jvm.LawKit.callS X K.1 (y := y) (cx_own K hZ) (mvT hZ w1) (mvT hZ w2) (mvT hZ w3) (mvT hZ w4) hy (backOf (W := W) (Q := fun v h L => n0 ≤ h.size ∧ Fr n0 L ∧ Q v h) (hM q) hZ w4 w3 hf hl) (g := mkF m pc L (argsL.reverse ++ rest)) rfl (by rw [K.2.2.2]; exact hsz) (argsL := argsL) (rest := rest) (lenOf hp hlen) rfl (by show 2 * 0 + _ ≤ _; omega) (hb K.2.2.1 hd) (fun _ _ => ⟨rfl, eT, hc, hs⟩)
  dsimp only [Pt.U, Pt.locs, Pt.cells, Pt.slots] at X' l' y' z' st hQ
  subst l' y' z'
  exact ⟨v, T', T'.heap, ⟨_, X', rfl, Fr.app r hQ.2.1, hQ.1, hZ⟩, hQ.2.2, st⟩
theorem goSp (K : Cx Z own b ml p m c) (N : Nw Z n0 h p l e R s m args below meth c T cells slots) {a : Addr}
    (w1 : (Jvm.Cond.methodLink own index y).before a0 Z = true) (w2 : (Jvm.Cond.instanceMethod y).before a0 Z = true) (w3 : (Jvm.Cond.initialized y.cls).before a0 Z = true) (w4 : (Jvm.Cond.code y bytes maxL none).before a0 Z = true)
    (hM : Con l Z n0 y bytes maxL none [] rm (Value.ref a :: argsL).toArray h Q) (hi : y.name = "<init>") (hy : y.cls ≠ "java/lang/invoke/MethodHandle" ∧ y.cls ≠ "java/lang/invoke/VarHandle") (hf : rm.frames + 1 ≤ R.frames) (hl : W + (maxL + 11) + rm.locals ≤ R.locals) (hc : cells + rm.cells ≤ R.cells) (hs : slots + rm.slots ≤ R.slots)
    (hsz : L.size = ml) (hp : parseMethodDescriptor y.desc = some ⟨ps, rt⟩) (hlen : argsL.length = ps.length) (hW : (rest.map fun v => v.category).sum ≤ W) (hd : decode b pc = .ok (.invokespecial index, 3)) :
    ∃ v T' h', Nw Z n0 h' p l e R s m args below meth c T' (cells + rm.cells) (slots + rm.slots) ∧ Q v h' ∧ Ld p e below T (mkF m pc L (argsL.reverse ++ .ref a :: rest)) T' (mkF m (pc + 3) L (v.toList ++ rest)) := by
  obtain ⟨Lc, X, eT, r, q, hZ⟩ := N
  obtain ⟨v, _, ⟨T', L', k', n'⟩, -, X', ⟨Lc', hQ, l', y', z'⟩, st⟩ := X.specialBack K.1 (y := y) hi (cx_own K hZ) (mvT hZ w1) (mvT hZ w2) (mvT hZ w4) hy (backOf (W := W) (Q := fun v h L => n0 ≤ h.size ∧ Fr n0 L ∧ Q v h) (hM q) hZ w4 w3 hf hl) (g := mkF m pc L (argsL.reverse ++ .ref a :: rest)) rfl (by rw [K.2.2.2]; exact hsz) (Steps.refl _) (a := a) (argsL := argsL) (rest := rest) (lenOf hp hlen) rfl (by show 2 * 0 + _ ≤ _; omega) (hb K.2.2.1 hd) (fun _ _ => ⟨rfl, eT, hc, hs⟩)
  dsimp only [Pt.U, Pt.locs, Pt.cells, Pt.slots] at X' l' y' z' st hQ
  subst l' y' z'
  exact ⟨v, T', T'.heap, ⟨_, X', rfl, Fr.app r hQ.2.1, hQ.1, hZ⟩, hQ.2.2, fun t k => st.trans k⟩
theorem goVi (K : Cx Z own b ml p m c) (N : Nw Z n0 h p l e R s m args below meth c T cells slots) {a : Addr} {C : String} (E : Exa Z h a C)
    (w1 : (Jvm.Cond.methodLink own index y).before a0 Z = true) (w2 : (Jvm.Cond.declares y).before a0 Z = true) (w5 : (Jvm.Cond.selects C y y).before a0 Z = true) (w6 : (Jvm.Cond.instanceMethod y).before a0 Z = true) (w3 : (Jvm.Cond.initialized y.cls).before a0 Z = true) (w4 : (Jvm.Cond.code y bytes maxL ret).before a0 Z = true)
    (hM : Con l Z n0 y bytes maxL ret [] rm (Value.ref a :: argsL).toArray h Q) (hy : y.cls ≠ "java/lang/invoke/MethodHandle" ∧ y.cls ≠ "java/lang/invoke/VarHandle") (hf : rm.frames + 1 ≤ R.frames) (hl : W + (maxL + 11) + rm.locals ≤ R.locals) (hc : cells + rm.cells ≤ R.cells) (hs : slots + rm.slots ≤ R.slots)
    (hsz : L.size = ml) (hp : parseMethodDescriptor y.desc = some ⟨ps, rt⟩) (hlen : argsL.length = ps.length) (hW : (rest.map fun v => v.category).sum ≤ W) (hd : decode b pc = .ok (.invokevirtual index, 3)) :
    ∃ v T' h', Nw Z n0 h' p l e R s m args below meth c T' (cells + rm.cells) (slots + rm.slots) ∧ Q v h' ∧ Ld p e below T (mkF m pc L (argsL.reverse ++ .ref a :: rest)) T' (mkF m (pc + 3) L (v.toList ++ rest)) := by
  obtain ⟨Lc, X, eT, r, q, hZ⟩ := N
  obtain ⟨cB, kB, q1, q2, q3⟩ := isOf hZ eT E
  obtain ⟨v, _, ⟨T', L', k', n'⟩, -, X', ⟨Lc', hQ, l', y', z'⟩, st⟩ := X.virtualBack K.1 (y := y) (z := y) (cx_own K hZ) (mvT hZ w1) (mvT hZ w2) (notFace_of_selects (args := #[]) (mvT hZ w5)) (mvT hZ w5) (mvT hZ w6) hy (backOf (W := W) (Q := fun v h L => n0 ≤ h.size ∧ Fr n0 L ∧ Q v h) (hM q) hZ w4 w3 hf hl) q1 q3 (g := mkF m pc L (argsL.reverse ++ .ref a :: rest)) rfl (by rw [K.2.2.2]; exact hsz) (Steps.refl _) (argsL := argsL) (rest := rest) (lenOf hp hlen) rfl (by show 2 * 0 + _ ≤ _; omega) (hb K.2.2.1 hd) (fun _ _ => ⟨rfl, eT, hc, hs⟩)
  dsimp only [Pt.U, Pt.locs, Pt.cells, Pt.slots] at X' l' y' z' st hQ
  subst l' y' z'
  exact ⟨v, T', T'.heap, ⟨_, X', rfl, Fr.app r hQ.2.1, hQ.1, hZ⟩, hQ.2.2, fun t k => st.trans k⟩
end OwnCalls
end OwnGo
section OwnArr
variable {Z : State} {h h' : Heap} {a b : Addr} {ty : FieldType} {vs : List Value} {v : Value} {sl : Nat} {ws : List Addr}
/-- the array at a holds just vs -/
def Av (Z : State) (h : Heap) (a : Addr) (ty : FieldType) (vs : List Value) : Prop := ∃ c : Cell, Arr Z h a c ty ∧ c.slots.toList = vs ∧ vs.length < 2 ^ 31
theorem Av.lt (F : Av Z h a ty vs) : a < h.size := by obtain ⟨_, A, -⟩ := F; exact A.lt
theorem Av.ext (F : Av Z h a ty vs) (E : Ext h h') : Av Z h' a ty vs := by obtain ⟨c, A, r⟩ := F; exact ⟨c, A.ext E, r⟩
theorem Av.keep (F : Av Z h a ty vs) (K : Keep h h' ws) (q : a ∉ ws) : Av Z h' a ty vs := by obtain ⟨c, A, r⟩ := F; exact ⟨c, ⟨K.2.1 a c A.1 q, A.2⟩, r⟩
theorem Av.other (F : Av Z h a ty vs) (W : Wr h h' b sl v) (q : a ≠ b) : Av Z h' a ty vs := by obtain ⟨c, A, r⟩ := F; exact ⟨c, A.other W q, r⟩
theorem keep_ext (E : Ext h h') : Keep h h' ws := (Keep.refl h ws).ext E
theorem Av.new {k : ClassId} {z : Int32} {n : Nat} (A : Arr Z h a (newA k ty z) ty) (q : ¬ z < 0) (hn : z.toInt = n) : Av Z h a ty (List.replicate n (defaultValue ty)) := by
  have e : z.toNatClampNeg = n := by simp [Int32.toNatClampNeg, hn]
  refine ⟨_, A, by simp [newA, e], ?_⟩
  have := Int32.toInt_lt z
  simp only [List.length_replicate]; omega
theorem clamp_of {j : Int32} {i : Nat} (hj : j.toInt = i) : j.toNatClampNeg = i := by simp [Int32.toNatClampNeg, hj]
theorem not_neg_of {j : Int32} {i : Nat} (hj : j.toInt = i) : ¬ j < 0 := by rw [Int32.lt_iff_toInt_lt, hj]; show ¬ (i : Int) < 0; omega
theorem Av.inb {c : Cell} (e : c.slots.toList = vs) {j : Int32} {i : Nat} (hj : j.toInt = i) (hi : i < vs.length) : ¬ (j < 0 ∨ c.slots.size ≤ j.toNatClampNeg) := by
  rintro (q | q)
  · exact not_neg_of hj q
  · rw [clamp_of hj] at q; rw [← e, Array.length_toList] at hi; omega
theorem Av.rd (F : Av Z h a ty vs) {j : Int32} {i : Nat} (hj : j.toInt = i) (hv : vs[i]? = some v) : Rd Z h a ty j v := by
  obtain ⟨c, A, e, -⟩ := F
  refine ⟨c, A, Av.inb e hj (List.getElem?_eq_some_iff.mp hv).1, ?_⟩
  rw [clamp_of hj, ← hv, ← e, Array.getElem?_toList]
theorem Av.ln (F : Av Z h a ty vs) {n : Int32} (hn : n.toInt = vs.length) : Ln Z h a n := by
  obtain ⟨c, A, e, q⟩ := F
  refine ⟨c, ty, A, ?_⟩
  rw [← Array.length_toList, e]
  apply Int32.toInt_inj.mp
  rw [hn]; exact Int32.toInt_ofNat_of_lt q
theorem Av.set {c : Cell} (A : Arr Z h a c ty) (e : c.slots.toList = vs) (q : vs.length < 2 ^ 31) {j : Int32} {i : Nat} (hj : j.toInt = i) (W : Wr h h' a j.toNatClampNeg v) : Av Z h' a ty (vs.set i v) := by
  rw [clamp_of hj] at W
  refine ⟨_, A.same W, ?_, by simpa using q⟩
  simp [Cell.setSlot, e]
theorem Av.ne {a b : Addr} {ty' : FieldType} {us : List Value} (F : Av Z h a ty vs) (G : Av Z h b ty' us) (q : ty ≠ ty') : a ≠ b := fun e => by
  subst e
  obtain ⟨c, A, -⟩ := F
  obtain ⟨c', B, -⟩ := G
  cases A.1.symm.trans B.1
  obtain ⟨-, k, hk, comp, h1⟩ := A.2.1
  obtain ⟨-, k', hk', comp', h2⟩ := B.2.1
  cases hk.symm.trans hk'
  rw [h1] at h2; cases h2; exact q rfl
theorem Av.ne_exa {a0 : Array Value} {C : String} {k : Nat} (F : Av Z h a ty vs) (G : Exa Z h b C) (wi : (Jvm.Cond.instantiable C k).before a0 Z = true) : b ≠ a := by
  obtain ⟨c, A, -⟩ := F
  exact ne_arr G wi A
theorem n_ti {i : Nat} (q : i < 2147483648) : (Int32.ofNat i).toInt = i := Int32.toInt_ofNat_of_lt q
theorem n_one (i : Nat) : Int32.ofNat i + (1 : Int32) = Int32.ofNat (i + 1) := (Int32.ofNat_add i 1).symm
theorem n_lt {i j : Nat} (hi : i < 2147483648) (hj : j < 2147483648) : Int32.ofNat i < Int32.ofNat j ↔ i < j := by rw [Int32.lt_iff_toInt_lt, n_ti hi, n_ti hj]; omega
theorem n_eq {i j : Nat} (hi : i < 2147483648) (hj : j < 2147483648) : Int32.ofNat i = Int32.ofNat j ↔ i = j := by rw [← Int32.toInt_inj, n_ti hi, n_ti hj]; omega
end OwnArr
section OwnSto
variable {p : Program} {l : Launch} {e : Env} {R : Room} {s : State} {m : MethodId} {args : Array Value} {below : List Frame} {meth : Method} {c : Code} {T : State} {cells slots : Nat} {Z : State} {a0 : Array Value} {h : Heap} {own : String} {n0 : Nat} {b : ByteArray} {ml : Nat} {a : Addr} {vs : List Value} {j : Int32} {i : Nat} {pc : Nat} {L : Array Slot} {S : List Value}
theorem avStI (K : Cx Z own b ml p m c) (N : Nw Z n0 h p l e R s m args below meth c T cells slots) (F : Av Z h a .int vs) {x : Int32} (hj : j.toInt = i) (hi : i < vs.length) (ha : n0 ≤ a) (hd : decode b pc = .ok (.iastore, 1)) :
    ∃ T' h', Nw Z n0 h' p l e R s m args below meth c T' cells slots ∧ Keep h h' [a] ∧ Av Z h' a .int (vs.set i (.int x)) ∧ Ld p e below T (mkF m pc L (.int x :: .int j :: .ref a :: S)) T' (mkF m (pc + 1) L S) := by
  obtain ⟨cl, A, q1, q2⟩ := F
  obtain ⟨T', h', N', W, st⟩ := goStI K N A (Av.inb q1 hj hi) ha hd
  exact ⟨T', h', N', Keep.of_wr W, Av.set A q1 q2 hj W, st⟩
theorem avStJ (K : Cx Z own b ml p m c) (N : Nw Z n0 h p l e R s m args below meth c T cells slots) (F : Av Z h a .long vs) {x : Int64} (hj : j.toInt = i) (hi : i < vs.length) (ha : n0 ≤ a) (hd : decode b pc = .ok (.lastore, 1)) :
    ∃ T' h', Nw Z n0 h' p l e R s m args below meth c T' cells slots ∧ Keep h h' [a] ∧ Av Z h' a .long (vs.set i (.long x)) ∧ Ld p e below T (mkF m pc L (.long x :: .int j :: .ref a :: S)) T' (mkF m (pc + 1) L S) := by
  obtain ⟨cl, A, q1, q2⟩ := F
  obtain ⟨T', h', N', W, st⟩ := goStJ K N A (Av.inb q1 hj hi) ha hd
  exact ⟨T', h', N', Keep.of_wr W, Av.set A q1 q2 hj W, st⟩
theorem avStC (K : Cx Z own b ml p m c) (N : Nw Z n0 h p l e R s m args below meth c T cells slots) (F : Av Z h a .char vs) {x : Int32} (hj : j.toInt = i) (hi : i < vs.length) (ha : n0 ≤ a) (hd : decode b pc = .ok (.castore, 1)) :
    ∃ T' h', Nw Z n0 h' p l e R s m args below meth c T' cells slots ∧ Keep h h' [a] ∧ Av Z h' a .char (vs.set i (.int (nar .char x))) ∧ Ld p e below T (mkF m pc L (.int x :: .int j :: .ref a :: S)) T' (mkF m (pc + 1) L S) := by
  obtain ⟨cl, A, q1, q2⟩ := F
  obtain ⟨T', h', N', W, st⟩ := goStC K N A (Av.inb q1 hj hi) ha hd
  exact ⟨T', h', N', Keep.of_wr W, Av.set A q1 q2 hj W, st⟩
theorem avStB (K : Cx Z own b ml p m c) (N : Nw Z n0 h p l e R s m args below meth c T cells slots) (F : Av Z h a .byte vs) {x : Int32} (hj : j.toInt = i) (hi : i < vs.length) (ha : n0 ≤ a) (hd : decode b pc = .ok (.bastore, 1)) :
    ∃ T' h', Nw Z n0 h' p l e R s m args below meth c T' cells slots ∧ Keep h h' [a] ∧ Av Z h' a .byte (vs.set i (.int (nar .byte x))) ∧ Ld p e below T (mkF m pc L (.int x :: .int j :: .ref a :: S)) T' (mkF m (pc + 1) L S) := by
  obtain ⟨cl, A, q1, q2⟩ := F
  obtain ⟨T', h', N', W, st⟩ := goStB K N A (Av.inb q1 hj hi) ha hd
  exact ⟨T', h', N', Keep.of_wr W, Av.set A q1 q2 hj W, st⟩
end OwnSto

theorem tw {a0 : Array Value} {Z : State} (hw : ∀ d ∈ tables_1, d.before a0 Z = true) (k : Nat) {d : Jvm.Cond} (q : tables_1[k]? = some d) : d.before a0 Z = true := hw d (List.mem_of_getElem? q)
theorem pnL : plainName "com/example/overbrim/overbrim/DemandRunAtPinLaw" = true := by first | (simp [plainName, overriddenIn]; done) | decide +kernel
theorem pnD : plainName "com/example/overbrim/overbrim/Demand" = true := by first | (simp [plainName, overriddenIn]; done) | decide +kernel
theorem pnA : plainName "java/util/Arrays" = true := by first | (simp [plainName, overriddenIn]; done) | decide +kernel
variable {p : Program} {l : Launch} {e : Env} {R : Room} {s : State} {m : MethodId} {args : Array Value} {below : List Frame} {meth : Method} {c : Code} {T : State} {cells slots : Nat} {Z : State} {a0 : Array Value} {h : Heap} {n0 : Nat}
theorem con_pick (x0 x1 x2 x3 : Int32) : Con l Z n0 ⟨"com/example/overbrim/overbrim/DemandRunAtPinLaw", "pick", "(IIII)I"⟩ method_2_code 4 (some .int) [] { frames := 0, cells := 0, slots := 0, locals := 0 } #[.int x0, .int x1, .int x2, .int x3] h (fun v h' => (∃ d, v = some (.int d)) ∧ h' = h) := by
  refine Con.of pnL (L0 := #[.val (.int x0), .val (.int x1), .val (.int x2), .val (.int x3)]) (fun m => by first | (simp [entryFrame, mkF, argsToLocals, Value.category]; done) | rfl) ?_
  intro p e s m below meth c T K hret hnm N
  by_cases q : (XT.ushr x0 x1) &&& (1 : Int32) = 0
  · have g1 : Ld p e below T (mkF m 0 #[.val (.int x0), .val (.int x1), .val (.int x2), .val (.int x3)] []) T (mkF m 13 #[.val (.int x0), .val (.int x1), .val (.int x2), .val (.int x3)] [(.int x2)]) := goRun K N #[] [(0, .iload_n 0, 1), (1, .iload_n 1, 1), (2, .iushr, 1), (3, .iconst 1, 1), (4, .iand, 1), (5, .ifCond .ne 7, 3), (8, .iload_n 2, 1), (9, .goto 4, 3)] [.null] (P := (((XT.ushr x0 x1) &&& (1 : Int32)) = (0 : Int32)) ∧ True) (by decide +kernel) rfl ⟨q, trivial⟩
    exact ⟨_, T, _, h, 0, 0, N, by decide, by decide, fun q => (nomatch q), ⟨⟨_, rfl⟩, rfl⟩, g1, finI K N hret (by decide +kernel)⟩
  · have g1 : Ld p e below T (mkF m 0 #[.val (.int x0), .val (.int x1), .val (.int x2), .val (.int x3)] []) T (mkF m 13 #[.val (.int x0), .val (.int x1), .val (.int x2), .val (.int x3)] [(.int x3)]) := goRun K N #[] [(0, .iload_n 0, 1), (1, .iload_n 1, 1), (2, .iushr, 1), (3, .iconst 1, 1), (4, .iand, 1), (5, .ifCond .ne 7, 3), (12, .iload_n 3, 1)] [.ref 0] (P := (¬ ((XT.ushr x0 x1) &&& (1 : Int32)) = (0 : Int32)) ∧ True) (by decide +kernel) rfl ⟨q, trivial⟩
    exact ⟨_, T, _, h, 0, 0, N, by decide, by decide, fun q => (nomatch q), ⟨⟨_, rfl⟩, rfl⟩, g1, finI K N hret (by decide +kernel)⟩
/-! plain facts -/
theorem cl_lt (x y : Int64) : XT.cmpL x y < 0 ↔ x < y := by
  have e : XT.cmpL x y = lcmpV x y := by simp [XT.cmpL, lcmpV]
  rw [e]; exact lc_lt x y
theorem cl_gt (x y : Int64) : 0 < XT.cmpL x y ↔ y < x := by
  have e : XT.cmpL x y = lcmpV x y := by simp [XT.cmpL, lcmpV]
  rw [e]; exact lc_gt x y
theorem n_pred {n : Nat} (q : n < 2147483648) : (Int32.ofNat n - 1).toInt = n - 1 := by
  rw [Int32.toInt_sub, n_ti q, show (1 : Int32).toInt = 1 from rfl]
  apply Int.bmod_eq_of_le <;> omega
theorem n_sub1 {n : Nat} (q : 0 < n) : Int32.ofNat n - 1 = Int32.ofNat (n - 1) := by
  obtain ⟨k, rfl⟩ : ∃ k, n = k + 1 := ⟨n - 1, by omega⟩
  rw [← n_one]; simp
theorem n_half {n : Nat} (q : n < 2147483648) : XT.ushr (Int32.ofNat n) (1 : Int32) = Int32.ofNat (n / 2) := by
  have e : (Int32.ofNat n).toBitVec = BitVec.ofNat 32 n := rfl
  apply Int32.toBitVec_inj.mp
  apply BitVec.eq_of_toNat_eq
  show ((Int32.ofNat n).toBitVec >>> ((1 : Int32) &&& 31).toBitVec.toNat).toNat = (BitVec.ofNat 32 (n / 2)).toNat
  rw [e, show ((1 : Int32) &&& 31).toBitVec.toNat = 1 from rfl]
  simp only [BitVec.toNat_ushiftRight, BitVec.toNat_ofNat, Nat.shiftRight_succ, Nat.shiftRight_zero]
  omega
theorem n_mid {lo hi : Nat} (q : lo < hi) (q2 : hi < 1073741824) : XT.ushr (Int32.ofNat lo + (Int32.ofNat hi - (1 : Int32))) (1 : Int32) = Int32.ofNat ((lo + hi - 1) / 2) := by
  rw [n_sub1 (by omega), ← Int32.ofNat_add, n_half (by omega)]
  congr 2; omega
def kl (k : Nat) : Int64 := (Int32.ofNat k).toInt64
theorem kl_ti {k : Nat} (q : k < 2147483648) : (kl k).toInt = k := by rw [kl, Int32.toInt_toInt64, n_ti q]
theorem kl_lt {i j : Nat} (hi : i < 2147483648) (hj : j < 2147483648) : kl i < kl j ↔ i < j := by rw [Int64.lt_iff_toInt_lt, kl_ti hi, kl_ti hj]; omega
theorem kl_eq {i j : Nat} (hi : i < 2147483648) (hj : j < 2147483648) : kl i = kl j ↔ i = j := by rw [← Int64.toInt_inj, kl_ti hi, kl_ti hj]; omega
/-- what binarySearch0 answers -/
def bsQ (xs : List Int64) (t : Int64) (v : Option Value) : Prop := ∃ r : Nat, (v = some (.int (Int32.ofNat r)) ∧ xs[r]? = some t) ∨ (v = some (.int (-(Int32.ofNat r + (1 : Int32)))) ∧ r ≤ xs.length ∧ (∀ i w, i < r → xs[i]? = some w → w < t) ∧ ∀ i w, r ≤ i → xs[i]? = some w → t < w)
def Three (q7 q8 q9 : Slot) : Prop := (q7 = .unset ∧ q8 = .unset ∧ q9 = .unset) ∨ ∃ i j, q7 = .val (.int i) ∧ q8 = .val (.long j) ∧ q9 = .second
set_option maxHeartbeats 1000000 in
theorem bs_loop (K : Cx Z "java/util/Arrays" jdk_65_method_56_code 10 p m c) (N : Nw Z n0 h p l e R s m args below meth c T cells slots) {da : Addr} {xs : List Int64} (F : Av Z h da .long (xs.map Value.long)) (hx : xs.length < 1073741824) (srt : ∀ (i j : Nat) (v w : Int64), i < j → xs[i]? = some v → xs[j]? = some w → v < w) {t : Int64} {nn : Int32} (hret : meth.sig.returnType = some .int) :
    ∀ (k lo hi : Nat) (q7 q8 q9 : Slot), hi - lo ≤ k → lo ≤ hi → hi ≤ xs.length → (∀ i w, i < lo → xs[i]? = some w → w < t) → (∀ i w, hi ≤ i → xs[i]? = some w → t < w) → Three q7 q8 q9 →
    ∃ v g', bsQ xs t v ∧ Ld p e below T (mkF m 8 #[.val (.ref da), .val (.int (0 : Int32)), .val (.int nn), .val (.long t), .second, .val (.int (Int32.ofNat lo)), .val (.int (Int32.ofNat hi - (1 : Int32))), q7, q8, q9] []) T g' ∧ Fn p e below m T g' v := by
  have leave : ∀ (lo : Nat) (q7 q8 q9 : Slot), lo ≤ xs.length → (∀ i w, i < lo → xs[i]? = some w → w < t) → (∀ i w, lo ≤ i → xs[i]? = some w → t < w) → ∃ v g', bsQ xs t v ∧ Ld p e below T (mkF m 8 #[.val (.ref da), .val (.int (0 : Int32)), .val (.int nn), .val (.long t), .second, .val (.int (Int32.ofNat lo)), .val (.int (Int32.ofNat lo - (1 : Int32))), q7, q8, q9] []) T g' ∧ Fn p e below m T g' v := by
    intro lo q7 q8 q9 h1 h2 h3
    have g1 : Ld p e below T (mkF m 8 #[.val (.ref da), .val (.int (0 : Int32)), .val (.int nn), .val (.long t), .second, .val (.int (Int32.ofNat lo)), .val (.int (Int32.ofNat lo - (1 : Int32))), q7, q8, q9] []) T (mkF m 73 #[.val (.ref da), .val (.int (0 : Int32)), .val (.int nn), .val (.long t), .second, .val (.int (Int32.ofNat lo)), .val (.int (Int32.ofNat lo - (1 : Int32))), q7, q8, q9] [(.int (-((Int32.ofNat lo) + (1 : Int32))))]) := goRun K N #[] [(8, .iload 5, 2), (10, .iload 6, 2), (12, .if_icmp .gt 56, 3), (68, .iload 5, 2), (70, .iconst 1, 1), (71, .iadd, 1), (72, .ineg, 1)] [.ref 0] (P := ((Int32.ofNat lo - (1 : Int32)) < (Int32.ofNat lo)) ∧ True) (by decide +kernel) rfl ⟨(by rw [Int32.lt_iff_toInt_lt, n_pred (by omega), n_ti (by omega)]; omega), trivial⟩
    exact ⟨_, _, ⟨lo, Or.inr ⟨rfl, h1, h2, h3⟩⟩, g1, finI K N hret (by decide +kernel)⟩
  intro k
  induction k with
  | zero =>
    intro lo hi q7 q8 q9 h0 h1 h2 h3 h4 hq
    obtain rfl : lo = hi := by omega
    exact leave lo q7 q8 q9 h2 h3 h4
  | succ k ih =>
    intro lo hi q7 q8 q9 h0 h1 h2 h3 h4 hq
    by_cases hlt : lo < hi
    · have hm := n_mid hlt (by omega)
      have hms : (lo + hi - 1) / 2 < xs.length := by omega
      generalize hmid : (lo + hi - 1) / 2 = mid at hm hms
      obtain ⟨w, hwv⟩ : ∃ w, xs[mid]? = some w := ⟨xs[mid], by simp [hms]⟩
      have hrd : Rd Z h da .long (XT.ushr (Int32.ofNat lo + (Int32.ofNat hi - (1 : Int32))) (1 : Int32)) (.long w) := F.rd (i := mid) (by rw [hm, n_ti (by omega)]) (by simp [hwv])
      have hgo : ¬ (Int32.ofNat hi - (1 : Int32)) < Int32.ofNat lo := by rw [Int32.lt_iff_toInt_lt, n_pred (by omega), n_ti (by omega)]; omega
      have htri : w < t ∨ w = t ∨ t < w := by
        by_cases z1 : w < t
        · exact Or.inl z1
        · by_cases z2 : t < w
          · exact Or.inr (Or.inr z2)
          · exact Or.inr (Or.inl (Int64.le_antisymm (Int64.not_lt.mp z2) (Int64.not_lt.mp z1)))
      rcases htri with c1 | c1 | c1
      · rcases hq with ⟨rfl, rfl, rfl⟩ | ⟨i7, j8, rfl, rfl, rfl⟩
        · have g1 : Ld p e below T (mkF m 8 #[.val (.ref da), .val (.int (0 : Int32)), .val (.int nn), .val (.long t), .second, .val (.int (Int32.ofNat lo)), .val (.int (Int32.ofNat hi - (1 : Int32))), .unset, .unset, .unset] []) T (mkF m 8 #[.val (.ref da), .val (.int (0 : Int32)), .val (.int nn), .val (.long t), .second, .val (.int ((XT.ushr ((Int32.ofNat lo) + (Int32.ofNat hi - (1 : Int32))) (1 : Int32)) + (1 : Int32))), .val (.int (Int32.ofNat hi - (1 : Int32))), .val (.int (XT.ushr ((Int32.ofNat lo) + (Int32.ofNat hi - (1 : Int32))) (1 : Int32))), .val (.long w), .second] []) := goRun K N #[] [(8, .iload 5, 2), (10, .iload 6, 2), (12, .if_icmp .gt 56, 3), (15, .iload 5, 2), (17, .iload 6, 2), (19, .iadd, 1), (20, .iconst 1, 1), (21, .iushr, 1), (22, .istore 7, 2), (24, .aload_n 0, 1), (25, .iload 7, 2), (27, .laload, 1), (28, .lstore 8, 2), (30, .lload 8, 2), (32, .lload_n 3, 1), (33, .lcmp, 1), (34, .ifCond .ge 12, 3), (37, .iload 7, 2), (39, .iconst 1, 1), (40, .iadd, 1), (41, .istore 5, 2), (43, .goto 22, 3), (65, .goto (-57), 3)] [.null, .long w, .null] (P := (¬ (Int32.ofNat hi - (1 : Int32)) < (Int32.ofNat lo)) ∧ (Rd Z h da .long (XT.ushr ((Int32.ofNat lo) + (Int32.ofNat hi - (1 : Int32))) (1 : Int32)) (.long w)) ∧ ((XT.cmpL w t) < (0 : Int32)) ∧ True) (by decide +kernel) rfl ⟨hgo, hrd, ((cl_lt _ _).mpr c1), trivial⟩
          rw [hm, n_one] at g1
          have z3 : ∀ (i : Nat) (u : Int64), i < mid + 1 → xs[i]? = some u → u < t := by
            intro i u hi' hu
            rcases Nat.lt_or_ge i mid with q | q
            · exact Int64.lt_trans (srt i mid u w q hu hwv) c1
            · obtain rfl : i = mid := by omega
              cases hwv.symm.trans hu; exact c1
          obtain ⟨v, g', e1, e2, e3⟩ := ih (mid + 1) hi _ _ _ (by omega) (by omega) h2 z3 h4 (Or.inr ⟨_, _, rfl, rfl, rfl⟩)
          exact ⟨v, g', e1, g1.trans e2, e3⟩
        · have g1 : Ld p e below T (mkF m 8 #[.val (.ref da), .val (.int (0 : Int32)), .val (.int nn), .val (.long t), .second, .val (.int (Int32.ofNat lo)), .val (.int (Int32.ofNat hi - (1 : Int32))), .val (.int i7), .val (.long j8), .second] []) T (mkF m 8 #[.val (.ref da), .val (.int (0 : Int32)), .val (.int nn), .val (.long t), .second, .val (.int ((XT.ushr ((Int32.ofNat lo) + (Int32.ofNat hi - (1 : Int32))) (1 : Int32)) + (1 : Int32))), .val (.int (Int32.ofNat hi - (1 : Int32))), .val (.int (XT.ushr ((Int32.ofNat lo) + (Int32.ofNat hi - (1 : Int32))) (1 : Int32))), .val (.long w), .second] []) := goRun K N #[] [(8, .iload 5, 2), (10, .iload 6, 2), (12, .if_icmp .gt 56, 3), (15, .iload 5, 2), (17, .iload 6, 2), (19, .iadd, 1), (20, .iconst 1, 1), (21, .iushr, 1), (22, .istore 7, 2), (24, .aload_n 0, 1), (25, .iload 7, 2), (27, .laload, 1), (28, .lstore 8, 2), (30, .lload 8, 2), (32, .lload_n 3, 1), (33, .lcmp, 1), (34, .ifCond .ge 12, 3), (37, .iload 7, 2), (39, .iconst 1, 1), (40, .iadd, 1), (41, .istore 5, 2), (43, .goto 22, 3), (65, .goto (-57), 3)] [.null, .long w, .null] (P := (¬ (Int32.ofNat hi - (1 : Int32)) < (Int32.ofNat lo)) ∧ (Rd Z h da .long (XT.ushr ((Int32.ofNat lo) + (Int32.ofNat hi - (1 : Int32))) (1 : Int32)) (.long w)) ∧ ((XT.cmpL w t) < (0 : Int32)) ∧ True) (by decide +kernel) rfl ⟨hgo, hrd, ((cl_lt _ _).mpr c1), trivial⟩
          rw [hm, n_one] at g1
          have z3 : ∀ (i : Nat) (u : Int64), i < mid + 1 → xs[i]? = some u → u < t := by
            intro i u hi' hu
            rcases Nat.lt_or_ge i mid with q | q
            · exact Int64.lt_trans (srt i mid u w q hu hwv) c1
            · obtain rfl : i = mid := by omega
              cases hwv.symm.trans hu; exact c1
          obtain ⟨v, g', e1, e2, e3⟩ := ih (mid + 1) hi _ _ _ (by omega) (by omega) h2 z3 h4 (Or.inr ⟨_, _, rfl, rfl, rfl⟩)
          exact ⟨v, g', e1, g1.trans e2, e3⟩
      · rcases hq with ⟨rfl, rfl, rfl⟩ | ⟨i7, j8, rfl, rfl, rfl⟩
        · have g1 : Ld p e below T (mkF m 8 #[.val (.ref da), .val (.int (0 : Int32)), .val (.int nn), .val (.long t), .second, .val (.int (Int32.ofNat lo)), .val (.int (Int32.ofNat hi - (1 : Int32))), .unset, .unset, .unset] []) T (mkF m 64 #[.val (.ref da), .val (.int (0 : Int32)), .val (.int nn), .val (.long t), .second, .val (.int (Int32.ofNat lo)), .val (.int (Int32.ofNat hi - (1 : Int32))), .val (.int (XT.ushr ((Int32.ofNat lo) + (Int32.ofNat hi - (1 : Int32))) (1 : Int32))), .val (.long w), .second] [(.int (XT.ushr ((Int32.ofNat lo) + (Int32.ofNat hi - (1 : Int32))) (1 : Int32)))]) := goRun K N #[] [(8, .iload 5, 2), (10, .iload 6, 2), (12, .if_icmp .gt 56, 3), (15, .iload 5, 2), (17, .iload 6, 2), (19, .iadd, 1), (20, .iconst 1, 1), (21, .iushr, 1), (22, .istore 7, 2), (24, .aload_n 0, 1), (25, .iload 7, 2), (27, .laload, 1), (28, .lstore 8, 2), (30, .lload 8, 2), (32, .lload_n 3, 1), (33, .lcmp, 1), (34, .ifCond .ge 12, 3), (46, .lload 8, 2), (48, .lload_n 3, 1), (49, .lcmp, 1), (50, .ifCond .le 12, 3), (62, .iload 7, 2)] [.null, .long w, .ref 0, .ref 0] (P := (¬ (Int32.ofNat hi - (1 : Int32)) < (Int32.ofNat lo)) ∧ (Rd Z h da .long (XT.ushr ((Int32.ofNat lo) + (Int32.ofNat hi - (1 : Int32))) (1 : Int32)) (.long w)) ∧ (¬ (XT.cmpL w t) < (0 : Int32)) ∧ (¬ (0 : Int32) < (XT.cmpL w t)) ∧ True) (by decide +kernel) rfl ⟨hgo, hrd, (fun q => absurd ((cl_lt _ _).mp q) (by rw [c1]; exact Int64.lt_irrefl)), (fun q => absurd ((cl_gt _ _).mp q) (by rw [c1]; exact Int64.lt_irrefl)), trivial⟩
          rw [hm] at g1
          exact ⟨_, _, ⟨mid, Or.inl ⟨rfl, by rw [hwv, c1]⟩⟩, g1, finI K N hret (by decide +kernel)⟩
        · have g1 : Ld p e below T (mkF m 8 #[.val (.ref da), .val (.int (0 : Int32)), .val (.int nn), .val (.long t), .second, .val (.int (Int32.ofNat lo)), .val (.int (Int32.ofNat hi - (1 : Int32))), .val (.int i7), .val (.long j8), .second] []) T (mkF m 64 #[.val (.ref da), .val (.int (0 : Int32)), .val (.int nn), .val (.long t), .second, .val (.int (Int32.ofNat lo)), .val (.int (Int32.ofNat hi - (1 : Int32))), .val (.int (XT.ushr ((Int32.ofNat lo) + (Int32.ofNat hi - (1 : Int32))) (1 : Int32))), .val (.long w), .second] [(.int (XT.ushr ((Int32.ofNat lo) + (Int32.ofNat hi - (1 : Int32))) (1 : Int32)))]) := goRun K N #[] [(8, .iload 5, 2), (10, .iload 6, 2), (12, .if_icmp .gt 56, 3), (15, .iload 5, 2), (17, .iload 6, 2), (19, .iadd, 1), (20, .iconst 1, 1), (21, .iushr, 1), (22, .istore 7, 2), (24, .aload_n 0, 1), (25, .iload 7, 2), (27, .laload, 1), (28, .lstore 8, 2), (30, .lload 8, 2), (32, .lload_n 3, 1), (33, .lcmp, 1), (34, .ifCond .ge 12, 3), (46, .lload 8, 2), (48, .lload_n 3, 1), (49, .lcmp, 1), (50, .ifCond .le 12, 3), (62, .iload 7, 2)] [.null, .long w, .ref 0, .ref 0] (P := (¬ (Int32.ofNat hi - (1 : Int32)) < (Int32.ofNat lo)) ∧ (Rd Z h da .long (XT.ushr ((Int32.ofNat lo) + (Int32.ofNat hi - (1 : Int32))) (1 : Int32)) (.long w)) ∧ (¬ (XT.cmpL w t) < (0 : Int32)) ∧ (¬ (0 : Int32) < (XT.cmpL w t)) ∧ True) (by decide +kernel) rfl ⟨hgo, hrd, (fun q => absurd ((cl_lt _ _).mp q) (by rw [c1]; exact Int64.lt_irrefl)), (fun q => absurd ((cl_gt _ _).mp q) (by rw [c1]; exact Int64.lt_irrefl)), trivial⟩
          rw [hm] at g1
          exact ⟨_, _, ⟨mid, Or.inl ⟨rfl, by rw [hwv, c1]⟩⟩, g1, finI K N hret (by decide +kernel)⟩
      · rcases hq with ⟨rfl, rfl, rfl⟩ | ⟨i7, j8, rfl, rfl, rfl⟩
        · have g1 : Ld p e below T (mkF m 8 #[.val (.ref da), .val (.int (0 : Int32)), .val (.int nn), .val (.long t), .second, .val (.int (Int32.ofNat lo)), .val (.int (Int32.ofNat hi - (1 : Int32))), .unset, .unset, .unset] []) T (mkF m 8 #[.val (.ref da), .val (.int (0 : Int32)), .val (.int nn), .val (.long t), .second, .val (.int (Int32.ofNat lo)), .val (.int ((XT.ushr ((Int32.ofNat lo) + (Int32.ofNat hi - (1 : Int32))) (1 : Int32)) - (1 : Int32))), .val (.int (XT.ushr ((Int32.ofNat lo) + (Int32.ofNat hi - (1 : Int32))) (1 : Int32))), .val (.long w), .second] []) := goRun K N #[] [(8, .iload 5, 2), (10, .iload 6, 2), (12, .if_icmp .gt 56, 3), (15, .iload 5, 2), (17, .iload 6, 2), (19, .iadd, 1), (20, .iconst 1, 1), (21, .iushr, 1), (22, .istore 7, 2), (24, .aload_n 0, 1), (25, .iload 7, 2), (27, .laload, 1), (28, .lstore 8, 2), (30, .lload 8, 2), (32, .lload_n 3, 1), (33, .lcmp, 1), (34, .ifCond .ge 12, 3), (46, .lload 8, 2), (48, .lload_n 3, 1), (49, .lcmp, 1), (50, .ifCond .le 12, 3), (53, .iload 7, 2), (55, .iconst 1, 1), (56, .isub, 1), (57, .istore 6, 2), (59, .goto 6, 3), (65, .goto (-57), 3)] [.null, .long w, .ref 0, .null] (P := (¬ (Int32.ofNat hi - (1 : Int32)) < (Int32.ofNat lo)) ∧ (Rd Z h da .long (XT.ushr ((Int32.ofNat lo) + (Int32.ofNat hi - (1 : Int32))) (1 : Int32)) (.long w)) ∧ (¬ (XT.cmpL w t) < (0 : Int32)) ∧ ((0 : Int32) < (XT.cmpL w t)) ∧ True) (by decide +kernel) rfl ⟨hgo, hrd, (fun q => absurd ((cl_lt _ _).mp q) (Int64.lt_asymm c1)), ((cl_gt _ _).mpr c1), trivial⟩
          rw [hm] at g1
          have z3 : ∀ (i : Nat) (u : Int64), mid ≤ i → xs[i]? = some u → t < u := by
            intro i u hi' hu
            rcases Nat.lt_or_ge mid i with q | q
            · exact Int64.lt_trans c1 (srt mid i w u q hwv hu)
            · obtain rfl : i = mid := by omega
              cases hwv.symm.trans hu; exact c1
          obtain ⟨v, g', e1, e2, e3⟩ := ih lo mid _ _ _ (by omega) (by omega) (by omega) h3 z3 (Or.inr ⟨_, _, rfl, rfl, rfl⟩)
          exact ⟨v, g', e1, g1.trans e2, e3⟩
        · have g1 : Ld p e below T (mkF m 8 #[.val (.ref da), .val (.int (0 : Int32)), .val (.int nn), .val (.long t), .second, .val (.int (Int32.ofNat lo)), .val (.int (Int32.ofNat hi - (1 : Int32))), .val (.int i7), .val (.long j8), .second] []) T (mkF m 8 #[.val (.ref da), .val (.int (0 : Int32)), .val (.int nn), .val (.long t), .second, .val (.int (Int32.ofNat lo)), .val (.int ((XT.ushr ((Int32.ofNat lo) + (Int32.ofNat hi - (1 : Int32))) (1 : Int32)) - (1 : Int32))), .val (.int (XT.ushr ((Int32.ofNat lo) + (Int32.ofNat hi - (1 : Int32))) (1 : Int32))), .val (.long w), .second] []) := goRun K N #[] [(8, .iload 5, 2), (10, .iload 6, 2), (12, .if_icmp .gt 56, 3), (15, .iload 5, 2), (17, .iload 6, 2), (19, .iadd, 1), (20, .iconst 1, 1), (21, .iushr, 1), (22, .istore 7, 2), (24, .aload_n 0, 1), (25, .iload 7, 2), (27, .laload, 1), (28, .lstore 8, 2), (30, .lload 8, 2), (32, .lload_n 3, 1), (33, .lcmp, 1), (34, .ifCond .ge 12, 3), (46, .lload 8, 2), (48, .lload_n 3, 1), (49, .lcmp, 1), (50, .ifCond .le 12, 3), (53, .iload 7, 2), (55, .iconst 1, 1), (56, .isub, 1), (57, .istore 6, 2), (59, .goto 6, 3), (65, .goto (-57), 3)] [.null, .long w, .ref 0, .null] (P := (¬ (Int32.ofNat hi - (1 : Int32)) < (Int32.ofNat lo)) ∧ (Rd Z h da .long (XT.ushr ((Int32.ofNat lo) + (Int32.ofNat hi - (1 : Int32))) (1 : Int32)) (.long w)) ∧ (¬ (XT.cmpL w t) < (0 : Int32)) ∧ ((0 : Int32) < (XT.cmpL w t)) ∧ True) (by decide +kernel) rfl ⟨hgo, hrd, (fun q => absurd ((cl_lt _ _).mp q) (Int64.lt_asymm c1)), ((cl_gt _ _).mpr c1), trivial⟩
          rw [hm] at g1
          have z3 : ∀ (i : Nat) (u : Int64), mid ≤ i → xs[i]? = some u → t < u := by
            intro i u hi' hu
            rcases Nat.lt_or_ge mid i with q | q
            · exact Int64.lt_trans c1 (srt mid i w u q hwv hu)
            · obtain rfl : i = mid := by omega
              cases hwv.symm.trans hu; exact c1
          obtain ⟨v, g', e1, e2, e3⟩ := ih lo mid _ _ _ (by omega) (by omega) (by omega) h3 z3 (Or.inr ⟨_, _, rfl, rfl, rfl⟩)
          exact ⟨v, g', e1, g1.trans e2, e3⟩
    · obtain rfl : lo = hi := by omega
      exact leave lo q7 q8 q9 h2 h3 h4
theorem con_bs0 {da : Addr} {xs : List Int64} (F : Av Z h da .long (xs.map Value.long)) (hx : xs.length < 1073741824) (srt : ∀ (i j : Nat) (v w : Int64), i < j → xs[i]? = some v → xs[j]? = some w → v < w) (t : Int64) : Con l Z n0 ⟨"java/util/Arrays", "binarySearch0", "([JIIJ)I"⟩ jdk_65_method_56_code 10 (some .int) [] { frames := 0, cells := 0, slots := 0, locals := 0 } #[.ref da, .int (0 : Int32), .int (Int32.ofNat xs.length), .long t] h (fun v h' => bsQ xs t v ∧ h' = h) := by
  refine Con.of pnA (L0 := #[.val (.ref da), .val (.int (0 : Int32)), .val (.int (Int32.ofNat xs.length)), .val (.long t), .second, .unset, .unset, .unset, .unset, .unset]) (fun m => by first | (simp [entryFrame, mkF, argsToLocals, Value.category]; done) | rfl) ?_
  intro p e s m below meth c T K hret hnm N
  have g1 : Ld p e below T (mkF m 0 #[.val (.ref da), .val (.int (0 : Int32)), .val (.int (Int32.ofNat xs.length)), .val (.long t), .second, .unset, .unset, .unset, .unset, .unset] []) T (mkF m 8 #[.val (.ref da), .val (.int (0 : Int32)), .val (.int (Int32.ofNat xs.length)), .val (.long t), .second, .val (.int (0 : Int32)), .val (.int ((Int32.ofNat xs.length) - (1 : Int32))), .unset, .unset, .unset] []) := goRun K N #[] [(0, .iload_n 1, 1), (1, .istore 5, 2), (3, .iload_n 2, 1), (4, .iconst 1, 1), (5, .isub, 1), (6, .istore 6, 2)] [] (P := True) (by decide +kernel) rfl trivial
  obtain ⟨v, g', e1, e2, e3⟩ := bs_loop K N F hx srt (t := t) (nn := Int32.ofNat xs.length) hret xs.length 0 xs.length _ _ _ (by omega) (by omega) (Nat.le_refl _) (fun i w q _ => absurd q (Nat.not_lt_zero _)) (fun i w q r => absurd (List.getElem?_eq_some_iff.mp r).1 (by omega)) (Or.inl ⟨rfl, rfl, rfl⟩)
  exact ⟨v, T, g', h, 0, 0, N, by decide, by decide, fun q => (nomatch q), ⟨e1, rfl⟩, g1.trans e2, e3⟩
theorem pd_bs0 : parseMethodDescriptor "([JIIJ)I" = some ⟨[.array .long, .int, .int, .long], some .int⟩ := by decide +kernel
theorem pd_bs : parseMethodDescriptor "([JJ)I" = some ⟨[.array .long, .long], some .int⟩ := by decide +kernel
theorem con_bs (hw : ∀ d ∈ tables_1, d.before a0 Z = true) {da : Addr} {xs : List Int64} (F : Av Z h da .long (xs.map Value.long)) (hx : xs.length < 1073741824) (srt : ∀ (i j : Nat) (v w : Int64), i < j → xs[i]? = some v → xs[j]? = some w → v < w) (t : Int64) : Con l Z n0 ⟨"java/util/Arrays", "binarySearch", "([JJ)I"⟩ jdk_65_method_54_code 3 (some .int) [] { frames := 1, cells := 0, slots := 0, locals := 21 } #[.ref da, .long t] h (fun v h' => bsQ xs t v ∧ h' = h) := by
  refine Con.of pnA (L0 := #[.val (.ref da), .val (.long t), .second]) (fun m => by first | (simp [entryFrame, mkF, argsToLocals, Value.category]; done) | rfl) ?_
  intro p e s m below meth c T K hret hnm N
  have g1 : Ld p e below T (mkF m 0 #[.val (.ref da), .val (.long t), .second] []) T (mkF m 5 #[.val (.ref da), .val (.long t), .second] [(.long t), (.int (Int32.ofNat xs.length)), (.int (0 : Int32)), (.ref da)]) := goRun K N #[] [(0, .aload_n 0, 1), (1, .iconst 0, 1), (2, .aload_n 0, 1), (3, .arraylength, 1), (4, .lload_n 1, 1)] [.int (Int32.ofNat xs.length)] (P := (Ln Z h da (Int32.ofNat xs.length)) ∧ True) (by decide +kernel) rfl ⟨(F.ln (by rw [n_ti (by omega), List.length_map])), trivial⟩
  obtain ⟨v, T1, h1, N1, ⟨q1, rfl⟩, g2⟩ := goS K N (tw hw 34 rfl) (tw hw 35 rfl) (tw hw 32 rfl) (tw hw 36 rfl) (con_bs0 F hx srt t) (W := 0) (rest := []) (by decide) (by decide) (by decide) (by decide) (by decide) (L := #[.val (.ref da), .val (.long t), .second]) rfl pd_bs0 rfl (Nat.le_of_eq rfl) (pc := 5) (by decide +kernel)
  obtain ⟨r, ⟨rfl, q2⟩ | ⟨rfl, q2⟩⟩ := q1
  · exact ⟨_, T1, _, h1, 0, 0, N1, by decide, by decide, fun q => (nomatch q), ⟨⟨r, Or.inl ⟨rfl, q2⟩⟩, rfl⟩, g1.trans g2, finI K N1 hret (by decide +kernel)⟩
  · exact ⟨_, T1, _, h1, 0, 0, N1, by decide, by decide, fun q => (nomatch q), ⟨⟨r, Or.inr ⟨rfl, q2⟩⟩, rfl⟩, g1.trans g2, finI K N1 hret (by decide +kernel)⟩
theorem pd_ra : parseMethodDescriptor "(J)I" = some ⟨[.long], some .int⟩ := by decide +kernel
/-- what runAt answers, by what binarySearch answered -/
def raQ (xs : List Int64) (t : Int64) (v : Option Value) : Prop := ∃ r : Nat, (v = some (.int (Int32.ofNat r)) ∧ xs[r]? = some t) ∨ (v = some (.int (-(-(Int32.ofNat r + (1 : Int32))) - (2 : Int32))) ∧ r ≤ xs.length ∧ (∀ i w, i < r → xs[i]? = some w → w < t) ∧ ∀ i w, r ≤ i → xs[i]? = some w → t < w)
theorem con_ra (hw : ∀ d ∈ tables_1, d.before a0 Z = true) {a da : Addr} {xs : List Int64} (G : Fld Z h a "com/example/overbrim/overbrim/Demand" "runStarts" "[J" (.ref da)) (F : Av Z h da .long (xs.map Value.long)) (hx : xs.length < 1073741824) (srt : ∀ (i j : Nat) (v w : Int64), i < j → xs[i]? = some v → xs[j]? = some w → v < w) (t : Int64) : Con l Z n0 ⟨"com/example/overbrim/overbrim/Demand", "runAt", "(J)I"⟩ prog_2_method_11_code 4 (some .int) [] { frames := 2, cells := 0, slots := 0, locals := 35 } #[.ref a, .long t] h (fun v h' => raQ xs t v ∧ h' = h) := by
  refine Con.of pnD (L0 := #[.val (.ref a), .val (.long t), .second, .unset]) (fun m => by first | (simp [entryFrame, mkF, argsToLocals, Value.category]; done) | rfl) ?_
  intro p e s m below meth c T K hret hnm N
  have g1 : Ld p e below T (mkF m 0 #[.val (.ref a), .val (.long t), .second, .unset] []) T (mkF m 1 #[.val (.ref a), .val (.long t), .second, .unset] [(.ref a)]) := goRun K N #[] [(0, .aload_n 0, 1)] [] (P := True) (by decide +kernel) rfl trivial
  obtain ⟨T1, N1, g2⟩ := goGet K N (tw hw 16 rfl) G (pc := 1) (L := #[.val (.ref a), .val (.long t), .second, .unset]) (S := []) (by decide +kernel)
  have g3 : Ld p e below T1 (mkF m 4 #[.val (.ref a), .val (.long t), .second, .unset] [(.ref da)]) T1 (mkF m 5 #[.val (.ref a), .val (.long t), .second, .unset] [(.long t), (.ref da)]) := goRun K N1 #[] [(4, .lload_n 1, 1)] [] (P := True) (by decide +kernel) rfl trivial
  obtain ⟨v, T2, h2, N2, ⟨q1, rfl⟩, g4⟩ := goS K N1 (tw hw 30 rfl) (tw hw 31 rfl) (tw hw 32 rfl) (tw hw 33 rfl) (con_bs hw F hx srt t) (W := 0) (rest := []) (by decide) (by decide) (by decide) (by decide) (by decide) (L := #[.val (.ref a), .val (.long t), .second, .unset]) rfl pd_bs rfl (Nat.le_of_eq rfl) (pc := 5) (by decide +kernel)
  obtain ⟨r, ⟨rfl, q2⟩ | ⟨rfl, q2⟩⟩ := q1
  · have hr0 : ¬ Int32.ofNat r < 0 := not_neg_of (n_ti (by have := (List.getElem?_eq_some_iff.mp q2).1; omega))
    have g5 : Ld p e below T2 (mkF m 8 #[.val (.ref a), .val (.long t), .second, .unset] [(.int (Int32.ofNat r))]) T2 (mkF m 21 #[.val (.ref a), .val (.long t), .second, .val (.int (Int32.ofNat r))] [(.int (Int32.ofNat r))]) := goRun K N2 #[] [(8, .istore_n 3, 1), (9, .iload_n 3, 1), (10, .ifCond .lt 7, 3), (13, .iload_n 3, 1), (14, .goto 7, 3)] [.null] (P := (¬ (Int32.ofNat r) < (0 : Int32)) ∧ True) (by decide +kernel) rfl ⟨hr0, trivial⟩
    exact ⟨_, T2, _, h2, 0, 0, N2, by decide, by decide, fun q => (nomatch q), ⟨⟨r, Or.inl ⟨rfl, q2⟩⟩, rfl⟩, g1.trans (g2.trans (g3.trans (g4.trans g5))), finI K N2 hret (by decide +kernel)⟩
  · have hr0 : -(Int32.ofNat r + (1 : Int32)) < 0 := by
      rw [n_one, Int32.lt_iff_toInt_lt, Int32.toInt_neg, n_ti (by omega), show (0 : Int32).toInt = 0 from rfl, Int.bmod_eq_of_le] <;> omega
    have g5 : Ld p e below T2 (mkF m 8 #[.val (.ref a), .val (.long t), .second, .unset] [(.int (-(Int32.ofNat r + (1 : Int32))))]) T2 (mkF m 21 #[.val (.ref a), .val (.long t), .second, .val (.int (-(Int32.ofNat r + (1 : Int32))))] [(.int ((-(-(Int32.ofNat r + (1 : Int32)))) - (2 : Int32)))]) := goRun K N2 #[] [(8, .istore_n 3, 1), (9, .iload_n 3, 1), (10, .ifCond .lt 7, 3), (17, .iload_n 3, 1), (18, .ineg, 1), (19, .iconst 2, 1), (20, .isub, 1)] [.ref 0] (P := ((-(Int32.ofNat r + (1 : Int32))) < (0 : Int32)) ∧ True) (by decide +kernel) rfl ⟨hr0, trivial⟩
    exact ⟨_, T2, _, h2, 0, 0, N2, by decide, by decide, fun q => (nomatch q), ⟨⟨r, Or.inr ⟨rfl, q2⟩⟩, rfl⟩, g1.trans (g2.trans (g3.trans (g4.trans g5))), finI K N2 hret (by decide +kernel)⟩
theorem pd_su : parseMethodDescriptor "([J[J)[J" = some ⟨[.array .long, .array .long], some (.array .long)⟩ := by decide +kernel
theorem getl {xs : List Int64} {i : Nat} (q : i < xs.length) : (xs.map Value.long)[i]? = some (.long (xs.getD i 0)) := by simp [q]
theorem su_loop (K : Cx Z "com/example/overbrim/overbrim/Demand" prog_2_method_3_code 4 p m c) {ra va sa : Addr} {rs vv : List Int64} (hl : rs.length = vv.length + 1) (hv : vv.length < 1000000) (hsa : n0 ≤ sa) (n1 : ra ≠ sa) (n2 : va ≠ sa) : ∀ (k i : Nat) (T : State) (h : Heap) (us : List Int64), i + k = vv.length → us.length = vv.length + 1 → Nw Z n0 h p l e R s m args below meth c T cells slots → Av Z h ra .long (rs.map Value.long) → Av Z h va .long (vv.map Value.long) → Av Z h sa .long (us.map Value.long) →
    ∃ T' h', Nw Z n0 h' p l e R s m args below meth c T' cells slots ∧ Keep h h' [sa] ∧ Ld p e below T (mkF m 9 #[.val (.ref ra), .val (.ref va), .val (.ref sa), .val (.int (Int32.ofNat i))] []) T' (mkF m 43 #[.val (.ref ra), .val (.ref va), .val (.ref sa), .val (.int (Int32.ofNat vv.length))] []) := by
  intro k
  induction k with
  | zero =>
    intro i T h us hi hu N A B C
    have g1 : Ld p e below T (mkF m 9 #[.val (.ref ra), .val (.ref va), .val (.ref sa), .val (.int (Int32.ofNat i))] []) T (mkF m 43 #[.val (.ref ra), .val (.ref va), .val (.ref sa), .val (.int (Int32.ofNat i))] []) := goRun K N #[] [(9, .iload_n 3, 1), (10, .aload_n 1, 1), (11, .arraylength, 1), (12, .if_icmp .ge 31, 3)] [.int (Int32.ofNat vv.length), .ref 0] (P := (Ln Z h va (Int32.ofNat vv.length)) ∧ (¬ (Int32.ofNat i) < (Int32.ofNat vv.length)) ∧ True) (by decide +kernel) rfl ⟨(B.ln (by rw [n_ti (by omega), List.length_map])), (by rw [n_lt (by omega) (by omega)]; omega), trivial⟩
    obtain rfl : i = vv.length := by omega
    exact ⟨T, h, N, Keep.refl _ _, g1⟩
  | succ k ih =>
    intro i T h us hi hu N A B C
    have g1 : Ld p e below T (mkF m 9 #[.val (.ref ra), .val (.ref va), .val (.ref sa), .val (.int (Int32.ofNat i))] []) T (mkF m 36 #[.val (.ref ra), .val (.ref va), .val (.ref sa), .val (.int (Int32.ofNat i))] [(.long ((us.getD i 0) + ((vv.getD i 0) * ((rs.getD (i + 1) 0) - (rs.getD i 0))))), (.int ((Int32.ofNat i) + (1 : Int32))), (.ref sa)]) := goRun K N #[] [(9, .iload_n 3, 1), (10, .aload_n 1, 1), (11, .arraylength, 1), (12, .if_icmp .ge 31, 3), (15, .aload_n 2, 1), (16, .iload_n 3, 1), (17, .iconst 1, 1), (18, .iadd, 1), (19, .aload_n 2, 1), (20, .iload_n 3, 1), (21, .laload, 1), (22, .aload_n 1, 1), (23, .iload_n 3, 1), (24, .laload, 1), (25, .aload_n 0, 1), (26, .iload_n 3, 1), (27, .iconst 1, 1), (28, .iadd, 1), (29, .laload, 1), (30, .aload_n 0, 1), (31, .iload_n 3, 1), (32, .laload, 1), (33, .lsub, 1), (34, .lmul, 1), (35, .ladd, 1)] [.int (Int32.ofNat vv.length), .null, .long (us.getD i 0), .long (vv.getD i 0), .long (rs.getD (i + 1) 0), .long (rs.getD i 0)] (P := (Ln Z h va (Int32.ofNat vv.length)) ∧ ((Int32.ofNat i) < (Int32.ofNat vv.length)) ∧ (Rd Z h sa .long (Int32.ofNat i) (.long (us.getD i 0))) ∧ (Rd Z h va .long (Int32.ofNat i) (.long (vv.getD i 0))) ∧ (Rd Z h ra .long ((Int32.ofNat i) + (1 : Int32)) (.long (rs.getD (i + 1) 0))) ∧ (Rd Z h ra .long (Int32.ofNat i) (.long (rs.getD i 0))) ∧ True) (by decide +kernel) rfl ⟨(B.ln (by rw [n_ti (by omega), List.length_map])), ((n_lt (by omega) (by omega)).mpr (by omega)), (C.rd (n_ti (by omega)) (getl (by omega))), (B.rd (n_ti (by omega)) (getl (by omega))), (A.rd (i := i + 1) (by rw [n_one, n_ti (by omega)]) (getl (by omega))), (A.rd (n_ti (by omega)) (getl (by omega))), trivial⟩
    obtain ⟨T1, h1, N1, K1, C1, g2⟩ := avStJ K N C (j := Int32.ofNat i + (1 : Int32)) (i := i + 1) (x := (us.getD i 0) + ((vv.getD i 0) * ((rs.getD (i + 1) 0) - (rs.getD i 0)))) (by rw [n_one, n_ti (by omega)]) (by rw [List.length_map]; omega) hsa (pc := 36) (L := #[.val (.ref ra), .val (.ref va), .val (.ref sa), .val (.int (Int32.ofNat i))]) (S := []) (by decide +kernel)
    have g3 : Ld p e below T1 (mkF m 37 #[.val (.ref ra), .val (.ref va), .val (.ref sa), .val (.int (Int32.ofNat i))] []) T1 (mkF m 9 #[.val (.ref ra), .val (.ref va), .val (.ref sa), .val (.int ((Int32.ofNat i) + (1 : Int32)))] []) := goRun K N1 #[] [(37, .iinc 3 1, 3), (40, .goto (-31), 3)] [] (P := True) (by decide +kernel) rfl trivial
    rw [n_one] at g3
    rw [show (us.map Value.long).set (i + 1) (.long ((us.getD i 0) + ((vv.getD i 0) * ((rs.getD (i + 1) 0) - (rs.getD i 0))))) = ((us.set (i + 1) ((us.getD i 0) + ((vv.getD i 0) * ((rs.getD (i + 1) 0) - (rs.getD i 0))))).map Value.long) from by rw [List.map_set]] at C1
    obtain ⟨T2, h2, N2, K2, g4⟩ := ih (i + 1) T1 h1 _ (by omega) (by simpa using hu) N1 (A.keep K1 (ninS n1 nin0)) (B.keep K1 (ninS n2 nin0)) C1
    exact ⟨T2, h2, N2, K1.trans K2 (fun x hx => Or.inl hx), g1.trans (g2.trans (g3.trans g4))⟩
theorem con_su (hw : ∀ d ∈ tables_1, d.before a0 Z = true) {ra va : Addr} {rs vv : List Int64} (A : Av Z h ra .long (rs.map Value.long)) (B : Av Z h va .long (vv.map Value.long)) (hl : rs.length = vv.length + 1) (hv : vv.length ≤ 5) : Con l Z n0 ⟨"com/example/overbrim/overbrim/Demand", "sums", "([J[J)[J"⟩ prog_2_method_3_code 4 (some (.array .long)) [] { frames := 0, cells := 1, slots := 6, locals := 0 } #[.ref ra, .ref va] h (fun v h' => (∃ sa, v = some (.ref sa)) ∧ Keep h h' []) := by
  refine Con.of pnD (L0 := #[.val (.ref ra), .val (.ref va), .unset, .unset]) (fun m => by first | (simp [entryFrame, mkF, argsToLocals, Value.category]; done) | rfl) ?_
  intro p e s m below meth c T K hret hnm N
  have g1 : Ld p e below T (mkF m 0 #[.val (.ref ra), .val (.ref va), .unset, .unset] []) T (mkF m 4 #[.val (.ref ra), .val (.ref va), .unset, .unset] [(.int ((Int32.ofNat vv.length) + (1 : Int32)))]) := goRun K N #[] [(0, .aload_n 1, 1), (1, .arraylength, 1), (2, .iconst 1, 1), (3, .iadd, 1)] [.int (Int32.ofNat vv.length)] (P := (Ln Z h va (Int32.ofNat vv.length)) ∧ True) (by decide +kernel) rfl ⟨(B.ln (by rw [n_ti (by omega), List.length_map])), trivial⟩
  have hn1 : (Int32.ofNat vv.length + (1 : Int32)).toInt = ((vv.length + 1 : Nat) : Int) := by rw [n_one, n_ti (by omega)]
  obtain ⟨T1, h1, sa, cA, rfl, N1, E1, A1, g2⟩ := goNewP K N (aty := .long) (tw hw 15 rfl) (n := Int32.ofNat vv.length + (1 : Int32)) (not_neg_of hn1) (cap := 6) (by rw [clamp_of hn1]; omega) (by decide) (by decide) (by decide) (pc := 4) (L := #[.val (.ref ra), .val (.ref va), .unset, .unset]) (S := []) (by decide +kernel)
  have C1 := Av.new A1 (not_neg_of hn1) hn1
  have C1 : Av Z h1 h.size .long ((List.replicate (vv.length + 1) (0 : Int64)).map Value.long) := by rw [List.map_replicate]; exact C1
  have g3 : Ld p e below T1 (mkF m 6 #[.val (.ref ra), .val (.ref va), .unset, .unset] [(.ref h.size)]) T1 (mkF m 9 #[.val (.ref ra), .val (.ref va), .val (.ref h.size), .val (.int (0 : Int32))] []) := goRun K N1 #[] [(6, .astore_n 2, 1), (7, .iconst 0, 1), (8, .istore_n 3, 1)] [] (P := True) (by decide +kernel) rfl trivial
  obtain ⟨T2, h2, N2, K2, g4⟩ := su_loop K hl (by omega) N.size (Nat.ne_of_lt A.lt) (Nat.ne_of_lt B.lt) vv.length 0 T1 h1 _ (by omega) (by simp) N1 (A.ext E1) (B.ext E1) C1
  have g5 : Ld p e below T2 (mkF m 43 #[.val (.ref ra), .val (.ref va), .val (.ref h.size), .val (.int (Int32.ofNat vv.length))] []) T2 (mkF m 44 #[.val (.ref ra), .val (.ref va), .val (.ref h.size), .val (.int (Int32.ofNat vv.length))] [(.ref h.size)]) := goRun K N2 #[] [(43, .aload_n 2, 1)] [] (P := True) (by decide +kernel) rfl trivial
  exact ⟨_, T2, _, h2, _, _, N2, by decide, by decide, fun q => (nomatch q), ⟨⟨_, rfl⟩, (keep_ext E1).trans K2 (allS (Or.inr (Nat.le_refl _)) all0)⟩, g1.trans (g2.trans (g3.trans (g4.trans g5))), finA K N2 hret rfl rfl rfl (by decide +kernel)⟩
def sts (f : Nat → Bool) (i : Nat) : List Nat := (List.range i).filter f
theorem sts_yes {f : Nat → Bool} {i : Nat} (q : f i = true) : sts f (i + 1) = sts f i ++ [i] := by simp [sts, List.range_succ, q]
theorem sts_no {f : Nat → Bool} {i : Nat} (q : f i = false) : sts f (i + 1) = sts f i := by simp [sts, List.range_succ, q]
theorem sts_le {f : Nat → Bool} {i j : Nat} (q : i ≤ j) : (sts f i).length ≤ (sts f j).length := by
  obtain ⟨k, rfl⟩ := Nat.exists_eq_add_of_le q
  induction k with
  | zero => exact Nat.le_refl _
  | succ k ih =>
    refine Nat.le_trans (ih (by omega)) ?_
    cases hf : f (i + k)
    · rw [← Nat.add_assoc, sts_no hf]; exact Nat.le_refl _
    · rw [← Nat.add_assoc, sts_yes hf]; simp
theorem sts_len (f : Nat → Bool) (i : Nat) : (sts f i).length ≤ i := by
  refine Nat.le_trans (List.length_filter_le _ _) ?_
  simp
def dl (d : Nat → Int32) (n : Nat) : List Value := (List.range n).map fun k => Value.int (d k)
theorem dl_at {d : Nat → Int32} {n i : Nat} (q : i < n) : (dl d n)[i]? = some (.int (d i)) := by simp [dl, q]
theorem dl_len (d : Nat → Int32) (n : Nat) : (dl d n).length = n := by simp [dl]
def isS (d : Nat → Int32) (k : Nat) : Bool := k == 0 || decide (¬ d k = d (k - 1))
theorem isS_0 (d : Nat → Int32) : isS d 0 = true := rfl
theorem isS_y {d : Nat → Int32} {k : Nat} (q : ¬ d k = d (k - 1)) : isS d k = true := by simp [isS, q]
theorem isS_n {d : Nat → Int32} {k : Nat} (q0 : k ≠ 0) (q : d k = d (k - 1)) : isS d k = false := by simp [isS, q0, q]
def RSl (f : Nat → Bool) (i rn : Nat) : List Value := ((sts f i).map fun k => Value.long (Int32.ofNat k).toInt64) ++ List.replicate (rn + 1 - (sts f i).length) (.long 0)
def VSl (d : Nat → Int32) (f : Nat → Bool) (i rn : Nat) : List Value := ((sts f i).map fun k => Value.long (d k).toInt64) ++ List.replicate (rn - (sts f i).length) (.long 0)
theorem set_pad {α : Type} (A : List α) (z v : α) {k n : Nat} (hk : k = A.length) (n' : Nat) (hn : n = n' + 1) : (A ++ List.replicate n z).set k v = A ++ [v] ++ List.replicate n' z := by
  subst hk hn
  simp [List.replicate_succ]
theorem RS_set {f : Nat → Bool} {i rn : Nat} (q : f i = true) (hr : (sts f i).length + 1 ≤ rn) : (RSl f i rn).set (sts f i).length (.long (Int32.ofNat i).toInt64) = RSl f (i + 1) rn := by
  unfold RSl
  rw [set_pad _ _ _ (by simp) (rn + 1 - (sts f (i + 1)).length) (by rw [sts_yes q]; simp; omega), sts_yes q]
  simp
theorem VS_set {d : Nat → Int32} {f : Nat → Bool} {i rn : Nat} (q : f i = true) (hr : (sts f i).length + 1 ≤ rn) : (VSl d f i rn).set (sts f i).length (.long (d i).toInt64) = VSl d f (i + 1) rn := by
  unfold VSl
  rw [set_pad _ _ _ (by simp) (rn - (sts f (i + 1)).length) (by rw [sts_yes q]; simp; omega), sts_yes q]
  simp
theorem RS_len {f : Nat → Bool} {i rn : Nat} (q : (sts f i).length ≤ rn) : (RSl f i rn).length = rn + 1 := by simp [RSl]; omega
theorem VS_len {d : Nat → Int32} {f : Nat → Bool} {i rn : Nat} (q : (sts f i).length ≤ rn) : (VSl d f i rn).length = rn := by simp [VSl]; omega
theorem c1_loop (K : Cx Z "com/example/overbrim/overbrim/Demand" prog_2_method_1_code 5 p m c) (N : Nw Z n0 h p l e R s m args below meth c T cells slots) {a da : Addr} {d : Nat → Int32} {n : Nat} (F : Av Z h da .int (dl d n)) (hn : n < 1000000) : ∀ (k i : Nat), i + k = n →
    Ld p e below T (mkF m 8 #[.val (.ref a), .val (.ref da), .val (.int (Int32.ofNat (sts (isS d) i).length)), .val (.int (Int32.ofNat i)), .unset] []) T (mkF m 38 #[.val (.ref a), .val (.ref da), .val (.int (Int32.ofNat (sts (isS d) n).length)), .val (.int (Int32.ofNat n)), .unset] []) := by
  intro k
  induction k with
  | zero =>
    intro i hi
    have g1 : Ld p e below T (mkF m 8 #[.val (.ref a), .val (.ref da), .val (.int (Int32.ofNat (sts (isS d) i).length)), .val (.int (Int32.ofNat i)), .unset] []) T (mkF m 38 #[.val (.ref a), .val (.ref da), .val (.int (Int32.ofNat (sts (isS d) i).length)), .val (.int (Int32.ofNat i)), .unset] []) := goRun K N #[] [(8, .iload_n 3, 1), (9, .aload_n 1, 1), (10, .arraylength, 1), (11, .if_icmp .ge 27, 3)] [.int (Int32.ofNat n), .ref 0] (P := (Ln Z h da (Int32.ofNat n)) ∧ (¬ (Int32.ofNat i) < (Int32.ofNat n)) ∧ True) (by decide +kernel) rfl ⟨(F.ln (by rw [n_ti (by omega), dl_len])), (by rw [n_lt (by omega) (by omega)]; omega), trivial⟩
    obtain rfl : i = n := by omega
    exact g1
  | succ k ih =>
    intro i hi
    refine Ld.trans ?_ (ih (i + 1) (by omega))
    rcases Nat.eq_zero_or_pos i with h0 | h0
    · have g1 : Ld p e below T (mkF m 8 #[.val (.ref a), .val (.ref da), .val (.int (Int32.ofNat (sts (isS d) i).length)), .val (.int (Int32.ofNat i)), .unset] []) T (mkF m 8 #[.val (.ref a), .val (.ref da), .val (.int ((Int32.ofNat (sts (isS d) i).length) + (1 : Int32))), .val (.int ((Int32.ofNat i) + (1 : Int32))), .unset] []) := goRun K N #[] [(8, .iload_n 3, 1), (9, .aload_n 1, 1), (10, .arraylength, 1), (11, .if_icmp .ge 27, 3), (14, .iload_n 3, 1), (15, .ifCond .eq 14, 3), (29, .iinc 2 1, 3), (32, .iinc 3 1, 3), (35, .goto (-27), 3)] [.int (Int32.ofNat n), .null, .ref 0] (P := (Ln Z h da (Int32.ofNat n)) ∧ ((Int32.ofNat i) < (Int32.ofNat n)) ∧ ((Int32.ofNat i) = (0 : Int32)) ∧ True) (by decide +kernel) rfl ⟨(F.ln (by rw [n_ti (by omega), dl_len])), ((n_lt (by omega) (by omega)).mpr (by omega)), (by rw [h0]; rfl), trivial⟩
      subst h0
      rw [n_one, n_one] at g1
      rw [sts_yes (isS_0 d), List.length_append]; exact g1
    · by_cases hd : d i = d (i - 1)
      · have g1 : Ld p e below T (mkF m 8 #[.val (.ref a), .val (.ref da), .val (.int (Int32.ofNat (sts (isS d) i).length)), .val (.int (Int32.ofNat i)), .unset] []) T (mkF m 8 #[.val (.ref a), .val (.ref da), .val (.int (Int32.ofNat (sts (isS d) i).length)), .val (.int ((Int32.ofNat i) + (1 : Int32))), .unset] []) := goRun K N #[] [(8, .iload_n 3, 1), (9, .aload_n 1, 1), (10, .arraylength, 1), (11, .if_icmp .ge 27, 3), (14, .iload_n 3, 1), (15, .ifCond .eq 14, 3), (18, .aload_n 1, 1), (19, .iload_n 3, 1), (20, .iaload, 1), (21, .aload_n 1, 1), (22, .iload_n 3, 1), (23, .iconst 1, 1), (24, .isub, 1), (25, .iaload, 1), (26, .if_icmp .eq 6, 3), (32, .iinc 3 1, 3), (35, .goto (-27), 3)] [.int (Int32.ofNat n), .null, .null, .int (d i), .int (d (i - 1)), .ref 0] (P := (Ln Z h da (Int32.ofNat n)) ∧ ((Int32.ofNat i) < (Int32.ofNat n)) ∧ (¬ (Int32.ofNat i) = (0 : Int32)) ∧ (Rd Z h da .int (Int32.ofNat i) (.int (d i))) ∧ (Rd Z h da .int ((Int32.ofNat i) - (1 : Int32)) (.int (d (i - 1)))) ∧ ((d i) = (d (i - 1))) ∧ True) (by decide +kernel) rfl ⟨(F.ln (by rw [n_ti (by omega), dl_len])), ((n_lt (by omega) (by omega)).mpr (by omega)), (by show ¬ Int32.ofNat i = Int32.ofNat 0; rw [n_eq (by omega) (by omega)]; omega), (F.rd (n_ti (by omega)) (dl_at (by omega))), (F.rd (i := i - 1) (by rw [n_pred (by omega)]; omega) (dl_at (by omega))), hd, trivial⟩
        rw [n_one] at g1
        rw [sts_no (isS_n (by omega) hd)]; exact g1
      · have g1 : Ld p e below T (mkF m 8 #[.val (.ref a), .val (.ref da), .val (.int (Int32.ofNat (sts (isS d) i).length)), .val (.int (Int32.ofNat i)), .unset] []) T (mkF m 8 #[.val (.ref a), .val (.ref da), .val (.int ((Int32.ofNat (sts (isS d) i).length) + (1 : Int32))), .val (.int ((Int32.ofNat i) + (1 : Int32))), .unset] []) := goRun K N #[] [(8, .iload_n 3, 1), (9, .aload_n 1, 1), (10, .arraylength, 1), (11, .if_icmp .ge 27, 3), (14, .iload_n 3, 1), (15, .ifCond .eq 14, 3), (18, .aload_n 1, 1), (19, .iload_n 3, 1), (20, .iaload, 1), (21, .aload_n 1, 1), (22, .iload_n 3, 1), (23, .iconst 1, 1), (24, .isub, 1), (25, .iaload, 1), (26, .if_icmp .eq 6, 3), (29, .iinc 2 1, 3), (32, .iinc 3 1, 3), (35, .goto (-27), 3)] [.int (Int32.ofNat n), .null, .null, .int (d i), .int (d (i - 1)), .null] (P := (Ln Z h da (Int32.ofNat n)) ∧ ((Int32.ofNat i) < (Int32.ofNat n)) ∧ (¬ (Int32.ofNat i) = (0 : Int32)) ∧ (Rd Z h da .int (Int32.ofNat i) (.int (d i))) ∧ (Rd Z h da .int ((Int32.ofNat i) - (1 : Int32)) (.int (d (i - 1)))) ∧ (¬ (d i) = (d (i - 1))) ∧ True) (by decide +kernel) rfl ⟨(F.ln (by rw [n_ti (by omega), dl_len])), ((n_lt (by omega) (by omega)).mpr (by omega)), (by show ¬ Int32.ofNat i = Int32.ofNat 0; rw [n_eq (by omega) (by omega)]; omega), (F.rd (n_ti (by omega)) (dl_at (by omega))), (F.rd (i := i - 1) (by rw [n_pred (by omega)]; omega) (dl_at (by omega))), hd, trivial⟩
        rw [n_one, n_one] at g1
        rw [sts_yes (isS_y hd), List.length_append]; exact g1
theorem c2_blk (hw : ∀ d ∈ tables_1, d.before a0 Z = true) (K : Cx Z "com/example/overbrim/overbrim/Demand" prog_2_method_1_code 5 p m c) (N : Nw Z n0 h p l e R s m args below meth c T cells slots) {a da ra va : Addr} {d : Nat → Int32} {n i rn : Nat} {rr : Int32} (E : Exa Z h a "com/example/overbrim/overbrim/Demand") (G1 : Fld Z h a "com/example/overbrim/overbrim/Demand" "runStarts" "[J" (.ref ra)) (G2 : Fld Z h a "com/example/overbrim/overbrim/Demand" "values" "[J" (.ref va)) (F : Av Z h da .int (dl d n)) (A1 : Av Z h ra .long (RSl (isS d) i rn)) (A2 : Av Z h va .long (VSl d (isS d) i rn)) (hn : n < 1000000) (hi : i < n) (hf : isS d i = true) (hr : (sts (isS d) i).length + 1 ≤ rn) (hrn : rn ≤ n) (hra : n0 ≤ ra) (hva : n0 ≤ va) (ne : ra ≠ va) :
    ∃ T' h', Nw Z n0 h' p l e R s m args below meth c T' cells slots ∧ Keep h h' [ra, va] ∧ Av Z h' ra .long (RSl (isS d) (i + 1) rn) ∧ Av Z h' va .long (VSl d (isS d) (i + 1) rn) ∧ Ld p e below T (mkF m 84 #[.val (.ref a), .val (.ref da), .val (.int rr), .val (.int (Int32.ofNat (sts (isS d) i).length)), .val (.int (Int32.ofNat i))] []) T' (mkF m 59 #[.val (.ref a), .val (.ref da), .val (.int rr), .val (.int (Int32.ofNat (sts (isS d) (i + 1)).length)), .val (.int (Int32.ofNat (i + 1)))] []) := by
  have x1 := (A1.ne_exa E (tw hw 7 rfl))
  have x2 := (A2.ne_exa E (tw hw 7 rfl))
  have y1 : da ≠ ra := F.ne A1 (by decide)
  have y2 : da ≠ va := F.ne A2 (by decide)
  have hcn := sts_len (isS d) i
  have g1 : Ld p e below T (mkF m 84 #[.val (.ref a), .val (.ref da), .val (.int rr), .val (.int (Int32.ofNat (sts (isS d) i).length)), .val (.int (Int32.ofNat i))] []) T (mkF m 85 #[.val (.ref a), .val (.ref da), .val (.int rr), .val (.int (Int32.ofNat (sts (isS d) i).length)), .val (.int (Int32.ofNat i))] [(.ref a)]) := goRun K N #[] [(84, .aload_n 0, 1)] [] (P := True) (by decide +kernel) rfl trivial
  obtain ⟨T1, N1, g2⟩ := goGet K N (tw hw 16 rfl) G1 (pc := 85) (L := #[.val (.ref a), .val (.ref da), .val (.int rr), .val (.int (Int32.ofNat (sts (isS d) i).length)), .val (.int (Int32.ofNat i))]) (S := []) (by decide +kernel)
  have g3 : Ld p e below T1 (mkF m 88 #[.val (.ref a), .val (.ref da), .val (.int rr), .val (.int (Int32.ofNat (sts (isS d) i).length)), .val (.int (Int32.ofNat i))] [(.ref ra)]) T1 (mkF m 92 #[.val (.ref a), .val (.ref da), .val (.int rr), .val (.int (Int32.ofNat (sts (isS d) i).length)), .val (.int (Int32.ofNat i))] [(.long ((Int32.ofNat i).toInt64)), (.int (Int32.ofNat (sts (isS d) i).length)), (.ref ra)]) := goRun K N1 #[] [(88, .iload_n 3, 1), (89, .iload 4, 2), (91, .i2l, 1)] [] (P := True) (by decide +kernel) rfl trivial
  obtain ⟨T2, h2, N2, K2, B1, g4⟩ := avStJ K N1 A1 (j := Int32.ofNat (sts (isS d) i).length) (i := (sts (isS d) i).length) (x := (Int32.ofNat i).toInt64) (n_ti (by omega)) (by rw [RS_len (by omega)]; omega) hra (pc := 92) (L := #[.val (.ref a), .val (.ref da), .val (.int rr), .val (.int (Int32.ofNat (sts (isS d) i).length)), .val (.int (Int32.ofNat i))]) (S := []) (by decide +kernel)
  rw [RS_set hf hr] at B1
  have g5 : Ld p e below T2 (mkF m 93 #[.val (.ref a), .val (.ref da), .val (.int rr), .val (.int (Int32.ofNat (sts (isS d) i).length)), .val (.int (Int32.ofNat i))] []) T2 (mkF m 94 #[.val (.ref a), .val (.ref da), .val (.int rr), .val (.int (Int32.ofNat (sts (isS d) i).length)), .val (.int (Int32.ofNat i))] [(.ref a)]) := goRun K N2 #[] [(93, .aload_n 0, 1)] [] (P := True) (by decide +kernel) rfl trivial
  obtain ⟨T3, N3, g6⟩ := goGet K N2 (tw hw 18 rfl) (G2.keep K2 (ninS x1 nin0)) (pc := 94) (L := #[.val (.ref a), .val (.ref da), .val (.int rr), .val (.int (Int32.ofNat (sts (isS d) i).length)), .val (.int (Int32.ofNat i))]) (S := []) (by decide +kernel)
  have g7 : Ld p e below T3 (mkF m 97 #[.val (.ref a), .val (.ref da), .val (.int rr), .val (.int (Int32.ofNat (sts (isS d) i).length)), .val (.int (Int32.ofNat i))] [(.ref va)]) T3 (mkF m 103 #[.val (.ref a), .val (.ref da), .val (.int rr), .val (.int (Int32.ofNat (sts (isS d) i).length)), .val (.int (Int32.ofNat i))] [(.long ((d i).toInt64)), (.int (Int32.ofNat (sts (isS d) i).length)), (.ref va)]) := goRun K N3 #[] [(97, .iload_n 3, 1), (98, .aload_n 1, 1), (99, .iload 4, 2), (101, .iaload, 1), (102, .i2l, 1)] [.int (d i)] (P := (Rd Z h2 da .int (Int32.ofNat i) (.int (d i))) ∧ True) (by decide +kernel) rfl ⟨((F.keep K2 (ninS y1 nin0)).rd (n_ti (by omega)) (dl_at hi)), trivial⟩
  obtain ⟨T4, h4, N4, K4, B2, g8⟩ := avStJ K N3 (A2.keep K2 (ninS (Ne.symm ne) nin0)) (j := Int32.ofNat (sts (isS d) i).length) (i := (sts (isS d) i).length) (x := (d i).toInt64) (n_ti (by omega)) (by rw [VS_len (by omega)]; omega) hva (pc := 103) (L := #[.val (.ref a), .val (.ref da), .val (.int rr), .val (.int (Int32.ofNat (sts (isS d) i).length)), .val (.int (Int32.ofNat i))]) (S := []) (by decide +kernel)
  rw [VS_set hf hr] at B2
  have g9 : Ld p e below T4 (mkF m 104 #[.val (.ref a), .val (.ref da), .val (.int rr), .val (.int (Int32.ofNat (sts (isS d) i).length)), .val (.int (Int32.ofNat i))] []) T4 (mkF m 59 #[.val (.ref a), .val (.ref da), .val (.int rr), .val (.int ((Int32.ofNat (sts (isS d) i).length) + (1 : Int32))), .val (.int ((Int32.ofNat i) + (1 : Int32)))] []) := goRun K N4 #[] [(104, .iinc 3 1, 3), (107, .iinc 4 1, 3), (110, .goto (-51), 3)] [] (P := True) (by decide +kernel) rfl trivial
  rw [n_one, n_one] at g9
  have hl1 : (sts (isS d) (i + 1)).length = (sts (isS d) i).length + 1 := by rw [sts_yes hf, List.length_append]; rfl
  have KK : Keep h h4 [ra, va] := by
    have z1 : Keep h h2 [ra, va] := (Keep.refl h [ra, va]).trans K2 (allS (Or.inl (List.mem_cons_self ..)) all0)
    exact z1.trans K4 (allS (Or.inl (List.mem_cons_of_mem _ (List.mem_cons_self ..))) all0)
  refine ⟨T4, h4, N4, KK, B1.keep K4 (ninS ne nin0), B2, ?_⟩
  rw [hl1]
  exact g1.trans (g2.trans (g3.trans (g4.trans (g5.trans (g6.trans (g7.trans (g8.trans g9)))))))
theorem c2_loop (hw : ∀ d ∈ tables_1, d.before a0 Z = true) (K : Cx Z "com/example/overbrim/overbrim/Demand" prog_2_method_1_code 5 p m c) {a da ra va : Addr} {d : Nat → Int32} {n rn : Nat} {rr : Int32} (hn : n < 1000000) (hrn : rn = (sts (isS d) n).length) (hra : n0 ≤ ra) (hva : n0 ≤ va) (ne : ra ≠ va) : ∀ (k i : Nat) (T : State) (h : Heap), i + k = n → Nw Z n0 h p l e R s m args below meth c T cells slots → Exa Z h a "com/example/overbrim/overbrim/Demand" → Fld Z h a "com/example/overbrim/overbrim/Demand" "runStarts" "[J" (.ref ra) → Fld Z h a "com/example/overbrim/overbrim/Demand" "values" "[J" (.ref va) → Av Z h da .int (dl d n) → Av Z h ra .long (RSl (isS d) i rn) → Av Z h va .long (VSl d (isS d) i rn) →
    ∃ T' h', Nw Z n0 h' p l e R s m args below meth c T' cells slots ∧ Keep h h' [ra, va] ∧ Av Z h' ra .long (RSl (isS d) n rn) ∧ Av Z h' va .long (VSl d (isS d) n rn) ∧ Ld p e below T (mkF m 59 #[.val (.ref a), .val (.ref da), .val (.int rr), .val (.int (Int32.ofNat (sts (isS d) i).length)), .val (.int (Int32.ofNat i))] []) T' (mkF m 113 #[.val (.ref a), .val (.ref da), .val (.int rr), .val (.int (Int32.ofNat (sts (isS d) n).length)), .val (.int (Int32.ofNat n))] []) := by
  intro k
  induction k with
  | zero =>
    intro i T h hi N E G1 G2 F A1 A2
    have g1 : Ld p e below T (mkF m 59 #[.val (.ref a), .val (.ref da), .val (.int rr), .val (.int (Int32.ofNat (sts (isS d) i).length)), .val (.int (Int32.ofNat i))] []) T (mkF m 113 #[.val (.ref a), .val (.ref da), .val (.int rr), .val (.int (Int32.ofNat (sts (isS d) i).length)), .val (.int (Int32.ofNat i))] []) := goRun K N #[] [(59, .iload 4, 2), (61, .aload_n 1, 1), (62, .arraylength, 1), (63, .if_icmp .ge 50, 3)] [.int (Int32.ofNat n), .ref 0] (P := (Ln Z h da (Int32.ofNat n)) ∧ (¬ (Int32.ofNat i) < (Int32.ofNat n)) ∧ True) (by decide +kernel) rfl ⟨(F.ln (by rw [n_ti (by omega), dl_len])), (by rw [n_lt (by omega) (by omega)]; omega), trivial⟩
    obtain rfl : i = n := by omega
    exact ⟨T, h, N, Keep.refl _ _, A1, A2, g1⟩
  | succ k ih =>
    intro i T h hi N E G1 G2 F A1 A2
    have hle := sts_le (f := isS d) (i := i + 1) (j := n) (by omega)
    have hcn := sts_len (isS d) n
    have x1 := (A1.ne_exa E (tw hw 7 rfl))
    have x2 := (A2.ne_exa E (tw hw 7 rfl))
    have y1 : da ≠ ra := F.ne A1 (by decide)
    have y2 : da ≠ va := F.ne A2 (by decide)
    obtain ⟨T1, h1, N1, K1, B1, B2, g1⟩ : ∃ T' h', Nw Z n0 h' p l e R s m args below meth c T' cells slots ∧ Keep h h' [ra, va] ∧ Av Z h' ra .long (RSl (isS d) (i + 1) rn) ∧ Av Z h' va .long (VSl d (isS d) (i + 1) rn) ∧ Ld p e below T (mkF m 59 #[.val (.ref a), .val (.ref da), .val (.int rr), .val (.int (Int32.ofNat (sts (isS d) i).length)), .val (.int (Int32.ofNat i))] []) T' (mkF m 59 #[.val (.ref a), .val (.ref da), .val (.int rr), .val (.int (Int32.ofNat (sts (isS d) (i + 1)).length)), .val (.int (Int32.ofNat (i + 1)))] []) := by
      have blk : isS d i = true → ∃ T' h', Nw Z n0 h' p l e R s m args below meth c T' cells slots ∧ Keep h h' [ra, va] ∧ Av Z h' ra .long (RSl (isS d) (i + 1) rn) ∧ Av Z h' va .long (VSl d (isS d) (i + 1) rn) ∧ Ld p e below T (mkF m 84 #[.val (.ref a), .val (.ref da), .val (.int rr), .val (.int (Int32.ofNat (sts (isS d) i).length)), .val (.int (Int32.ofNat i))] []) T' (mkF m 59 #[.val (.ref a), .val (.ref da), .val (.int rr), .val (.int (Int32.ofNat (sts (isS d) (i + 1)).length)), .val (.int (Int32.ofNat (i + 1)))] []) := fun hf => c2_blk hw K N E G1 G2 F A1 A2 hn (by omega) hf (by rw [sts_yes hf, List.length_append] at hle; simp at hle; omega) (by omega) hra hva ne
      rcases Nat.eq_zero_or_pos i with h0 | h0
      · have g1 : Ld p e below T (mkF m 59 #[.val (.ref a), .val (.ref da), .val (.int rr), .val (.int (Int32.ofNat (sts (isS d) i).length)), .val (.int (Int32.ofNat i))] []) T (mkF m 84 #[.val (.ref a), .val (.ref da), .val (.int rr), .val (.int (Int32.ofNat (sts (isS d) i).length)), .val (.int (Int32.ofNat i))] []) := goRun K N #[] [(59, .iload 4, 2), (61, .aload_n 1, 1), (62, .arraylength, 1), (63, .if_icmp .ge 50, 3), (66, .iload 4, 2), (68, .ifCond .eq 16, 3)] [.int (Int32.ofNat n), .null, .ref 0] (P := (Ln Z h da (Int32.ofNat n)) ∧ ((Int32.ofNat i) < (Int32.ofNat n)) ∧ ((Int32.ofNat i) = (0 : Int32)) ∧ True) (by decide +kernel) rfl ⟨(F.ln (by rw [n_ti (by omega), dl_len])), ((n_lt (by omega) (by omega)).mpr (by omega)), (by rw [h0]; rfl), trivial⟩
        obtain ⟨T', h', r1, r2, r3, r4, r5⟩ := blk (by rw [h0]; rfl)
        exact ⟨T', h', r1, r2, r3, r4, g1.trans r5⟩
      · by_cases hd : d i = d (i - 1)
        · have g1 : Ld p e below T (mkF m 59 #[.val (.ref a), .val (.ref da), .val (.int rr), .val (.int (Int32.ofNat (sts (isS d) i).length)), .val (.int (Int32.ofNat i))] []) T (mkF m 59 #[.val (.ref a), .val (.ref da), .val (.int rr), .val (.int (Int32.ofNat (sts (isS d) i).length)), .val (.int ((Int32.ofNat i) + (1 : Int32)))] []) := goRun K N #[] [(59, .iload 4, 2), (61, .aload_n 1, 1), (62, .arraylength, 1), (63, .if_icmp .ge 50, 3), (66, .iload 4, 2), (68, .ifCond .eq 16, 3), (71, .aload_n 1, 1), (72, .iload 4, 2), (74, .iaload, 1), (75, .aload_n 1, 1), (76, .iload 4, 2), (78, .iconst 1, 1), (79, .isub, 1), (80, .iaload, 1), (81, .if_icmp .eq 26, 3), (107, .iinc 4 1, 3), (110, .goto (-51), 3)] [.int (Int32.ofNat n), .null, .null, .int (d i), .int (d (i - 1)), .ref 0] (P := (Ln Z h da (Int32.ofNat n)) ∧ ((Int32.ofNat i) < (Int32.ofNat n)) ∧ (¬ (Int32.ofNat i) = (0 : Int32)) ∧ (Rd Z h da .int (Int32.ofNat i) (.int (d i))) ∧ (Rd Z h da .int ((Int32.ofNat i) - (1 : Int32)) (.int (d (i - 1)))) ∧ ((d i) = (d (i - 1))) ∧ True) (by decide +kernel) rfl ⟨(F.ln (by rw [n_ti (by omega), dl_len])), ((n_lt (by omega) (by omega)).mpr (by omega)), (by show ¬ Int32.ofNat i = Int32.ofNat 0; rw [n_eq (by omega) (by omega)]; omega), (F.rd (n_ti (by omega)) (dl_at (by omega))), (F.rd (i := i - 1) (by rw [n_pred (by omega)]; omega) (dl_at (by omega))), hd, trivial⟩
          rw [n_one] at g1
          have hno := sts_no (isS_n (by omega) hd)
          refine ⟨T, h, N, Keep.refl _ _, ?_, ?_, ?_⟩
          · rw [RSl, hno]; exact A1
          · rw [VSl, hno]; exact A2
          · rw [hno]; exact g1
        · have g1 : Ld p e below T (mkF m 59 #[.val (.ref a), .val (.ref da), .val (.int rr), .val (.int (Int32.ofNat (sts (isS d) i).length)), .val (.int (Int32.ofNat i))] []) T (mkF m 84 #[.val (.ref a), .val (.ref da), .val (.int rr), .val (.int (Int32.ofNat (sts (isS d) i).length)), .val (.int (Int32.ofNat i))] []) := goRun K N #[] [(59, .iload 4, 2), (61, .aload_n 1, 1), (62, .arraylength, 1), (63, .if_icmp .ge 50, 3), (66, .iload 4, 2), (68, .ifCond .eq 16, 3), (71, .aload_n 1, 1), (72, .iload 4, 2), (74, .iaload, 1), (75, .aload_n 1, 1), (76, .iload 4, 2), (78, .iconst 1, 1), (79, .isub, 1), (80, .iaload, 1), (81, .if_icmp .eq 26, 3)] [.int (Int32.ofNat n), .null, .null, .int (d i), .int (d (i - 1)), .null] (P := (Ln Z h da (Int32.ofNat n)) ∧ ((Int32.ofNat i) < (Int32.ofNat n)) ∧ (¬ (Int32.ofNat i) = (0 : Int32)) ∧ (Rd Z h da .int (Int32.ofNat i) (.int (d i))) ∧ (Rd Z h da .int ((Int32.ofNat i) - (1 : Int32)) (.int (d (i - 1)))) ∧ (¬ (d i) = (d (i - 1))) ∧ True) (by decide +kernel) rfl ⟨(F.ln (by rw [n_ti (by omega), dl_len])), ((n_lt (by omega) (by omega)).mpr (by omega)), (by show ¬ Int32.ofNat i = Int32.ofNat 0; rw [n_eq (by omega) (by omega)]; omega), (F.rd (n_ti (by omega)) (dl_at (by omega))), (F.rd (i := i - 1) (by rw [n_pred (by omega)]; omega) (dl_at (by omega))), hd, trivial⟩
          obtain ⟨T', h', r1, r2, r3, r4, r5⟩ := blk (isS_y hd)
          exact ⟨T', h', r1, r2, r3, r4, g1.trans r5⟩
    obtain ⟨T2, h2, N2, K2, C1, C2, g2⟩ := ih (i + 1) T1 h1 (by omega) N1 (E.keep K1) (G1.keep K1 (ninS x1 (ninS x2 nin0))) (G2.keep K1 (ninS x1 (ninS x2 nin0))) (F.keep K1 (ninS y1 (ninS y2 nin0))) B1 B2
    exact ⟨T2, h2, N2, K1.trans K2 (fun x hx => Or.inl hx), C1, C2, g1.trans g2⟩
theorem pd_ct : parseMethodDescriptor "([I)V" = some ⟨[.array .int], none⟩ := by decide +kernel
def fin_ks (d : Nat → Int32) (n : Nat) : List Nat := sts (isS d) n ++ [n]
theorem con_ct (hw : ∀ d ∈ tables_1, d.before a0 Z = true) {a da : Addr} {d : Nat → Int32} {n : Nat} (E : Exa Z h a "com/example/overbrim/overbrim/Demand") (G1 : Fld Z h a "com/example/overbrim/overbrim/Demand" "runStarts" "[J" .null) (G2 : Fld Z h a "com/example/overbrim/overbrim/Demand" "values" "[J" .null) (G3 : Fld Z h a "com/example/overbrim/overbrim/Demand" "before" "[J" .null) (F : Av Z h da .int (dl d n)) (hn : n ≤ 5) (ha : n0 ≤ a) :
    Con l Z n0 ⟨"com/example/overbrim/overbrim/Demand", "<init>", "([I)V"⟩ prog_2_method_1_code 5 none [] { frames := 1, cells := 3, slots := 17, locals := 40 } #[.ref a, .ref da] h (fun v h' => v = none ∧ Keep h h' [a] ∧ ∃ ra, Fld Z h' a "com/example/overbrim/overbrim/Demand" "runStarts" "[J" (.ref ra) ∧ Av Z h' ra .long (((fin_ks d n).map kl).map Value.long)) := by
  refine Con.of pnD (L0 := #[.val (.ref a), .val (.ref da), .unset, .unset, .unset]) (fun m => by first | (simp [entryFrame, mkF, argsToLocals, Value.category]; done) | rfl) ?_
  intro p e s m below meth c T K hret hnm N
  have hcn := sts_len (isS d) n
  have y0 : a ≠ da := F.ne_exa E (tw hw 7 rfl)
  have lz1 : Laid Z a0 "com/example/overbrim/overbrim/Demand" "com/example/overbrim/overbrim/Demand" "runStarts" "[J" := Or.inr (tw hw 17 rfl)
  have lz2 : Laid Z a0 "com/example/overbrim/overbrim/Demand" "com/example/overbrim/overbrim/Demand" "values" "[J" := Or.inr (tw hw 19 rfl)
  have lz3 : Laid Z a0 "com/example/overbrim/overbrim/Demand" "com/example/overbrim/overbrim/Demand" "before" "[J" := Or.inr (tw hw 24 rfl)
  have s12 := slot_ne lz1 lz2 (by decide) (t := .array .long) (t' := .array .long) (by decide) (by decide)
  have s13 := slot_ne lz1 lz3 (by decide) (t := .array .long) (t' := .array .long) (by decide) (by decide)
  have g1 : Ld p e below T (mkF m 0 #[.val (.ref a), .val (.ref da), .unset, .unset, .unset] []) T (mkF m 1 #[.val (.ref a), .val (.ref da), .unset, .unset, .unset] [(.ref a)]) := goRun K N #[] [(0, .aload_n 0, 1)] [] (P := True) (by decide +kernel) rfl trivial
  obtain ⟨T1, N1, g2⟩ := goInit K N (tw hw 12 rfl) (tw hw 13 rfl) (tw hw 14 rfl) rfl (a := a) (pc := 1) (L := #[.val (.ref a), .val (.ref da), .unset, .unset, .unset]) (S := []) rfl (by decide +kernel) (by decide) (W := 0) (by decide) (by decide)
  have g3 : Ld p e below T1 (mkF m 4 #[.val (.ref a), .val (.ref da), .unset, .unset, .unset] []) T1 (mkF m 8 #[.val (.ref a), .val (.ref da), .val (.int (0 : Int32)), .val (.int (0 : Int32)), .unset] []) := goRun K N1 #[] [(4, .iconst 0, 1), (5, .istore_n 2, 1), (6, .iconst 0, 1), (7, .istore_n 3, 1)] [] (P := True) (by decide +kernel) rfl trivial
  have g4 := c1_loop K N1 (a := a) F (by omega) n 0 (by omega)
  have g5 : Ld p e below T1 (mkF m 38 #[.val (.ref a), .val (.ref da), .val (.int (Int32.ofNat (sts (isS d) n).length)), .val (.int (Int32.ofNat n)), .unset] []) T1 (mkF m 42 #[.val (.ref a), .val (.ref da), .val (.int (Int32.ofNat (sts (isS d) n).length)), .val (.int (Int32.ofNat n)), .unset] [(.int ((Int32.ofNat (sts (isS d) n).length) + (1 : Int32))), (.ref a)]) := goRun K N1 #[] [(38, .aload_n 0, 1), (39, .iload_n 2, 1), (40, .iconst 1, 1), (41, .iadd, 1)] [] (P := True) (by decide +kernel) rfl trivial
  have hn1 : (Int32.ofNat (sts (isS d) n).length + (1 : Int32)).toInt = (((sts (isS d) n).length + 1 : Nat) : Int) := by rw [n_one, n_ti (by omega)]
  have hn2 : (Int32.ofNat (sts (isS d) n).length).toInt = (((sts (isS d) n).length : Nat) : Int) := n_ti (by omega)
  obtain ⟨T2, h2, ra, cA, era, N2, E2, A2, g6⟩ := goNewP K N1 (aty := .long) (tw hw 15 rfl) (n := Int32.ofNat (sts (isS d) n).length + (1 : Int32)) (not_neg_of hn1) (cap := 6) (by rw [clamp_of hn1]; omega) (by decide) (by decide) (by decide) (pc := 42) (L := #[.val (.ref a), .val (.ref da), .val (.int (Int32.ofNat (sts (isS d) n).length)), .val (.int (Int32.ofNat n)), .unset]) (S := [.ref a]) (by decide +kernel)
  have B1 := Av.new A2 (not_neg_of hn1) hn1
  have hra : n0 ≤ ra := era ▸ N.size
  have nra : a ≠ ra := era ▸ Nat.ne_of_lt E.lt
  have ndr : da ≠ ra := era ▸ Nat.ne_of_lt F.lt
  obtain ⟨T3, h3, N3, W3, g7⟩ := goPut K N2 (C := "com/example/overbrim/overbrim/Demand") (tw hw 16 rfl) (G1.ext E2) (E.ext E2) (Or.inr ⟨(tw hw 17 rfl), rfl, hnm⟩) (tw hw 7 rfl) (ty := .array .long) (v := .ref ra) (by decide) rfl rfl ha (pc := 44) (L := #[.val (.ref a), .val (.ref da), .val (.int (Int32.ofNat (sts (isS d) n).length)), .val (.int (Int32.ofNat n)), .unset]) (S := []) (by decide +kernel)
  have g8 : Ld p e below T3 (mkF m 47 #[.val (.ref a), .val (.ref da), .val (.int (Int32.ofNat (sts (isS d) n).length)), .val (.int (Int32.ofNat n)), .unset] []) T3 (mkF m 49 #[.val (.ref a), .val (.ref da), .val (.int (Int32.ofNat (sts (isS d) n).length)), .val (.int (Int32.ofNat n)), .unset] [(.int (Int32.ofNat (sts (isS d) n).length)), (.ref a)]) := goRun K N3 #[] [(47, .aload_n 0, 1), (48, .iload_n 2, 1)] [] (P := True) (by decide +kernel) rfl trivial
  obtain ⟨T4, h4, va, cB, eva, N4, E4, A4, g9⟩ := goNewP K N3 (aty := .long) (tw hw 15 rfl) (n := Int32.ofNat (sts (isS d) n).length) (not_neg_of hn2) (cap := 5) (by rw [clamp_of hn2]; omega) (by decide) (by decide) (by decide) (pc := 49) (L := #[.val (.ref a), .val (.ref da), .val (.int (Int32.ofNat (sts (isS d) n).length)), .val (.int (Int32.ofNat n)), .unset]) (S := [.ref a]) (by decide +kernel)
  have B2 := Av.new A4 (not_neg_of hn2) hn2
  have E3 : Exa Z h3 a "com/example/overbrim/overbrim/Demand" := (E.ext E2).wr W3
  have F3 := (F.ext E2).other W3 (Ne.symm y0)
  have B3 := B1.other W3 (Ne.symm nra)
  have hva : n0 ≤ va := eva ▸ N3.size
  have nva : a ≠ va := eva ▸ Nat.ne_of_lt E3.lt
  have ndv : da ≠ va := eva ▸ Nat.ne_of_lt F3.lt
  have nrv : ra ≠ va := eva ▸ Nat.ne_of_lt B3.lt
  have H1 : Fld Z h4 a "com/example/overbrim/overbrim/Demand" "runStarts" "[J" (.ref ra) := ((G1.ext E2).same W3).ext E4
  have H2 : Fld Z h4 a "com/example/overbrim/overbrim/Demand" "values" "[J" .null := ((G2.ext E2).other W3 (Or.inr (Ne.symm s12))).ext E4
  have H3 : Fld Z h4 a "com/example/overbrim/overbrim/Demand" "before" "[J" .null := ((G3.ext E2).other W3 (Or.inr (Ne.symm s13))).ext E4
  have s23 := slot_ne lz2 lz3 (by decide) (t := .array .long) (t' := .array .long) (by decide) (by decide)
  obtain ⟨T5, h5, N5, W5, g10⟩ := goPut K N4 (C := "com/example/overbrim/overbrim/Demand") (tw hw 18 rfl) H2 (E3.ext E4) (Or.inr ⟨(tw hw 19 rfl), rfl, hnm⟩) (tw hw 7 rfl) (ty := .array .long) (v := .ref va) (by decide) rfl rfl ha (pc := 51) (L := #[.val (.ref a), .val (.ref da), .val (.int (Int32.ofNat (sts (isS d) n).length)), .val (.int (Int32.ofNat n)), .unset]) (S := []) (by decide +kernel)
  have E5 : Exa Z h5 a "com/example/overbrim/overbrim/Demand" := (E3.ext E4).wr W5
  have F5 := (F3.ext E4).other W5 (Ne.symm y0)
  have B5 := (B3.ext E4).other W5 (Ne.symm nra)
  have B6 := B2.other W5 (Ne.symm nva)
  have H5 := H1.other W5 (Or.inr s12)
  have H6 := H2.same W5
  have H7 := H3.other W5 (Or.inr (Ne.symm s23))
  have g11 : Ld p e below T5 (mkF m 54 #[.val (.ref a), .val (.ref da), .val (.int (Int32.ofNat (sts (isS d) n).length)), .val (.int (Int32.ofNat n)), .unset] []) T5 (mkF m 59 #[.val (.ref a), .val (.ref da), .val (.int (Int32.ofNat (sts (isS d) n).length)), .val (.int (0 : Int32)), .val (.int (0 : Int32))] []) := goRun K N5 #[] [(54, .iconst 0, 1), (55, .istore_n 3, 1), (56, .iconst 0, 1), (57, .istore 4, 2)] [] (P := True) (by decide +kernel) rfl trivial
  obtain ⟨T6, h6, N6, K6, C1, C2, g12⟩ := c2_loop hw K (a := a) (rr := Int32.ofNat (sts (isS d) n).length) (by omega) rfl hra hva nrv n 0 T5 h5 (by omega) N5 E5 H5 H6 F5 B5 B6
  have P6 : ∀ x, x ≠ ra → x ≠ va → x ∉ [ra, va] := fun x q r => ninS q (ninS r nin0)
  have g13 : Ld p e below T6 (mkF m 113 #[.val (.ref a), .val (.ref da), .val (.int (Int32.ofNat (sts (isS d) n).length)), .val (.int (Int32.ofNat (sts (isS d) n).length)), .val (.int (Int32.ofNat n))] []) T6 (mkF m 114 #[.val (.ref a), .val (.ref da), .val (.int (Int32.ofNat (sts (isS d) n).length)), .val (.int (Int32.ofNat (sts (isS d) n).length)), .val (.int (Int32.ofNat n))] [(.ref a)]) := goRun K N6 #[] [(113, .aload_n 0, 1)] [] (P := True) (by decide +kernel) rfl trivial
  obtain ⟨T7, N7, g14⟩ := goGet K N6 (tw hw 16 rfl) (H5.keep K6 (P6 _ nra nva)) (pc := 114) (L := #[.val (.ref a), .val (.ref da), .val (.int (Int32.ofNat (sts (isS d) n).length)), .val (.int (Int32.ofNat (sts (isS d) n).length)), .val (.int (Int32.ofNat n))]) (S := []) (by decide +kernel)
  have g15 : Ld p e below T7 (mkF m 117 #[.val (.ref a), .val (.ref da), .val (.int (Int32.ofNat (sts (isS d) n).length)), .val (.int (Int32.ofNat (sts (isS d) n).length)), .val (.int (Int32.ofNat n))] [(.ref ra)]) T7 (mkF m 121 #[.val (.ref a), .val (.ref da), .val (.int (Int32.ofNat (sts (isS d) n).length)), .val (.int (Int32.ofNat (sts (isS d) n).length)), .val (.int (Int32.ofNat n))] [(.long ((Int32.ofNat n).toInt64)), (.int (Int32.ofNat (sts (isS d) n).length)), (.ref ra)]) := goRun K N7 #[] [(117, .iload_n 2, 1), (118, .aload_n 1, 1), (119, .arraylength, 1), (120, .i2l, 1)] [.int (Int32.ofNat n)] (P := (Ln Z h6 da (Int32.ofNat n)) ∧ True) (by decide +kernel) rfl ⟨((F5.keep K6 (P6 _ ndr ndv)).ln (by rw [n_ti (by omega), dl_len])), trivial⟩
  obtain ⟨T8, h8, N8, K8, C3, g16⟩ := avStJ K N7 C1 (j := Int32.ofNat (sts (isS d) n).length) (i := (sts (isS d) n).length) (x := (Int32.ofNat n).toInt64) (n_ti (by omega)) (by rw [RS_len (Nat.le_refl _)]; omega) hra (pc := 121) (L := #[.val (.ref a), .val (.ref da), .val (.int (Int32.ofNat (sts (isS d) n).length)), .val (.int (Int32.ofNat (sts (isS d) n).length)), .val (.int (Int32.ofNat n))]) (S := []) (by decide +kernel)
  have C4 : Av Z h8 ra .long (((fin_ks d n).map kl).map Value.long) := by
    have q : (RSl (isS d) n (sts (isS d) n).length).set (sts (isS d) n).length (.long (Int32.ofNat n).toInt64) = ((fin_ks d n).map kl).map Value.long := by
      unfold RSl fin_ks
      rw [set_pad _ _ _ (by simp) 0 (by omega)]
      simp [kl]
    rw [q] at C3; exact C3
  have Q8 : ∀ x, x ≠ ra → x ∉ [ra] := fun x q => ninS q nin0
  have G5 := (H5.keep K6 (P6 _ nra nva)).keep K8 (Q8 _ nra)
  have G6 := (H6.keep K6 (P6 _ nra nva)).keep K8 (Q8 _ nra)
  have G7 := (H7.keep K6 (P6 _ nra nva)).keep K8 (Q8 _ nra)
  have E8 := (E5.keep K6).keep K8
  have C5 := C2.keep K8 (Q8 _ (Ne.symm nrv))
  have C6 : Av Z h8 va .long (((sts (isS d) n).map fun k => (d k).toInt64).map Value.long) := by
    have q : VSl d (isS d) n (sts (isS d) n).length = ((sts (isS d) n).map fun k => (d k).toInt64).map Value.long := by simp [VSl]
    rw [q] at C5; exact C5
  have g17 : Ld p e below T8 (mkF m 122 #[.val (.ref a), .val (.ref da), .val (.int (Int32.ofNat (sts (isS d) n).length)), .val (.int (Int32.ofNat (sts (isS d) n).length)), .val (.int (Int32.ofNat n))] []) T8 (mkF m 124 #[.val (.ref a), .val (.ref da), .val (.int (Int32.ofNat (sts (isS d) n).length)), .val (.int (Int32.ofNat (sts (isS d) n).length)), .val (.int (Int32.ofNat n))] [(.ref a), (.ref a)]) := goRun K N8 #[] [(122, .aload_n 0, 1), (123, .aload_n 0, 1)] [] (P := True) (by decide +kernel) rfl trivial
  obtain ⟨T9, N9, g18⟩ := goGet K N8 (tw hw 16 rfl) G5 (pc := 124) (L := #[.val (.ref a), .val (.ref da), .val (.int (Int32.ofNat (sts (isS d) n).length)), .val (.int (Int32.ofNat (sts (isS d) n).length)), .val (.int (Int32.ofNat n))]) (S := [.ref a]) (by decide +kernel)
  have g19 : Ld p e below T9 (mkF m 127 #[.val (.ref a), .val (.ref da), .val (.int (Int32.ofNat (sts (isS d) n).length)), .val (.int (Int32.ofNat (sts (isS d) n).length)), .val (.int (Int32.ofNat n))] [(.ref ra), (.ref a)]) T9 (mkF m 128 #[.val (.ref a), .val (.ref da), .val (.int (Int32.ofNat (sts (isS d) n).length)), .val (.int (Int32.ofNat (sts (isS d) n).length)), .val (.int (Int32.ofNat n))] [(.ref a), (.ref ra), (.ref a)]) := goRun K N9 #[] [(127, .aload_n 0, 1)] [] (P := True) (by decide +kernel) rfl trivial
  obtain ⟨T10, N10, g20⟩ := goGet K N9 (tw hw 18 rfl) G6 (pc := 128) (L := #[.val (.ref a), .val (.ref da), .val (.int (Int32.ofNat (sts (isS d) n).length)), .val (.int (Int32.ofNat (sts (isS d) n).length)), .val (.int (Int32.ofNat n))]) (S := [.ref ra, .ref a]) (by decide +kernel)
  obtain ⟨v, T11, h11, N11, ⟨⟨sa, rfl⟩, K11⟩, g21⟩ := goS K N10 (tw hw 20 rfl) (tw hw 21 rfl) (tw hw 8 rfl) (tw hw 22 rfl) (con_su hw C4 C6 (by simp [fin_ks]) (by simp; omega)) (argsL := [.ref ra, .ref va]) (W := 1) (rest := [.ref a]) (by decide) (by decide) (by decide) (by decide) (by decide) (L := #[.val (.ref a), .val (.ref da), .val (.int (Int32.ofNat (sts (isS d) n).length)), .val (.int (Int32.ofNat (sts (isS d) n).length)), .val (.int (Int32.ofNat n))]) rfl pd_su rfl (Nat.le_of_eq rfl) (pc := 131) (by decide +kernel)
  obtain ⟨T12, h12, N12, W12, g22⟩ := goPut K N11 (C := "com/example/overbrim/overbrim/Demand") (tw hw 23 rfl) (G7.keep K11 nin0) (E8.keep K11) (Or.inr ⟨(tw hw 24 rfl), rfl, hnm⟩) (tw hw 7 rfl) (ty := .array .long) (v := .ref sa) (by decide) rfl rfl ha (pc := 134) (L := #[.val (.ref a), .val (.ref da), .val (.int (Int32.ofNat (sts (isS d) n).length)), .val (.int (Int32.ofNat (sts (isS d) n).length)), .val (.int (Int32.ofNat n))]) (S := []) (by decide +kernel)
  have nra' : ra ≠ a := Ne.symm nra
  have KK : Keep h h12 [a] := by
    have z1 : Keep h h3 [a] := (keep_ext E2).wr W3 (Or.inl (List.mem_cons_self ..))
    have z2 : Keep h h5 [a] := (z1.ext E4).wr W5 (Or.inl (List.mem_cons_self ..))
    have hr2 : h.size ≤ ra := Nat.le_of_eq era.symm
    have hv2 : h.size ≤ va := Nat.le_trans z1.1 (Nat.le_of_eq eva.symm)
    have z3 := z2.trans K6 (allS (Or.inr hr2) (allS (Or.inr hv2) all0))
    have z4 := z3.trans K8 (allS (Or.inr hr2) all0)
    exact (z4.trans K11 all0).wr W12 (Or.inl (List.mem_cons_self ..))
  exact ⟨none, T12, _, h12, _, _, N12, by decide, by decide, fun _ => rfl, ⟨rfl, KK, ra, (G5.keep K11 nin0).other W12 (Or.inr s13), (C4.keep K11 nin0).other W12 nra'⟩, g1.trans (g2.trans (g3.trans (g4.trans (g5.trans (g6.trans (g7.trans (g8.trans (g9.trans (g10.trans (g11.trans (g12.trans (g13.trans (g14.trans (g15.trans (g16.trans (g17.trans (g18.trans (g19.trans (g20.trans (g21.trans g22)))))))))))))))))))), finV K N12 hret (by decide +kernel)⟩
theorem n_rem {z : Int32} {k : Nat} (hz : 0 ≤ z.toInt) (hk : 0 < k) (hk2 : k < 2147483648) : ∃ n : Nat, n < k ∧ z % Int32.ofNat k = Int32.ofNat n := by
  refine ⟨z.toInt.toNat % k, Nat.mod_lt _ hk, ?_⟩
  have hlt : z.toInt.toNat % k < k := Nat.mod_lt _ hk
  apply Int32.toInt_inj.mp
  rw [Int32.toInt_mod, n_ti hk2, n_ti (by omega), Int.tmod_eq_emod_of_nonneg hz, Int.natCast_emod, Int.toNat_of_nonneg hz]
theorem mask_nn (x : Int32) : 0 ≤ (x &&& (2147483647 : Int32)).toInt := (c_andS x 2147483647).2.2 (by decide)
def sumV (n t : Nat) (d0 d1 d2 d3 d4 : Int32) : Nat :=
  (if 1 ≤ t ∧ 1 < n ∧ ¬ d1 = d0 then 1 else 0) + (if 2 ≤ t ∧ 2 < n ∧ ¬ d2 = d1 then 1 else 0) + (if 3 ≤ t ∧ 3 < n ∧ ¬ d3 = d2 then 1 else 0) + (if 4 ≤ t ∧ 4 < n ∧ ¬ d4 = d3 then 1 else 0) + (if t = n ∧ 0 < n then 1 else 0)
def dF (d0 d1 d2 d3 d4 : Int32) (k : Nat) : Int32 := [d0, d1, d2, d3, d4].getD k 0
theorem fill_eq {n : Nat} (hn : n ≤ 5) (d0 d1 d2 d3 d4 : Int32) : (((((List.replicate n (defaultValue .int)).set 0 (.int d0)).set 1 (.int d1)).set 2 (.int d2)).set 3 (.int d3)).set 4 (.int d4) = dl (dF d0 d1 d2 d3 d4) n := by
  have : n = 0 ∨ n = 1 ∨ n = 2 ∨ n = 3 ∨ n = 4 ∨ n = 5 := by omega
  rcases this with rfl | rfl | rfl | rfl | rfl | rfl <;> rfl
def bF (b1 b2 b3 b4 : Bool) (k : Nat) : Bool := [true, b1, b2, b3, b4].getD k false
theorem sts_bF {n : Nat} (hn : n ≤ 5) (d0 d1 d2 d3 d4 : Int32) : sts (isS (dF d0 d1 d2 d3 d4)) n = sts (bF (decide (¬ d1 = d0)) (decide (¬ d2 = d1)) (decide (¬ d3 = d2)) (decide (¬ d4 = d3))) n := by
  refine List.filter_congr fun k hk => ?_
  have hk5 : k < 5 := Nat.lt_of_lt_of_le (List.mem_range.mp hk) hn
  have : k = 0 ∨ k = 1 ∨ k = 2 ∨ k = 3 ∨ k = 4 := by omega
  rcases this with rfl | rfl | rfl | rfl | rfl <;> rfl
def sumB (n t : Nat) (b1 b2 b3 b4 : Bool) : Nat :=
  (if 1 ≤ t ∧ 1 < n ∧ b1 = true then 1 else 0) + (if 2 ≤ t ∧ 2 < n ∧ b2 = true then 1 else 0) + (if 3 ≤ t ∧ 3 < n ∧ b3 = true then 1 else 0) + (if 4 ≤ t ∧ 4 < n ∧ b4 = true then 1 else 0) + (if t = n ∧ 0 < n then 1 else 0)
theorem sum_eq (n t : Nat) (d0 d1 d2 d3 d4 : Int32) : sumV n t d0 d1 d2 d3 d4 = sumB n t (decide (¬ d1 = d0)) (decide (¬ d2 = d1)) (decide (¬ d3 = d2)) (decide (¬ d4 = d3)) := by simp only [sumV, sumB, decide_eq_true_eq]
theorem all_small : ∀ n : Fin 6, ∀ b1 b2 b3 b4 : Bool, ∀ t : Fin 6, t.1 ≤ n.1 → ∀ r : Fin 8,
    ((sts (bF b1 b2 b3 b4) n.1 ++ [n.1])[r.1]? = some t.1 → sumB n.1 t.1 b1 b2 b3 b4 = r.1) ∧
    (((sts (bF b1 b2 b3 b4) n.1 ++ [n.1]).take r.1).all (fun k => decide (k < t.1)) = true → ((sts (bF b1 b2 b3 b4) n.1 ++ [n.1]).drop r.1).all (fun k => decide (t.1 < k)) = true → r.1 ≤ (sts (bF b1 b2 b3 b4) n.1 ++ [n.1]).length → sumB n.1 t.1 b1 b2 b3 b4 + 1 = r.1) := by decide +kernel
theorem all_sorted : ∀ n : Fin 6, ∀ b1 b2 b3 b4 : Bool, (sts (bF b1 b2 b3 b4) n.1 ++ [n.1]).Pairwise (· < ·) ∧ ∀ k ∈ (sts (bF b1 b2 b3 b4) n.1 ++ [n.1]), k < 6 := by decide +kernel
theorem ks_srt {n : Nat} (hn : n ≤ 5) (d0 d1 d2 d3 d4 : Int32) : ∀ (i j : Nat) (v w : Int64), i < j → ((fin_ks (dF d0 d1 d2 d3 d4) n).map kl)[i]? = some v → ((fin_ks (dF d0 d1 d2 d3 d4) n).map kl)[j]? = some w → v < w := by
  intro i j v w hij hv hw
  obtain ⟨h1, h2⟩ := all_sorted ⟨n, by omega⟩ (decide (¬ d1 = d0)) (decide (¬ d2 = d1)) (decide (¬ d3 = d2)) (decide (¬ d4 = d3))
  rw [fin_ks, sts_bF hn] at hv hw
  simp only [List.getElem?_map, Option.map_eq_some_iff] at hv hw
  obtain ⟨v', hv, rfl⟩ := hv
  obtain ⟨w', hw, rfl⟩ := hw
  have a1 := h2 _ (List.mem_of_getElem? hv)
  have a2 := h2 _ (List.mem_of_getElem? hw)
  rw [kl_lt (by omega) (by omega)]
  obtain ⟨q1, rfl⟩ := List.getElem?_eq_some_iff.mp hv
  obtain ⟨q2, rfl⟩ := List.getElem?_eq_some_iff.mp hw
  exact List.pairwise_iff_getElem.mp h1 i j q1 q2 hij
theorem fin_law {n t : Nat} (hn : n ≤ 5) (ht : t ≤ n) (d0 d1 d2 d3 d4 : Int32) {v : Option Value} (H : raQ ((fin_ks (dF d0 d1 d2 d3 d4) n).map kl) (kl t) v) : v = some (.int (Int32.ofNat (sumV n t d0 d1 d2 d3 d4))) := by
  have hA := all_small ⟨n, by omega⟩ (decide (¬ d1 = d0)) (decide (¬ d2 = d1)) (decide (¬ d3 = d2)) (decide (¬ d4 = d3)) ⟨t, by omega⟩ ht
  have hlen : (sts (isS (dF d0 d1 d2 d3 d4)) n).length ≤ n := sts_len _ _
  obtain ⟨h1, h2⟩ := all_sorted ⟨n, by omega⟩ (decide (¬ d1 = d0)) (decide (¬ d2 = d1)) (decide (¬ d3 = d2)) (decide (¬ d4 = d3))
  rw [sum_eq]
  obtain ⟨r, ⟨rfl, q⟩ | ⟨rfl, q1, q2, q3⟩⟩ := H
  · have hr : r < 8 := by have := (List.getElem?_eq_some_iff.mp q).1; simp [fin_ks] at this; omega
    rw [fin_ks, sts_bF hn] at q
    simp only [List.getElem?_map, Option.map_eq_some_iff] at q
    obtain ⟨u, hu, e⟩ := q
    have a1 := h2 _ (List.mem_of_getElem? hu)
    rw [kl_eq (by omega) (by omega)] at e
    subst e
    rw [(hA ⟨r, hr⟩).1 hu]
  · have hr : r < 8 := by simp [fin_ks] at q1; omega
    rw [fin_ks, sts_bF hn] at q1 q2 q3
    have e := (hA ⟨r, hr⟩).2 (List.all_eq_true.mpr fun k hk => by
      obtain ⟨i, hi⟩ := List.mem_iff_getElem?.mp hk
      rw [List.getElem?_take] at hi
      split at hi
      · rename_i hir
        have := q2 i (kl k) hir (by simp only [List.getElem?_map, hi]; rfl)
        have a1 := h2 _ (List.mem_of_getElem? hi)
        rw [kl_lt (by omega) (by omega)] at this
        exact decide_eq_true this
      · cases hi) (List.all_eq_true.mpr fun k hk => by
      obtain ⟨i, hi⟩ := List.mem_iff_getElem?.mp hk
      rw [List.getElem?_drop] at hi
      have := q3 (r + i) (kl k) (by omega) (by simp only [List.getElem?_map, hi]; rfl)
      have a1 := h2 _ (List.mem_of_getElem? hi)
      rw [kl_lt (by omega) (by omega)] at this
      exact decide_eq_true this) (by simpa using q1)
    have e' : sumB n t (decide (¬ d1 = d0)) (decide (¬ d2 = d1)) (decide (¬ d3 = d2)) (decide (¬ d4 = d3)) + 1 = r := e
    rw [← e', ← n_one]
    congr 2
    rw [Int32.neg_neg]
    generalize Int32.ofNat _ = z
    rw [Int32.add_assoc, Int32.sub_eq_add_neg, Int32.add_assoc, show (1 : Int32) + 1 + -2 = 0 from rfl, Int32.add_zero]
theorem pd_pk : parseMethodDescriptor "(IIII)I" = some ⟨[.int, .int, .int, .int], some .int⟩ := by decide +kernel
set_option maxHeartbeats 4000000 in
theorem con_law (hw : ∀ d ∈ tables_1, d.before a0 Z = true) (p0 p1 p2 p3 p4 : Int32) (ws : List Jvm.Cond) : Con l Z n0 x code maxLocals ret ws room_1 #[.int p0, .int p1, .int p2, .int p3, .int p4] h (fun v _ => v = some (.int 1)) := by
  refine Con.of pnL (L0 := #[.val (.int p0), .val (.int p1), .val (.int p2), .val (.int p3), .val (.int p4), .unset, .unset, .unset, .unset, .unset, .unset, .unset, .unset, .unset, .unset, .unset, .unset]) (fun m => by first | (simp [entryFrame, mkF, argsToLocals, Value.category, maxLocals]; done) | rfl) ?_
  intro p e s m below meth c T K hret hnm N
  have K : Cx Z "com/example/overbrim/overbrim/DemandRunAtPinLaw" code maxLocals p m c := K
  obtain ⟨n, hn, en⟩ : ∃ n : Nat, n < 6 ∧ (p0 &&& (2147483647 : Int32)) % (6 : Int32) = Int32.ofNat n := n_rem (mask_nn p0) (by decide) (by decide)
  have g1 : Ld p e below T (mkF m 0 #[.val (.int p0), .val (.int p1), .val (.int p2), .val (.int p3), .val (.int p4), .unset, .unset, .unset, .unset, .unset, .unset, .unset, .unset, .unset, .unset, .unset, .unset] []) T (mkF m 27 #[.val (.int p0), .val (.int p1), .val (.int p2), .val (.int p3), .val (.int p4), .val (.int ((p0 &&& (2147483647 : Int32)) % (6 : Int32))), .val (.int (p2 &&& (2147483647 : Int32))), .val (.int (p3 &&& (2147483647 : Int32))), .unset, .unset, .unset, .unset, .unset, .unset, .unset, .unset, .unset] [(.int (p3 &&& (2147483647 : Int32))), (.int (p2 &&& (2147483647 : Int32))), (.int (0 : Int32)), (.int p1)]) := goRun K N a0 [(0, .iload_n 0, 1), (1, .ldc 7, 2), (3, .iand, 1), (4, .bipush 6, 2), (6, .irem, 1), (7, .istore 5, 2), (9, .iload_n 2, 1), (10, .ldc 7, 2), (12, .iand, 1), (13, .istore 6, 2), (15, .iload_n 3, 1), (16, .ldc 7, 2), (18, .iand, 1), (19, .istore 7, 2), (21, .iload_n 1, 1), (22, .iconst 0, 1), (23, .iload 6, 2), (25, .iload 7, 2)] [.int (2147483647 : Int32), .int (2147483647 : Int32), .int (2147483647 : Int32)] (P := ((Jvm.Cond.constant "com/example/overbrim/overbrim/DemandRunAtPinLaw" 7 (2147483647 : Int32)).before a0 Z = true) ∧ ((6 : Int32) ≠ 0) ∧ ((Jvm.Cond.constant "com/example/overbrim/overbrim/DemandRunAtPinLaw" 7 (2147483647 : Int32)).before a0 Z = true) ∧ ((Jvm.Cond.constant "com/example/overbrim/overbrim/DemandRunAtPinLaw" 7 (2147483647 : Int32)).before a0 Z = true) ∧ True) (by decide +kernel) rfl ⟨(tw hw 0 rfl), (by decide), (tw hw 0 rfl), (tw hw 0 rfl), trivial⟩
  rw [en] at g1
  generalize p2 &&& (2147483647 : Int32) = xx at g1
  generalize p3 &&& (2147483647 : Int32) = yy at g1
  obtain ⟨v, T1, _, N1, ⟨⟨d0, rfl⟩, rfl⟩, g2⟩ := goS K N (tw hw 1 rfl) (tw hw 2 rfl) (tw hw 3 rfl) (tw hw 4 rfl) (con_pick p1 (0 : Int32) xx yy) (W := 0) (rest := []) (by decide) (by decide) (by decide) (by decide) (by decide) (L := #[.val (.int p0), .val (.int p1), .val (.int p2), .val (.int p3), .val (.int p4), .val (.int (Int32.ofNat n)), .val (.int xx), .val (.int yy), .unset, .unset, .unset, .unset, .unset, .unset, .unset, .unset, .unset]) rfl pd_pk rfl (Nat.le_of_eq rfl) (pc := 27) (by decide +kernel)
  have g3 : Ld p e below T1 (mkF m 30 #[.val (.int p0), .val (.int p1), .val (.int p2), .val (.int p3), .val (.int p4), .val (.int (Int32.ofNat n)), .val (.int xx), .val (.int yy), .unset, .unset, .unset, .unset, .unset, .unset, .unset, .unset, .unset] [(.int d0)]) T1 (mkF m 38 #[.val (.int p0), .val (.int p1), .val (.int p2), .val (.int p3), .val (.int p4), .val (.int (Int32.ofNat n)), .val (.int xx), .val (.int yy), .val (.int d0), .unset, .unset, .unset, .unset, .unset, .unset, .unset, .unset] [(.int yy), (.int xx), (.int (1 : Int32)), (.int p1)]) := goRun K N1 #[] [(30, .istore 8, 2), (32, .iload_n 1, 1), (33, .iconst 1, 1), (34, .iload 6, 2), (36, .iload 7, 2)] [] (P := True) (by decide +kernel) rfl trivial
  obtain ⟨v, T2, _, N2, ⟨⟨d1, rfl⟩, rfl⟩, g4⟩ := goS K N1 (tw hw 1 rfl) (tw hw 2 rfl) (tw hw 3 rfl) (tw hw 4 rfl) (con_pick p1 (1 : Int32) xx yy) (W := 0) (rest := []) (by decide) (by decide) (by decide) (by decide) (by decide) (L := #[.val (.int p0), .val (.int p1), .val (.int p2), .val (.int p3), .val (.int p4), .val (.int (Int32.ofNat n)), .val (.int xx), .val (.int yy), .val (.int d0), .unset, .unset, .unset, .unset, .unset, .unset, .unset, .unset]) rfl pd_pk rfl (Nat.le_of_eq rfl) (pc := 38) (by decide +kernel)
  have g5 : Ld p e below T2 (mkF m 41 #[.val (.int p0), .val (.int p1), .val (.int p2), .val (.int p3), .val (.int p4), .val (.int (Int32.ofNat n)), .val (.int xx), .val (.int yy), .val (.int d0), .unset, .unset, .unset, .unset, .unset, .unset, .unset, .unset] [(.int d1)]) T2 (mkF m 49 #[.val (.int p0), .val (.int p1), .val (.int p2), .val (.int p3), .val (.int p4), .val (.int (Int32.ofNat n)), .val (.int xx), .val (.int yy), .val (.int d0), .val (.int d1), .unset, .unset, .unset, .unset, .unset, .unset, .unset] [(.int yy), (.int xx), (.int (2 : Int32)), (.int p1)]) := goRun K N2 #[] [(41, .istore 9, 2), (43, .iload_n 1, 1), (44, .iconst 2, 1), (45, .iload 6, 2), (47, .iload 7, 2)] [] (P := True) (by decide +kernel) rfl trivial
  obtain ⟨v, T3, _, N3, ⟨⟨d2, rfl⟩, rfl⟩, g6⟩ := goS K N2 (tw hw 1 rfl) (tw hw 2 rfl) (tw hw 3 rfl) (tw hw 4 rfl) (con_pick p1 (2 : Int32) xx yy) (W := 0) (rest := []) (by decide) (by decide) (by decide) (by decide) (by decide) (L := #[.val (.int p0), .val (.int p1), .val (.int p2), .val (.int p3), .val (.int p4), .val (.int (Int32.ofNat n)), .val (.int xx), .val (.int yy), .val (.int d0), .val (.int d1), .unset, .unset, .unset, .unset, .unset, .unset, .unset]) rfl pd_pk rfl (Nat.le_of_eq rfl) (pc := 49) (by decide +kernel)
  have g7 : Ld p e below T3 (mkF m 52 #[.val (.int p0), .val (.int p1), .val (.int p2), .val (.int p3), .val (.int p4), .val (.int (Int32.ofNat n)), .val (.int xx), .val (.int yy), .val (.int d0), .val (.int d1), .unset, .unset, .unset, .unset, .unset, .unset, .unset] [(.int d2)]) T3 (mkF m 60 #[.val (.int p0), .val (.int p1), .val (.int p2), .val (.int p3), .val (.int p4), .val (.int (Int32.ofNat n)), .val (.int xx), .val (.int yy), .val (.int d0), .val (.int d1), .val (.int d2), .unset, .unset, .unset, .unset, .unset, .unset] [(.int yy), (.int xx), (.int (3 : Int32)), (.int p1)]) := goRun K N3 #[] [(52, .istore 10, 2), (54, .iload_n 1, 1), (55, .iconst 3, 1), (56, .iload 6, 2), (58, .iload 7, 2)] [] (P := True) (by decide +kernel) rfl trivial
  obtain ⟨v, T4, _, N4, ⟨⟨d3, rfl⟩, rfl⟩, g8⟩ := goS K N3 (tw hw 1 rfl) (tw hw 2 rfl) (tw hw 3 rfl) (tw hw 4 rfl) (con_pick p1 (3 : Int32) xx yy) (W := 0) (rest := []) (by decide) (by decide) (by decide) (by decide) (by decide) (L := #[.val (.int p0), .val (.int p1), .val (.int p2), .val (.int p3), .val (.int p4), .val (.int (Int32.ofNat n)), .val (.int xx), .val (.int yy), .val (.int d0), .val (.int d1), .val (.int d2), .unset, .unset, .unset, .unset, .unset, .unset]) rfl pd_pk rfl (Nat.le_of_eq rfl) (pc := 60) (by decide +kernel)
  have g9 : Ld p e below T4 (mkF m 63 #[.val (.int p0), .val (.int p1), .val (.int p2), .val (.int p3), .val (.int p4), .val (.int (Int32.ofNat n)), .val (.int xx), .val (.int yy), .val (.int d0), .val (.int d1), .val (.int d2), .unset, .unset, .unset, .unset, .unset, .unset] [(.int d3)]) T4 (mkF m 71 #[.val (.int p0), .val (.int p1), .val (.int p2), .val (.int p3), .val (.int p4), .val (.int (Int32.ofNat n)), .val (.int xx), .val (.int yy), .val (.int d0), .val (.int d1), .val (.int d2), .val (.int d3), .unset, .unset, .unset, .unset, .unset] [(.int yy), (.int xx), (.int (4 : Int32)), (.int p1)]) := goRun K N4 #[] [(63, .istore 11, 2), (65, .iload_n 1, 1), (66, .iconst 4, 1), (67, .iload 6, 2), (69, .iload 7, 2)] [] (P := True) (by decide +kernel) rfl trivial
  obtain ⟨v, T5, _, N5, ⟨⟨d4, rfl⟩, rfl⟩, g10⟩ := goS K N4 (tw hw 1 rfl) (tw hw 2 rfl) (tw hw 3 rfl) (tw hw 4 rfl) (con_pick p1 (4 : Int32) xx yy) (W := 0) (rest := []) (by decide) (by decide) (by decide) (by decide) (by decide) (L := #[.val (.int p0), .val (.int p1), .val (.int p2), .val (.int p3), .val (.int p4), .val (.int (Int32.ofNat n)), .val (.int xx), .val (.int yy), .val (.int d0), .val (.int d1), .val (.int d2), .val (.int d3), .unset, .unset, .unset, .unset, .unset]) rfl pd_pk rfl (Nat.le_of_eq rfl) (pc := 71) (by decide +kernel)
  have g11 : Ld p e below T5 (mkF m 74 #[.val (.int p0), .val (.int p1), .val (.int p2), .val (.int p3), .val (.int p4), .val (.int (Int32.ofNat n)), .val (.int xx), .val (.int yy), .val (.int d0), .val (.int d1), .val (.int d2), .val (.int d3), .unset, .unset, .unset, .unset, .unset] [(.int d4)]) T5 (mkF m 78 #[.val (.int p0), .val (.int p1), .val (.int p2), .val (.int p3), .val (.int p4), .val (.int (Int32.ofNat n)), .val (.int xx), .val (.int yy), .val (.int d0), .val (.int d1), .val (.int d2), .val (.int d3), .val (.int d4), .unset, .unset, .unset, .unset] [(.int (Int32.ofNat n))]) := goRun K N5 #[] [(74, .istore 12, 2), (76, .iload 5, 2)] [] (P := True) (by decide +kernel) rfl trivial
  have hn1 : (Int32.ofNat n).toInt = ((n : Nat) : Int) := n_ti (by omega)
  obtain ⟨T6, h6, ar, cA, ear, N6, E6, A6, g12⟩ := goNewP K N5 (aty := .int) (tw hw 5 rfl) (n := Int32.ofNat n) (not_neg_of hn1) (cap := 5) (by rw [clamp_of hn1]; omega) (by decide) (by decide) (by decide) (pc := 78) (L := #[.val (.int p0), .val (.int p1), .val (.int p2), .val (.int p3), .val (.int p4), .val (.int (Int32.ofNat n)), .val (.int xx), .val (.int yy), .val (.int d0), .val (.int d1), .val (.int d2), .val (.int d3), .val (.int d4), .unset, .unset, .unset, .unset]) (S := []) (by decide +kernel)
  have har : n0 ≤ ar := ear ▸ N5.size
  have F6 := Av.new A6 (not_neg_of hn1) hn1
  have g13 : Ld p e below T6 (mkF m 80 #[.val (.int p0), .val (.int p1), .val (.int p2), .val (.int p3), .val (.int p4), .val (.int (Int32.ofNat n)), .val (.int xx), .val (.int yy), .val (.int d0), .val (.int d1), .val (.int d2), .val (.int d3), .val (.int d4), .unset, .unset, .unset, .unset] [(.ref ar)]) T6 (mkF m 82 #[.val (.int p0), .val (.int p1), .val (.int p2), .val (.int p3), .val (.int p4), .val (.int (Int32.ofNat n)), .val (.int xx), .val (.int yy), .val (.int d0), .val (.int d1), .val (.int d2), .val (.int d3), .val (.int d4), .val (.ref ar), .unset, .unset, .unset] []) := goRun K N6 #[] [(80, .astore 13, 2)] [] (P := True) (by decide +kernel) rfl trivial
  obtain ⟨T7, h7, N7, F7, g14⟩ : ∃ T' h', Nw Z n0 h' p l e room_1 s m #[.int p0, .int p1, .int p2, .int p3, .int p4] below meth c T' (0 + (0 + 0 + 0 + 0 + 0) + 1) (0 + (0 + 0 + 0 + 0 + 0) + 5) ∧ Av Z h' ar .int ((List.replicate n (defaultValue .int)).set 0 (.int d0)) ∧ Ld p e below T6 (mkF m 82 #[.val (.int p0), .val (.int p1), .val (.int p2), .val (.int p3), .val (.int p4), .val (.int (Int32.ofNat n)), .val (.int xx), .val (.int yy), .val (.int d0), .val (.int d1), .val (.int d2), .val (.int d3), .val (.int d4), .val (.ref ar), .unset, .unset, .unset] []) T' (mkF m 93 #[.val (.int p0), .val (.int p1), .val (.int p2), .val (.int p3), .val (.int p4), .val (.int (Int32.ofNat n)), .val (.int xx), .val (.int yy), .val (.int d0), .val (.int d1), .val (.int d2), .val (.int d3), .val (.int d4), .val (.ref ar), .unset, .unset, .unset] []) := by
    by_cases q : 0 < n
    · have z1 : Ld p e below T6 (mkF m 82 #[.val (.int p0), .val (.int p1), .val (.int p2), .val (.int p3), .val (.int p4), .val (.int (Int32.ofNat n)), .val (.int xx), .val (.int yy), .val (.int d0), .val (.int d1), .val (.int d2), .val (.int d3), .val (.int d4), .val (.ref ar), .unset, .unset, .unset] []) T6 (mkF m 92 #[.val (.int p0), .val (.int p1), .val (.int p2), .val (.int p3), .val (.int p4), .val (.int (Int32.ofNat n)), .val (.int xx), .val (.int yy), .val (.int d0), .val (.int d1), .val (.int d2), .val (.int d3), .val (.int d4), .val (.ref ar), .unset, .unset, .unset] [(.int d0), (.int (0 : Int32)), (.ref ar)]) := goRun K N6 #[] [(82, .iload 5, 2), (84, .ifCond .le 9, 3), (87, .aload 13, 2), (89, .iconst 0, 1), (90, .iload 8, 2)] [.null] (P := ((0 : Int32) < (Int32.ofNat n)) ∧ True) (by decide +kernel) rfl ⟨((n_lt (i := 0) (j := n) (by omega) (by omega)).mpr q), trivial⟩
      obtain ⟨T', h', N', K', F', z2⟩ := avStI K N6 F6 (j := (0 : Int32)) (i := 0) (x := d0) rfl (by simpa using q) har (pc := 92) (L := #[.val (.int p0), .val (.int p1), .val (.int p2), .val (.int p3), .val (.int p4), .val (.int (Int32.ofNat n)), .val (.int xx), .val (.int yy), .val (.int d0), .val (.int d1), .val (.int d2), .val (.int d3), .val (.int d4), .val (.ref ar), .unset, .unset, .unset]) (S := []) (by decide +kernel)
      exact ⟨T', h', N', F', z1.trans z2⟩
    · have z1 : Ld p e below T6 (mkF m 82 #[.val (.int p0), .val (.int p1), .val (.int p2), .val (.int p3), .val (.int p4), .val (.int (Int32.ofNat n)), .val (.int xx), .val (.int yy), .val (.int d0), .val (.int d1), .val (.int d2), .val (.int d3), .val (.int d4), .val (.ref ar), .unset, .unset, .unset] []) T6 (mkF m 93 #[.val (.int p0), .val (.int p1), .val (.int p2), .val (.int p3), .val (.int p4), .val (.int (Int32.ofNat n)), .val (.int xx), .val (.int yy), .val (.int d0), .val (.int d1), .val (.int d2), .val (.int d3), .val (.int d4), .val (.ref ar), .unset, .unset, .unset] []) := goRun K N6 #[] [(82, .iload 5, 2), (84, .ifCond .le 9, 3)] [.ref 0] (P := (¬ (0 : Int32) < (Int32.ofNat n)) ∧ True) (by decide +kernel) rfl ⟨(fun z => q ((n_lt (i := 0) (j := n) (by omega) (by omega)).mp z)), trivial⟩
      exact ⟨T6, h6, N6, by rw [List.set_eq_of_length_le (by simp; omega)]; exact F6, z1⟩
  obtain ⟨T8, h8, N8, F8, g15⟩ : ∃ T' h', Nw Z n0 h' p l e room_1 s m #[.int p0, .int p1, .int p2, .int p3, .int p4] below meth c T' (0 + (0 + 0 + 0 + 0 + 0) + 1) (0 + (0 + 0 + 0 + 0 + 0) + 5) ∧ Av Z h' ar .int (((List.replicate n (defaultValue .int)).set 0 (.int d0)).set 1 (.int d1)) ∧ Ld p e below T7 (mkF m 93 #[.val (.int p0), .val (.int p1), .val (.int p2), .val (.int p3), .val (.int p4), .val (.int (Int32.ofNat n)), .val (.int xx), .val (.int yy), .val (.int d0), .val (.int d1), .val (.int d2), .val (.int d3), .val (.int d4), .val (.ref ar), .unset, .unset, .unset] []) T' (mkF m 105 #[.val (.int p0), .val (.int p1), .val (.int p2), .val (.int p3), .val (.int p4), .val (.int (Int32.ofNat n)), .val (.int xx), .val (.int yy), .val (.int d0), .val (.int d1), .val (.int d2), .val (.int d3), .val (.int d4), .val (.ref ar), .unset, .unset, .unset] []) := by
    by_cases q : 1 < n
    · have z1 : Ld p e below T7 (mkF m 93 #[.val (.int p0), .val (.int p1), .val (.int p2), .val (.int p3), .val (.int p4), .val (.int (Int32.ofNat n)), .val (.int xx), .val (.int yy), .val (.int d0), .val (.int d1), .val (.int d2), .val (.int d3), .val (.int d4), .val (.ref ar), .unset, .unset, .unset] []) T7 (mkF m 104 #[.val (.int p0), .val (.int p1), .val (.int p2), .val (.int p3), .val (.int p4), .val (.int (Int32.ofNat n)), .val (.int xx), .val (.int yy), .val (.int d0), .val (.int d1), .val (.int d2), .val (.int d3), .val (.int d4), .val (.ref ar), .unset, .unset, .unset] [(.int d1), (.int (1 : Int32)), (.ref ar)]) := goRun K N7 #[] [(93, .iload 5, 2), (95, .iconst 1, 1), (96, .if_icmp .le 9, 3), (99, .aload 13, 2), (101, .iconst 1, 1), (102, .iload 9, 2)] [.null] (P := ((1 : Int32) < (Int32.ofNat n)) ∧ True) (by decide +kernel) rfl ⟨((n_lt (i := 1) (j := n) (by omega) (by omega)).mpr q), trivial⟩
      obtain ⟨T', h', N', K', F', z2⟩ := avStI K N7 F7 (j := (1 : Int32)) (i := 1) (x := d1) rfl (by simpa using q) har (pc := 104) (L := #[.val (.int p0), .val (.int p1), .val (.int p2), .val (.int p3), .val (.int p4), .val (.int (Int32.ofNat n)), .val (.int xx), .val (.int yy), .val (.int d0), .val (.int d1), .val (.int d2), .val (.int d3), .val (.int d4), .val (.ref ar), .unset, .unset, .unset]) (S := []) (by decide +kernel)
      exact ⟨T', h', N', F', z1.trans z2⟩
    · have z1 : Ld p e below T7 (mkF m 93 #[.val (.int p0), .val (.int p1), .val (.int p2), .val (.int p3), .val (.int p4), .val (.int (Int32.ofNat n)), .val (.int xx), .val (.int yy), .val (.int d0), .val (.int d1), .val (.int d2), .val (.int d3), .val (.int d4), .val (.ref ar), .unset, .unset, .unset] []) T7 (mkF m 105 #[.val (.int p0), .val (.int p1), .val (.int p2), .val (.int p3), .val (.int p4), .val (.int (Int32.ofNat n)), .val (.int xx), .val (.int yy), .val (.int d0), .val (.int d1), .val (.int d2), .val (.int d3), .val (.int d4), .val (.ref ar), .unset, .unset, .unset] []) := goRun K N7 #[] [(93, .iload 5, 2), (95, .iconst 1, 1), (96, .if_icmp .le 9, 3)] [.ref 0] (P := (¬ (1 : Int32) < (Int32.ofNat n)) ∧ True) (by decide +kernel) rfl ⟨(fun z => q ((n_lt (i := 1) (j := n) (by omega) (by omega)).mp z)), trivial⟩
      exact ⟨T7, h7, N7, by rw [List.set_eq_of_length_le (by simp; omega)]; exact F7, z1⟩
  obtain ⟨T9, h9, N9, F9, g16⟩ : ∃ T' h', Nw Z n0 h' p l e room_1 s m #[.int p0, .int p1, .int p2, .int p3, .int p4] below meth c T' (0 + (0 + 0 + 0 + 0 + 0) + 1) (0 + (0 + 0 + 0 + 0 + 0) + 5) ∧ Av Z h' ar .int ((((List.replicate n (defaultValue .int)).set 0 (.int d0)).set 1 (.int d1)).set 2 (.int d2)) ∧ Ld p e below T8 (mkF m 105 #[.val (.int p0), .val (.int p1), .val (.int p2), .val (.int p3), .val (.int p4), .val (.int (Int32.ofNat n)), .val (.int xx), .val (.int yy), .val (.int d0), .val (.int d1), .val (.int d2), .val (.int d3), .val (.int d4), .val (.ref ar), .unset, .unset, .unset] []) T' (mkF m 117 #[.val (.int p0), .val (.int p1), .val (.int p2), .val (.int p3), .val (.int p4), .val (.int (Int32.ofNat n)), .val (.int xx), .val (.int yy), .val (.int d0), .val (.int d1), .val (.int d2), .val (.int d3), .val (.int d4), .val (.ref ar), .unset, .unset, .unset] []) := by
    by_cases q : 2 < n
    · have z1 : Ld p e below T8 (mkF m 105 #[.val (.int p0), .val (.int p1), .val (.int p2), .val (.int p3), .val (.int p4), .val (.int (Int32.ofNat n)), .val (.int xx), .val (.int yy), .val (.int d0), .val (.int d1), .val (.int d2), .val (.int d3), .val (.int d4), .val (.ref ar), .unset, .unset, .unset] []) T8 (mkF m 116 #[.val (.int p0), .val (.int p1), .val (.int p2), .val (.int p3), .val (.int p4), .val (.int (Int32.ofNat n)), .val (.int xx), .val (.int yy), .val (.int d0), .val (.int d1), .val (.int d2), .val (.int d3), .val (.int d4), .val (.ref ar), .unset, .unset, .unset] [(.int d2), (.int (2 : Int32)), (.ref ar)]) := goRun K N8 #[] [(105, .iload 5, 2), (107, .iconst 2, 1), (108, .if_icmp .le 9, 3), (111, .aload 13, 2), (113, .iconst 2, 1), (114, .iload 10, 2)] [.null] (P := ((2 : Int32) < (Int32.ofNat n)) ∧ True) (by decide +kernel) rfl ⟨((n_lt (i := 2) (j := n) (by omega) (by omega)).mpr q), trivial⟩
      obtain ⟨T', h', N', K', F', z2⟩ := avStI K N8 F8 (j := (2 : Int32)) (i := 2) (x := d2) rfl (by simpa using q) har (pc := 116) (L := #[.val (.int p0), .val (.int p1), .val (.int p2), .val (.int p3), .val (.int p4), .val (.int (Int32.ofNat n)), .val (.int xx), .val (.int yy), .val (.int d0), .val (.int d1), .val (.int d2), .val (.int d3), .val (.int d4), .val (.ref ar), .unset, .unset, .unset]) (S := []) (by decide +kernel)
      exact ⟨T', h', N', F', z1.trans z2⟩
    · have z1 : Ld p e below T8 (mkF m 105 #[.val (.int p0), .val (.int p1), .val (.int p2), .val (.int p3), .val (.int p4), .val (.int (Int32.ofNat n)), .val (.int xx), .val (.int yy), .val (.int d0), .val (.int d1), .val (.int d2), .val (.int d3), .val (.int d4), .val (.ref ar), .unset, .unset, .unset] []) T8 (mkF m 117 #[.val (.int p0), .val (.int p1), .val (.int p2), .val (.int p3), .val (.int p4), .val (.int (Int32.ofNat n)), .val (.int xx), .val (.int yy), .val (.int d0), .val (.int d1), .val (.int d2), .val (.int d3), .val (.int d4), .val (.ref ar), .unset, .unset, .unset] []) := goRun K N8 #[] [(105, .iload 5, 2), (107, .iconst 2, 1), (108, .if_icmp .le 9, 3)] [.ref 0] (P := (¬ (2 : Int32) < (Int32.ofNat n)) ∧ True) (by decide +kernel) rfl ⟨(fun z => q ((n_lt (i := 2) (j := n) (by omega) (by omega)).mp z)), trivial⟩
      exact ⟨T8, h8, N8, by rw [List.set_eq_of_length_le (by simp; omega)]; exact F8, z1⟩
  obtain ⟨T10, h10, N10, F10, g17⟩ : ∃ T' h', Nw Z n0 h' p l e room_1 s m #[.int p0, .int p1, .int p2, .int p3, .int p4] below meth c T' (0 + (0 + 0 + 0 + 0 + 0) + 1) (0 + (0 + 0 + 0 + 0 + 0) + 5) ∧ Av Z h' ar .int (((((List.replicate n (defaultValue .int)).set 0 (.int d0)).set 1 (.int d1)).set 2 (.int d2)).set 3 (.int d3)) ∧ Ld p e below T9 (mkF m 117 #[.val (.int p0), .val (.int p1), .val (.int p2), .val (.int p3), .val (.int p4), .val (.int (Int32.ofNat n)), .val (.int xx), .val (.int yy), .val (.int d0), .val (.int d1), .val (.int d2), .val (.int d3), .val (.int d4), .val (.ref ar), .unset, .unset, .unset] []) T' (mkF m 129 #[.val (.int p0), .val (.int p1), .val (.int p2), .val (.int p3), .val (.int p4), .val (.int (Int32.ofNat n)), .val (.int xx), .val (.int yy), .val (.int d0), .val (.int d1), .val (.int d2), .val (.int d3), .val (.int d4), .val (.ref ar), .unset, .unset, .unset] []) := by
    by_cases q : 3 < n
    · have z1 : Ld p e below T9 (mkF m 117 #[.val (.int p0), .val (.int p1), .val (.int p2), .val (.int p3), .val (.int p4), .val (.int (Int32.ofNat n)), .val (.int xx), .val (.int yy), .val (.int d0), .val (.int d1), .val (.int d2), .val (.int d3), .val (.int d4), .val (.ref ar), .unset, .unset, .unset] []) T9 (mkF m 128 #[.val (.int p0), .val (.int p1), .val (.int p2), .val (.int p3), .val (.int p4), .val (.int (Int32.ofNat n)), .val (.int xx), .val (.int yy), .val (.int d0), .val (.int d1), .val (.int d2), .val (.int d3), .val (.int d4), .val (.ref ar), .unset, .unset, .unset] [(.int d3), (.int (3 : Int32)), (.ref ar)]) := goRun K N9 #[] [(117, .iload 5, 2), (119, .iconst 3, 1), (120, .if_icmp .le 9, 3), (123, .aload 13, 2), (125, .iconst 3, 1), (126, .iload 11, 2)] [.null] (P := ((3 : Int32) < (Int32.ofNat n)) ∧ True) (by decide +kernel) rfl ⟨((n_lt (i := 3) (j := n) (by omega) (by omega)).mpr q), trivial⟩
      obtain ⟨T', h', N', K', F', z2⟩ := avStI K N9 F9 (j := (3 : Int32)) (i := 3) (x := d3) rfl (by simpa using q) har (pc := 128) (L := #[.val (.int p0), .val (.int p1), .val (.int p2), .val (.int p3), .val (.int p4), .val (.int (Int32.ofNat n)), .val (.int xx), .val (.int yy), .val (.int d0), .val (.int d1), .val (.int d2), .val (.int d3), .val (.int d4), .val (.ref ar), .unset, .unset, .unset]) (S := []) (by decide +kernel)
      exact ⟨T', h', N', F', z1.trans z2⟩
    · have z1 : Ld p e below T9 (mkF m 117 #[.val (.int p0), .val (.int p1), .val (.int p2), .val (.int p3), .val (.int p4), .val (.int (Int32.ofNat n)), .val (.int xx), .val (.int yy), .val (.int d0), .val (.int d1), .val (.int d2), .val (.int d3), .val (.int d4), .val (.ref ar), .unset, .unset, .unset] []) T9 (mkF m 129 #[.val (.int p0), .val (.int p1), .val (.int p2), .val (.int p3), .val (.int p4), .val (.int (Int32.ofNat n)), .val (.int xx), .val (.int yy), .val (.int d0), .val (.int d1), .val (.int d2), .val (.int d3), .val (.int d4), .val (.ref ar), .unset, .unset, .unset] []) := goRun K N9 #[] [(117, .iload 5, 2), (119, .iconst 3, 1), (120, .if_icmp .le 9, 3)] [.ref 0] (P := (¬ (3 : Int32) < (Int32.ofNat n)) ∧ True) (by decide +kernel) rfl ⟨(fun z => q ((n_lt (i := 3) (j := n) (by omega) (by omega)).mp z)), trivial⟩
      exact ⟨T9, h9, N9, by rw [List.set_eq_of_length_le (by simp; omega)]; exact F9, z1⟩
  obtain ⟨T11, h11, N11, F11, g18⟩ : ∃ T' h', Nw Z n0 h' p l e room_1 s m #[.int p0, .int p1, .int p2, .int p3, .int p4] below meth c T' (0 + (0 + 0 + 0 + 0 + 0) + 1) (0 + (0 + 0 + 0 + 0 + 0) + 5) ∧ Av Z h' ar .int ((((((List.replicate n (defaultValue .int)).set 0 (.int d0)).set 1 (.int d1)).set 2 (.int d2)).set 3 (.int d3)).set 4 (.int d4)) ∧ Ld p e below T10 (mkF m 129 #[.val (.int p0), .val (.int p1), .val (.int p2), .val (.int p3), .val (.int p4), .val (.int (Int32.ofNat n)), .val (.int xx), .val (.int yy), .val (.int d0), .val (.int d1), .val (.int d2), .val (.int d3), .val (.int d4), .val (.ref ar), .unset, .unset, .unset] []) T' (mkF m 141 #[.val (.int p0), .val (.int p1), .val (.int p2), .val (.int p3), .val (.int p4), .val (.int (Int32.ofNat n)), .val (.int xx), .val (.int yy), .val (.int d0), .val (.int d1), .val (.int d2), .val (.int d3), .val (.int d4), .val (.ref ar), .unset, .unset, .unset] []) := by
    by_cases q : 4 < n
    · have z1 : Ld p e below T10 (mkF m 129 #[.val (.int p0), .val (.int p1), .val (.int p2), .val (.int p3), .val (.int p4), .val (.int (Int32.ofNat n)), .val (.int xx), .val (.int yy), .val (.int d0), .val (.int d1), .val (.int d2), .val (.int d3), .val (.int d4), .val (.ref ar), .unset, .unset, .unset] []) T10 (mkF m 140 #[.val (.int p0), .val (.int p1), .val (.int p2), .val (.int p3), .val (.int p4), .val (.int (Int32.ofNat n)), .val (.int xx), .val (.int yy), .val (.int d0), .val (.int d1), .val (.int d2), .val (.int d3), .val (.int d4), .val (.ref ar), .unset, .unset, .unset] [(.int d4), (.int (4 : Int32)), (.ref ar)]) := goRun K N10 #[] [(129, .iload 5, 2), (131, .iconst 4, 1), (132, .if_icmp .le 9, 3), (135, .aload 13, 2), (137, .iconst 4, 1), (138, .iload 12, 2)] [.null] (P := ((4 : Int32) < (Int32.ofNat n)) ∧ True) (by decide +kernel) rfl ⟨((n_lt (i := 4) (j := n) (by omega) (by omega)).mpr q), trivial⟩
      obtain ⟨T', h', N', K', F', z2⟩ := avStI K N10 F10 (j := (4 : Int32)) (i := 4) (x := d4) rfl (by simpa using q) har (pc := 140) (L := #[.val (.int p0), .val (.int p1), .val (.int p2), .val (.int p3), .val (.int p4), .val (.int (Int32.ofNat n)), .val (.int xx), .val (.int yy), .val (.int d0), .val (.int d1), .val (.int d2), .val (.int d3), .val (.int d4), .val (.ref ar), .unset, .unset, .unset]) (S := []) (by decide +kernel)
      exact ⟨T', h', N', F', z1.trans z2⟩
    · have z1 : Ld p e below T10 (mkF m 129 #[.val (.int p0), .val (.int p1), .val (.int p2), .val (.int p3), .val (.int p4), .val (.int (Int32.ofNat n)), .val (.int xx), .val (.int yy), .val (.int d0), .val (.int d1), .val (.int d2), .val (.int d3), .val (.int d4), .val (.ref ar), .unset, .unset, .unset] []) T10 (mkF m 141 #[.val (.int p0), .val (.int p1), .val (.int p2), .val (.int p3), .val (.int p4), .val (.int (Int32.ofNat n)), .val (.int xx), .val (.int yy), .val (.int d0), .val (.int d1), .val (.int d2), .val (.int d3), .val (.int d4), .val (.ref ar), .unset, .unset, .unset] []) := goRun K N10 #[] [(129, .iload 5, 2), (131, .iconst 4, 1), (132, .if_icmp .le 9, 3)] [.ref 0] (P := (¬ (4 : Int32) < (Int32.ofNat n)) ∧ True) (by decide +kernel) rfl ⟨(fun z => q ((n_lt (i := 4) (j := n) (by omega) (by omega)).mp z)), trivial⟩
      exact ⟨T10, h10, N10, by rw [List.set_eq_of_length_le (by simp; omega)]; exact F10, z1⟩
  have D11 : Av Z h11 ar .int (dl (dF d0 d1 d2 d3 d4) n) := by rw [← fill_eq (by omega)]; exact F11
  obtain ⟨t, ht, et⟩ : ∃ t : Nat, t < n + 1 ∧ (p4 &&& (2147483647 : Int32)) % Int32.ofNat (n + 1) = Int32.ofNat t := n_rem (mask_nn p4) (by omega) (by omega)
  have hnz : Int32.ofNat n + (1 : Int32) ≠ 0 := by rw [n_one]; show Int32.ofNat (n + 1) ≠ Int32.ofNat 0; rw [Ne, n_eq (by omega) (by omega)]; omega
  have g19 : Ld p e below T11 (mkF m 141 #[.val (.int p0), .val (.int p1), .val (.int p2), .val (.int p3), .val (.int p4), .val (.int (Int32.ofNat n)), .val (.int xx), .val (.int yy), .val (.int d0), .val (.int d1), .val (.int d2), .val (.int d3), .val (.int d4), .val (.ref ar), .unset, .unset, .unset] []) T11 (mkF m 156 #[.val (.int p0), .val (.int p1), .val (.int p2), .val (.int p3), .val (.int p4), .val (.int (Int32.ofNat n)), .val (.int xx), .val (.int yy), .val (.int d0), .val (.int d1), .val (.int d2), .val (.int d3), .val (.int d4), .val (.ref ar), .val (.int ((p4 &&& (2147483647 : Int32)) % ((Int32.ofNat n) + (1 : Int32)))), .val (.int (0 : Int32)), .unset] []) := goRun K N11 a0 [(141, .iload 4, 2), (143, .ldc 7, 2), (145, .iand, 1), (146, .iload 5, 2), (148, .iconst 1, 1), (149, .iadd, 1), (150, .irem, 1), (151, .istore 14, 2), (153, .iconst 0, 1), (154, .istore 15, 2)] [.int (2147483647 : Int32)] (P := ((Jvm.Cond.constant "com/example/overbrim/overbrim/DemandRunAtPinLaw" 7 (2147483647 : Int32)).before a0 Z = true) ∧ (((Int32.ofNat n) + (1 : Int32)) ≠ 0) ∧ True) (by decide +kernel) rfl ⟨(tw hw 0 rfl), hnz, trivial⟩
  rw [n_one, et] at g19
  have g20 : ∀ ex : Nat, Ld p e below T11 (mkF m 156 #[.val (.int p0), .val (.int p1), .val (.int p2), .val (.int p3), .val (.int p4), .val (.int (Int32.ofNat n)), .val (.int xx), .val (.int yy), .val (.int d0), .val (.int d1), .val (.int d2), .val (.int d3), .val (.int d4), .val (.ref ar), .val (.int (Int32.ofNat t)), .val (.int (Int32.ofNat ex)), .unset] []) T11 (mkF m 178 #[.val (.int p0), .val (.int p1), .val (.int p2), .val (.int p3), .val (.int p4), .val (.int (Int32.ofNat n)), .val (.int xx), .val (.int yy), .val (.int d0), .val (.int d1), .val (.int d2), .val (.int d3), .val (.int d4), .val (.ref ar), .val (.int (Int32.ofNat t)), .val (.int (Int32.ofNat (ex + (if 1 ≤ t ∧ 1 < n ∧ ¬ d1 = d0 then 1 else 0)))), .unset] []) := by
    intro ex
    by_cases q1 : 1 ≤ t
    · by_cases q2 : 1 < n
      · by_cases q3 : d1 = d0
        · have z1 : Ld p e below T11 (mkF m 156 #[.val (.int p0), .val (.int p1), .val (.int p2), .val (.int p3), .val (.int p4), .val (.int (Int32.ofNat n)), .val (.int xx), .val (.int yy), .val (.int d0), .val (.int d1), .val (.int d2), .val (.int d3), .val (.int d4), .val (.ref ar), .val (.int (Int32.ofNat t)), .val (.int (Int32.ofNat ex)), .unset] []) T11 (mkF m 178 #[.val (.int p0), .val (.int p1), .val (.int p2), .val (.int p3), .val (.int p4), .val (.int (Int32.ofNat n)), .val (.int xx), .val (.int yy), .val (.int d0), .val (.int d1), .val (.int d2), .val (.int d3), .val (.int d4), .val (.ref ar), .val (.int (Int32.ofNat t)), .val (.int (Int32.ofNat ex)), .unset] []) := goRun K N11 #[] [(156, .iload 14, 2), (158, .iconst 1, 1), (159, .if_icmp .lt 19, 3), (162, .iconst 1, 1), (163, .iload 5, 2), (165, .if_icmp .ge 13, 3), (168, .iload 9, 2), (170, .iload 8, 2), (172, .if_icmp .eq 6, 3)] [.null, .null, .ref 0] (P := (¬ (Int32.ofNat t) < (1 : Int32)) ∧ ((1 : Int32) < (Int32.ofNat n)) ∧ (d1 = d0) ∧ True) (by decide +kernel) rfl ⟨(fun z => absurd ((n_lt (i := t) (j := 1) (by omega) (by omega)).mp z) (by omega)), ((n_lt (i := 1) (j := n) (by omega) (by omega)).mpr q2), q3, trivial⟩
          rw [if_neg (fun z => z.2.2 q3), Nat.add_zero]; exact z1
        · have z1 : Ld p e below T11 (mkF m 156 #[.val (.int p0), .val (.int p1), .val (.int p2), .val (.int p3), .val (.int p4), .val (.int (Int32.ofNat n)), .val (.int xx), .val (.int yy), .val (.int d0), .val (.int d1), .val (.int d2), .val (.int d3), .val (.int d4), .val (.ref ar), .val (.int (Int32.ofNat t)), .val (.int (Int32.ofNat ex)), .unset] []) T11 (mkF m 178 #[.val (.int p0), .val (.int p1), .val (.int p2), .val (.int p3), .val (.int p4), .val (.int (Int32.ofNat n)), .val (.int xx), .val (.int yy), .val (.int d0), .val (.int d1), .val (.int d2), .val (.int d3), .val (.int d4), .val (.ref ar), .val (.int (Int32.ofNat t)), .val (.int ((Int32.ofNat ex) + (1 : Int32))), .unset] []) := goRun K N11 #[] [(156, .iload 14, 2), (158, .iconst 1, 1), (159, .if_icmp .lt 19, 3), (162, .iconst 1, 1), (163, .iload 5, 2), (165, .if_icmp .ge 13, 3), (168, .iload 9, 2), (170, .iload 8, 2), (172, .if_icmp .eq 6, 3), (175, .iinc 15 1, 3)] [.null, .null, .null] (P := (¬ (Int32.ofNat t) < (1 : Int32)) ∧ ((1 : Int32) < (Int32.ofNat n)) ∧ (¬ d1 = d0) ∧ True) (by decide +kernel) rfl ⟨(fun z => absurd ((n_lt (i := t) (j := 1) (by omega) (by omega)).mp z) (by omega)), ((n_lt (i := 1) (j := n) (by omega) (by omega)).mpr q2), q3, trivial⟩
          rw [n_one] at z1; rw [if_pos ⟨q1, q2, q3⟩]; exact z1
      · have z1 : Ld p e below T11 (mkF m 156 #[.val (.int p0), .val (.int p1), .val (.int p2), .val (.int p3), .val (.int p4), .val (.int (Int32.ofNat n)), .val (.int xx), .val (.int yy), .val (.int d0), .val (.int d1), .val (.int d2), .val (.int d3), .val (.int d4), .val (.ref ar), .val (.int (Int32.ofNat t)), .val (.int (Int32.ofNat ex)), .unset] []) T11 (mkF m 178 #[.val (.int p0), .val (.int p1), .val (.int p2), .val (.int p3), .val (.int p4), .val (.int (Int32.ofNat n)), .val (.int xx), .val (.int yy), .val (.int d0), .val (.int d1), .val (.int d2), .val (.int d3), .val (.int d4), .val (.ref ar), .val (.int (Int32.ofNat t)), .val (.int (Int32.ofNat ex)), .unset] []) := goRun K N11 #[] [(156, .iload 14, 2), (158, .iconst 1, 1), (159, .if_icmp .lt 19, 3), (162, .iconst 1, 1), (163, .iload 5, 2), (165, .if_icmp .ge 13, 3)] [.null, .ref 0] (P := (¬ (Int32.ofNat t) < (1 : Int32)) ∧ (¬ (1 : Int32) < (Int32.ofNat n)) ∧ True) (by decide +kernel) rfl ⟨(fun z => absurd ((n_lt (i := t) (j := 1) (by omega) (by omega)).mp z) (by omega)), (fun z => q2 ((n_lt (i := 1) (j := n) (by omega) (by omega)).mp z)), trivial⟩
        rw [if_neg (fun z => q2 z.2.1), Nat.add_zero]; exact z1
    · have z1 : Ld p e below T11 (mkF m 156 #[.val (.int p0), .val (.int p1), .val (.int p2), .val (.int p3), .val (.int p4), .val (.int (Int32.ofNat n)), .val (.int xx), .val (.int yy), .val (.int d0), .val (.int d1), .val (.int d2), .val (.int d3), .val (.int d4), .val (.ref ar), .val (.int (Int32.ofNat t)), .val (.int (Int32.ofNat ex)), .unset] []) T11 (mkF m 178 #[.val (.int p0), .val (.int p1), .val (.int p2), .val (.int p3), .val (.int p4), .val (.int (Int32.ofNat n)), .val (.int xx), .val (.int yy), .val (.int d0), .val (.int d1), .val (.int d2), .val (.int d3), .val (.int d4), .val (.ref ar), .val (.int (Int32.ofNat t)), .val (.int (Int32.ofNat ex)), .unset] []) := goRun K N11 #[] [(156, .iload 14, 2), (158, .iconst 1, 1), (159, .if_icmp .lt 19, 3)] [.ref 0] (P := ((Int32.ofNat t) < (1 : Int32)) ∧ True) (by decide +kernel) rfl ⟨((n_lt (i := t) (j := 1) (by omega) (by omega)).mpr (by omega)), trivial⟩
      rw [if_neg (fun z => q1 z.1), Nat.add_zero]; exact z1
  have g21 : ∀ ex : Nat, Ld p e below T11 (mkF m 178 #[.val (.int p0), .val (.int p1), .val (.int p2), .val (.int p3), .val (.int p4), .val (.int (Int32.ofNat n)), .val (.int xx), .val (.int yy), .val (.int d0), .val (.int d1), .val (.int d2), .val (.int d3), .val (.int d4), .val (.ref ar), .val (.int (Int32.ofNat t)), .val (.int (Int32.ofNat ex)), .unset] []) T11 (mkF m 200 #[.val (.int p0), .val (.int p1), .val (.int p2), .val (.int p3), .val (.int p4), .val (.int (Int32.ofNat n)), .val (.int xx), .val (.int yy), .val (.int d0), .val (.int d1), .val (.int d2), .val (.int d3), .val (.int d4), .val (.ref ar), .val (.int (Int32.ofNat t)), .val (.int (Int32.ofNat (ex + (if 2 ≤ t ∧ 2 < n ∧ ¬ d2 = d1 then 1 else 0)))), .unset] []) := by
    intro ex
    by_cases q1 : 2 ≤ t
    · by_cases q2 : 2 < n
      · by_cases q3 : d2 = d1
        · have z1 : Ld p e below T11 (mkF m 178 #[.val (.int p0), .val (.int p1), .val (.int p2), .val (.int p3), .val (.int p4), .val (.int (Int32.ofNat n)), .val (.int xx), .val (.int yy), .val (.int d0), .val (.int d1), .val (.int d2), .val (.int d3), .val (.int d4), .val (.ref ar), .val (.int (Int32.ofNat t)), .val (.int (Int32.ofNat ex)), .unset] []) T11 (mkF m 200 #[.val (.int p0), .val (.int p1), .val (.int p2), .val (.int p3), .val (.int p4), .val (.int (Int32.ofNat n)), .val (.int xx), .val (.int yy), .val (.int d0), .val (.int d1), .val (.int d2), .val (.int d3), .val (.int d4), .val (.ref ar), .val (.int (Int32.ofNat t)), .val (.int (Int32.ofNat ex)), .unset] []) := goRun K N11 #[] [(178, .iload 14, 2), (180, .iconst 2, 1), (181, .if_icmp .lt 19, 3), (184, .iconst 2, 1), (185, .iload 5, 2), (187, .if_icmp .ge 13, 3), (190, .iload 10, 2), (192, .iload 9, 2), (194, .if_icmp .eq 6, 3)] [.null, .null, .ref 0] (P := (¬ (Int32.ofNat t) < (2 : Int32)) ∧ ((2 : Int32) < (Int32.ofNat n)) ∧ (d2 = d1) ∧ True) (by decide +kernel) rfl ⟨(fun z => absurd ((n_lt (i := t) (j := 2) (by omega) (by omega)).mp z) (by omega)), ((n_lt (i := 2) (j := n) (by omega) (by omega)).mpr q2), q3, trivial⟩
          rw [if_neg (fun z => z.2.2 q3), Nat.add_zero]; exact z1
        · have z1 : Ld p e below T11 (mkF m 178 #[.val (.int p0), .val (.int p1), .val (.int p2), .val (.int p3), .val (.int p4), .val (.int (Int32.ofNat n)), .val (.int xx), .val (.int yy), .val (.int d0), .val (.int d1), .val (.int d2), .val (.int d3), .val (.int d4), .val (.ref ar), .val (.int (Int32.ofNat t)), .val (.int (Int32.ofNat ex)), .unset] []) T11 (mkF m 200 #[.val (.int p0), .val (.int p1), .val (.int p2), .val (.int p3), .val (.int p4), .val (.int (Int32.ofNat n)), .val (.int xx), .val (.int yy), .val (.int d0), .val (.int d1), .val (.int d2), .val (.int d3), .val (.int d4), .val (.ref ar), .val (.int (Int32.ofNat t)), .val (.int ((Int32.ofNat ex) + (1 : Int32))), .unset] []) := goRun K N11 #[] [(178, .iload 14, 2), (180, .iconst 2, 1), (181, .if_icmp .lt 19, 3), (184, .iconst 2, 1), (185, .iload 5, 2), (187, .if_icmp .ge 13, 3), (190, .iload 10, 2), (192, .iload 9, 2), (194, .if_icmp .eq 6, 3), (197, .iinc 15 1, 3)] [.null, .null, .null] (P := (¬ (Int32.ofNat t) < (2 : Int32)) ∧ ((2 : Int32) < (Int32.ofNat n)) ∧ (¬ d2 = d1) ∧ True) (by decide +kernel) rfl ⟨(fun z => absurd ((n_lt (i := t) (j := 2) (by omega) (by omega)).mp z) (by omega)), ((n_lt (i := 2) (j := n) (by omega) (by omega)).mpr q2), q3, trivial⟩
          rw [n_one] at z1; rw [if_pos ⟨q1, q2, q3⟩]; exact z1
      · have z1 : Ld p e below T11 (mkF m 178 #[.val (.int p0), .val (.int p1), .val (.int p2), .val (.int p3), .val (.int p4), .val (.int (Int32.ofNat n)), .val (.int xx), .val (.int yy), .val (.int d0), .val (.int d1), .val (.int d2), .val (.int d3), .val (.int d4), .val (.ref ar), .val (.int (Int32.ofNat t)), .val (.int (Int32.ofNat ex)), .unset] []) T11 (mkF m 200 #[.val (.int p0), .val (.int p1), .val (.int p2), .val (.int p3), .val (.int p4), .val (.int (Int32.ofNat n)), .val (.int xx), .val (.int yy), .val (.int d0), .val (.int d1), .val (.int d2), .val (.int d3), .val (.int d4), .val (.ref ar), .val (.int (Int32.ofNat t)), .val (.int (Int32.ofNat ex)), .unset] []) := goRun K N11 #[] [(178, .iload 14, 2), (180, .iconst 2, 1), (181, .if_icmp .lt 19, 3), (184, .iconst 2, 1), (185, .iload 5, 2), (187, .if_icmp .ge 13, 3)] [.null, .ref 0] (P := (¬ (Int32.ofNat t) < (2 : Int32)) ∧ (¬ (2 : Int32) < (Int32.ofNat n)) ∧ True) (by decide +kernel) rfl ⟨(fun z => absurd ((n_lt (i := t) (j := 2) (by omega) (by omega)).mp z) (by omega)), (fun z => q2 ((n_lt (i := 2) (j := n) (by omega) (by omega)).mp z)), trivial⟩
        rw [if_neg (fun z => q2 z.2.1), Nat.add_zero]; exact z1
    · have z1 : Ld p e below T11 (mkF m 178 #[.val (.int p0), .val (.int p1), .val (.int p2), .val (.int p3), .val (.int p4), .val (.int (Int32.ofNat n)), .val (.int xx), .val (.int yy), .val (.int d0), .val (.int d1), .val (.int d2), .val (.int d3), .val (.int d4), .val (.ref ar), .val (.int (Int32.ofNat t)), .val (.int (Int32.ofNat ex)), .unset] []) T11 (mkF m 200 #[.val (.int p0), .val (.int p1), .val (.int p2), .val (.int p3), .val (.int p4), .val (.int (Int32.ofNat n)), .val (.int xx), .val (.int yy), .val (.int d0), .val (.int d1), .val (.int d2), .val (.int d3), .val (.int d4), .val (.ref ar), .val (.int (Int32.ofNat t)), .val (.int (Int32.ofNat ex)), .unset] []) := goRun K N11 #[] [(178, .iload 14, 2), (180, .iconst 2, 1), (181, .if_icmp .lt 19, 3)] [.ref 0] (P := ((Int32.ofNat t) < (2 : Int32)) ∧ True) (by decide +kernel) rfl ⟨((n_lt (i := t) (j := 2) (by omega) (by omega)).mpr (by omega)), trivial⟩
      rw [if_neg (fun z => q1 z.1), Nat.add_zero]; exact z1
  have g22 : ∀ ex : Nat, Ld p e below T11 (mkF m 200 #[.val (.int p0), .val (.int p1), .val (.int p2), .val (.int p3), .val (.int p4), .val (.int (Int32.ofNat n)), .val (.int xx), .val (.int yy), .val (.int d0), .val (.int d1), .val (.int d2), .val (.int d3), .val (.int d4), .val (.ref ar), .val (.int (Int32.ofNat t)), .val (.int (Int32.ofNat ex)), .unset] []) T11 (mkF m 222 #[.val (.int p0), .val (.int p1), .val (.int p2), .val (.int p3), .val (.int p4), .val (.int (Int32.ofNat n)), .val (.int xx), .val (.int yy), .val (.int d0), .val (.int d1), .val (.int d2), .val (.int d3), .val (.int d4), .val (.ref ar), .val (.int (Int32.ofNat t)), .val (.int (Int32.ofNat (ex + (if 3 ≤ t ∧ 3 < n ∧ ¬ d3 = d2 then 1 else 0)))), .unset] []) := by
    intro ex
    by_cases q1 : 3 ≤ t
    · by_cases q2 : 3 < n
      · by_cases q3 : d3 = d2
        · have z1 : Ld p e below T11 (mkF m 200 #[.val (.int p0), .val (.int p1), .val (.int p2), .val (.int p3), .val (.int p4), .val (.int (Int32.ofNat n)), .val (.int xx), .val (.int yy), .val (.int d0), .val (.int d1), .val (.int d2), .val (.int d3), .val (.int d4), .val (.ref ar), .val (.int (Int32.ofNat t)), .val (.int (Int32.ofNat ex)), .unset] []) T11 (mkF m 222 #[.val (.int p0), .val (.int p1), .val (.int p2), .val (.int p3), .val (.int p4), .val (.int (Int32.ofNat n)), .val (.int xx), .val (.int yy), .val (.int d0), .val (.int d1), .val (.int d2), .val (.int d3), .val (.int d4), .val (.ref ar), .val (.int (Int32.ofNat t)), .val (.int (Int32.ofNat ex)), .unset] []) := goRun K N11 #[] [(200, .iload 14, 2), (202, .iconst 3, 1), (203, .if_icmp .lt 19, 3), (206, .iconst 3, 1), (207, .iload 5, 2), (209, .if_icmp .ge 13, 3), (212, .iload 11, 2), (214, .iload 10, 2), (216, .if_icmp .eq 6, 3)] [.null, .null, .ref 0] (P := (¬ (Int32.ofNat t) < (3 : Int32)) ∧ ((3 : Int32) < (Int32.ofNat n)) ∧ (d3 = d2) ∧ True) (by decide +kernel) rfl ⟨(fun z => absurd ((n_lt (i := t) (j := 3) (by omega) (by omega)).mp z) (by omega)), ((n_lt (i := 3) (j := n) (by omega) (by omega)).mpr q2), q3, trivial⟩
          rw [if_neg (fun z => z.2.2 q3), Nat.add_zero]; exact z1
        · have z1 : Ld p e below T11 (mkF m 200 #[.val (.int p0), .val (.int p1), .val (.int p2), .val (.int p3), .val (.int p4), .val (.int (Int32.ofNat n)), .val (.int xx), .val (.int yy), .val (.int d0), .val (.int d1), .val (.int d2), .val (.int d3), .val (.int d4), .val (.ref ar), .val (.int (Int32.ofNat t)), .val (.int (Int32.ofNat ex)), .unset] []) T11 (mkF m 222 #[.val (.int p0), .val (.int p1), .val (.int p2), .val (.int p3), .val (.int p4), .val (.int (Int32.ofNat n)), .val (.int xx), .val (.int yy), .val (.int d0), .val (.int d1), .val (.int d2), .val (.int d3), .val (.int d4), .val (.ref ar), .val (.int (Int32.ofNat t)), .val (.int ((Int32.ofNat ex) + (1 : Int32))), .unset] []) := goRun K N11 #[] [(200, .iload 14, 2), (202, .iconst 3, 1), (203, .if_icmp .lt 19, 3), (206, .iconst 3, 1), (207, .iload 5, 2), (209, .if_icmp .ge 13, 3), (212, .iload 11, 2), (214, .iload 10, 2), (216, .if_icmp .eq 6, 3), (219, .iinc 15 1, 3)] [.null, .null, .null] (P := (¬ (Int32.ofNat t) < (3 : Int32)) ∧ ((3 : Int32) < (Int32.ofNat n)) ∧ (¬ d3 = d2) ∧ True) (by decide +kernel) rfl ⟨(fun z => absurd ((n_lt (i := t) (j := 3) (by omega) (by omega)).mp z) (by omega)), ((n_lt (i := 3) (j := n) (by omega) (by omega)).mpr q2), q3, trivial⟩
          rw [n_one] at z1; rw [if_pos ⟨q1, q2, q3⟩]; exact z1
      · have z1 : Ld p e below T11 (mkF m 200 #[.val (.int p0), .val (.int p1), .val (.int p2), .val (.int p3), .val (.int p4), .val (.int (Int32.ofNat n)), .val (.int xx), .val (.int yy), .val (.int d0), .val (.int d1), .val (.int d2), .val (.int d3), .val (.int d4), .val (.ref ar), .val (.int (Int32.ofNat t)), .val (.int (Int32.ofNat ex)), .unset] []) T11 (mkF m 222 #[.val (.int p0), .val (.int p1), .val (.int p2), .val (.int p3), .val (.int p4), .val (.int (Int32.ofNat n)), .val (.int xx), .val (.int yy), .val (.int d0), .val (.int d1), .val (.int d2), .val (.int d3), .val (.int d4), .val (.ref ar), .val (.int (Int32.ofNat t)), .val (.int (Int32.ofNat ex)), .unset] []) := goRun K N11 #[] [(200, .iload 14, 2), (202, .iconst 3, 1), (203, .if_icmp .lt 19, 3), (206, .iconst 3, 1), (207, .iload 5, 2), (209, .if_icmp .ge 13, 3)] [.null, .ref 0] (P := (¬ (Int32.ofNat t) < (3 : Int32)) ∧ (¬ (3 : Int32) < (Int32.ofNat n)) ∧ True) (by decide +kernel) rfl ⟨(fun z => absurd ((n_lt (i := t) (j := 3) (by omega) (by omega)).mp z) (by omega)), (fun z => q2 ((n_lt (i := 3) (j := n) (by omega) (by omega)).mp z)), trivial⟩
        rw [if_neg (fun z => q2 z.2.1), Nat.add_zero]; exact z1
    · have z1 : Ld p e below T11 (mkF m 200 #[.val (.int p0), .val (.int p1), .val (.int p2), .val (.int p3), .val (.int p4), .val (.int (Int32.ofNat n)), .val (.int xx), .val (.int yy), .val (.int d0), .val (.int d1), .val (.int d2), .val (.int d3), .val (.int d4), .val (.ref ar), .val (.int (Int32.ofNat t)), .val (.int (Int32.ofNat ex)), .unset] []) T11 (mkF m 222 #[.val (.int p0), .val (.int p1), .val (.int p2), .val (.int p3), .val (.int p4), .val (.int (Int32.ofNat n)), .val (.int xx), .val (.int yy), .val (.int d0), .val (.int d1), .val (.int d2), .val (.int d3), .val (.int d4), .val (.ref ar), .val (.int (Int32.ofNat t)), .val (.int (Int32.ofNat ex)), .unset] []) := goRun K N11 #[] [(200, .iload 14, 2), (202, .iconst 3, 1), (203, .if_icmp .lt 19, 3)] [.ref 0] (P := ((Int32.ofNat t) < (3 : Int32)) ∧ True) (by decide +kernel) rfl ⟨((n_lt (i := t) (j := 3) (by omega) (by omega)).mpr (by omega)), trivial⟩
      rw [if_neg (fun z => q1 z.1), Nat.add_zero]; exact z1
  have g23 : ∀ ex : Nat, Ld p e below T11 (mkF m 222 #[.val (.int p0), .val (.int p1), .val (.int p2), .val (.int p3), .val (.int p4), .val (.int (Int32.ofNat n)), .val (.int xx), .val (.int yy), .val (.int d0), .val (.int d1), .val (.int d2), .val (.int d3), .val (.int d4), .val (.ref ar), .val (.int (Int32.ofNat t)), .val (.int (Int32.ofNat ex)), .unset] []) T11 (mkF m 244 #[.val (.int p0), .val (.int p1), .val (.int p2), .val (.int p3), .val (.int p4), .val (.int (Int32.ofNat n)), .val (.int xx), .val (.int yy), .val (.int d0), .val (.int d1), .val (.int d2), .val (.int d3), .val (.int d4), .val (.ref ar), .val (.int (Int32.ofNat t)), .val (.int (Int32.ofNat (ex + (if 4 ≤ t ∧ 4 < n ∧ ¬ d4 = d3 then 1 else 0)))), .unset] []) := by
    intro ex
    by_cases q1 : 4 ≤ t
    · by_cases q2 : 4 < n
      · by_cases q3 : d4 = d3
        · have z1 : Ld p e below T11 (mkF m 222 #[.val (.int p0), .val (.int p1), .val (.int p2), .val (.int p3), .val (.int p4), .val (.int (Int32.ofNat n)), .val (.int xx), .val (.int yy), .val (.int d0), .val (.int d1), .val (.int d2), .val (.int d3), .val (.int d4), .val (.ref ar), .val (.int (Int32.ofNat t)), .val (.int (Int32.ofNat ex)), .unset] []) T11 (mkF m 244 #[.val (.int p0), .val (.int p1), .val (.int p2), .val (.int p3), .val (.int p4), .val (.int (Int32.ofNat n)), .val (.int xx), .val (.int yy), .val (.int d0), .val (.int d1), .val (.int d2), .val (.int d3), .val (.int d4), .val (.ref ar), .val (.int (Int32.ofNat t)), .val (.int (Int32.ofNat ex)), .unset] []) := goRun K N11 #[] [(222, .iload 14, 2), (224, .iconst 4, 1), (225, .if_icmp .lt 19, 3), (228, .iconst 4, 1), (229, .iload 5, 2), (231, .if_icmp .ge 13, 3), (234, .iload 12, 2), (236, .iload 11, 2), (238, .if_icmp .eq 6, 3)] [.null, .null, .ref 0] (P := (¬ (Int32.ofNat t) < (4 : Int32)) ∧ ((4 : Int32) < (Int32.ofNat n)) ∧ (d4 = d3) ∧ True) (by decide +kernel) rfl ⟨(fun z => absurd ((n_lt (i := t) (j := 4) (by omega) (by omega)).mp z) (by omega)), ((n_lt (i := 4) (j := n) (by omega) (by omega)).mpr q2), q3, trivial⟩
          rw [if_neg (fun z => z.2.2 q3), Nat.add_zero]; exact z1
        · have z1 : Ld p e below T11 (mkF m 222 #[.val (.int p0), .val (.int p1), .val (.int p2), .val (.int p3), .val (.int p4), .val (.int (Int32.ofNat n)), .val (.int xx), .val (.int yy), .val (.int d0), .val (.int d1), .val (.int d2), .val (.int d3), .val (.int d4), .val (.ref ar), .val (.int (Int32.ofNat t)), .val (.int (Int32.ofNat ex)), .unset] []) T11 (mkF m 244 #[.val (.int p0), .val (.int p1), .val (.int p2), .val (.int p3), .val (.int p4), .val (.int (Int32.ofNat n)), .val (.int xx), .val (.int yy), .val (.int d0), .val (.int d1), .val (.int d2), .val (.int d3), .val (.int d4), .val (.ref ar), .val (.int (Int32.ofNat t)), .val (.int ((Int32.ofNat ex) + (1 : Int32))), .unset] []) := goRun K N11 #[] [(222, .iload 14, 2), (224, .iconst 4, 1), (225, .if_icmp .lt 19, 3), (228, .iconst 4, 1), (229, .iload 5, 2), (231, .if_icmp .ge 13, 3), (234, .iload 12, 2), (236, .iload 11, 2), (238, .if_icmp .eq 6, 3), (241, .iinc 15 1, 3)] [.null, .null, .null] (P := (¬ (Int32.ofNat t) < (4 : Int32)) ∧ ((4 : Int32) < (Int32.ofNat n)) ∧ (¬ d4 = d3) ∧ True) (by decide +kernel) rfl ⟨(fun z => absurd ((n_lt (i := t) (j := 4) (by omega) (by omega)).mp z) (by omega)), ((n_lt (i := 4) (j := n) (by omega) (by omega)).mpr q2), q3, trivial⟩
          rw [n_one] at z1; rw [if_pos ⟨q1, q2, q3⟩]; exact z1
      · have z1 : Ld p e below T11 (mkF m 222 #[.val (.int p0), .val (.int p1), .val (.int p2), .val (.int p3), .val (.int p4), .val (.int (Int32.ofNat n)), .val (.int xx), .val (.int yy), .val (.int d0), .val (.int d1), .val (.int d2), .val (.int d3), .val (.int d4), .val (.ref ar), .val (.int (Int32.ofNat t)), .val (.int (Int32.ofNat ex)), .unset] []) T11 (mkF m 244 #[.val (.int p0), .val (.int p1), .val (.int p2), .val (.int p3), .val (.int p4), .val (.int (Int32.ofNat n)), .val (.int xx), .val (.int yy), .val (.int d0), .val (.int d1), .val (.int d2), .val (.int d3), .val (.int d4), .val (.ref ar), .val (.int (Int32.ofNat t)), .val (.int (Int32.ofNat ex)), .unset] []) := goRun K N11 #[] [(222, .iload 14, 2), (224, .iconst 4, 1), (225, .if_icmp .lt 19, 3), (228, .iconst 4, 1), (229, .iload 5, 2), (231, .if_icmp .ge 13, 3)] [.null, .ref 0] (P := (¬ (Int32.ofNat t) < (4 : Int32)) ∧ (¬ (4 : Int32) < (Int32.ofNat n)) ∧ True) (by decide +kernel) rfl ⟨(fun z => absurd ((n_lt (i := t) (j := 4) (by omega) (by omega)).mp z) (by omega)), (fun z => q2 ((n_lt (i := 4) (j := n) (by omega) (by omega)).mp z)), trivial⟩
        rw [if_neg (fun z => q2 z.2.1), Nat.add_zero]; exact z1
    · have z1 : Ld p e below T11 (mkF m 222 #[.val (.int p0), .val (.int p1), .val (.int p2), .val (.int p3), .val (.int p4), .val (.int (Int32.ofNat n)), .val (.int xx), .val (.int yy), .val (.int d0), .val (.int d1), .val (.int d2), .val (.int d3), .val (.int d4), .val (.ref ar), .val (.int (Int32.ofNat t)), .val (.int (Int32.ofNat ex)), .unset] []) T11 (mkF m 244 #[.val (.int p0), .val (.int p1), .val (.int p2), .val (.int p3), .val (.int p4), .val (.int (Int32.ofNat n)), .val (.int xx), .val (.int yy), .val (.int d0), .val (.int d1), .val (.int d2), .val (.int d3), .val (.int d4), .val (.ref ar), .val (.int (Int32.ofNat t)), .val (.int (Int32.ofNat ex)), .unset] []) := goRun K N11 #[] [(222, .iload 14, 2), (224, .iconst 4, 1), (225, .if_icmp .lt 19, 3)] [.ref 0] (P := ((Int32.ofNat t) < (4 : Int32)) ∧ True) (by decide +kernel) rfl ⟨((n_lt (i := t) (j := 4) (by omega) (by omega)).mpr (by omega)), trivial⟩
      rw [if_neg (fun z => q1 z.1), Nat.add_zero]; exact z1
  have g24 : ∀ ex : Nat, Ld p e below T11 (mkF m 244 #[.val (.int p0), .val (.int p1), .val (.int p2), .val (.int p3), .val (.int p4), .val (.int (Int32.ofNat n)), .val (.int xx), .val (.int yy), .val (.int d0), .val (.int d1), .val (.int d2), .val (.int d3), .val (.int d4), .val (.ref ar), .val (.int (Int32.ofNat t)), .val (.int (Int32.ofNat ex)), .unset] []) T11 (mkF m 259 #[.val (.int p0), .val (.int p1), .val (.int p2), .val (.int p3), .val (.int p4), .val (.int (Int32.ofNat n)), .val (.int xx), .val (.int yy), .val (.int d0), .val (.int d1), .val (.int d2), .val (.int d3), .val (.int d4), .val (.ref ar), .val (.int (Int32.ofNat t)), .val (.int (Int32.ofNat (ex + (if t = n ∧ 0 < n then 1 else 0)))), .unset] []) := by
    intro ex
    by_cases q1 : t = n
    · by_cases q2 : 0 < n
      · have z1 : Ld p e below T11 (mkF m 244 #[.val (.int p0), .val (.int p1), .val (.int p2), .val (.int p3), .val (.int p4), .val (.int (Int32.ofNat n)), .val (.int xx), .val (.int yy), .val (.int d0), .val (.int d1), .val (.int d2), .val (.int d3), .val (.int d4), .val (.ref ar), .val (.int (Int32.ofNat t)), .val (.int (Int32.ofNat ex)), .unset] []) T11 (mkF m 259 #[.val (.int p0), .val (.int p1), .val (.int p2), .val (.int p3), .val (.int p4), .val (.int (Int32.ofNat n)), .val (.int xx), .val (.int yy), .val (.int d0), .val (.int d1), .val (.int d2), .val (.int d3), .val (.int d4), .val (.ref ar), .val (.int (Int32.ofNat t)), .val (.int ((Int32.ofNat ex) + (1 : Int32))), .unset] []) := goRun K N11 #[] [(244, .iload 14, 2), (246, .iload 5, 2), (248, .if_icmp .ne 11, 3), (251, .iload 5, 2), (253, .ifCond .le 6, 3), (256, .iinc 15 1, 3)] [.null, .null] (P := ((Int32.ofNat t) = (Int32.ofNat n)) ∧ ((0 : Int32) < (Int32.ofNat n)) ∧ True) (by decide +kernel) rfl ⟨(by rw [q1]), ((n_lt (i := 0) (j := n) (by omega) (by omega)).mpr q2), trivial⟩
        rw [n_one] at z1; rw [if_pos ⟨q1, q2⟩]; exact z1
      · have z1 : Ld p e below T11 (mkF m 244 #[.val (.int p0), .val (.int p1), .val (.int p2), .val (.int p3), .val (.int p4), .val (.int (Int32.ofNat n)), .val (.int xx), .val (.int yy), .val (.int d0), .val (.int d1), .val (.int d2), .val (.int d3), .val (.int d4), .val (.ref ar), .val (.int (Int32.ofNat t)), .val (.int (Int32.ofNat ex)), .unset] []) T11 (mkF m 259 #[.val (.int p0), .val (.int p1), .val (.int p2), .val (.int p3), .val (.int p4), .val (.int (Int32.ofNat n)), .val (.int xx), .val (.int yy), .val (.int d0), .val (.int d1), .val (.int d2), .val (.int d3), .val (.int d4), .val (.ref ar), .val (.int (Int32.ofNat t)), .val (.int (Int32.ofNat ex)), .unset] []) := goRun K N11 #[] [(244, .iload 14, 2), (246, .iload 5, 2), (248, .if_icmp .ne 11, 3), (251, .iload 5, 2), (253, .ifCond .le 6, 3)] [.null, .ref 0] (P := ((Int32.ofNat t) = (Int32.ofNat n)) ∧ (¬ (0 : Int32) < (Int32.ofNat n)) ∧ True) (by decide +kernel) rfl ⟨(by rw [q1]), (fun z => q2 ((n_lt (i := 0) (j := n) (by omega) (by omega)).mp z)), trivial⟩
        rw [if_neg (fun z => q2 z.2), Nat.add_zero]; exact z1
    · have z1 : Ld p e below T11 (mkF m 244 #[.val (.int p0), .val (.int p1), .val (.int p2), .val (.int p3), .val (.int p4), .val (.int (Int32.ofNat n)), .val (.int xx), .val (.int yy), .val (.int d0), .val (.int d1), .val (.int d2), .val (.int d3), .val (.int d4), .val (.ref ar), .val (.int (Int32.ofNat t)), .val (.int (Int32.ofNat ex)), .unset] []) T11 (mkF m 259 #[.val (.int p0), .val (.int p1), .val (.int p2), .val (.int p3), .val (.int p4), .val (.int (Int32.ofNat n)), .val (.int xx), .val (.int yy), .val (.int d0), .val (.int d1), .val (.int d2), .val (.int d3), .val (.int d4), .val (.ref ar), .val (.int (Int32.ofNat t)), .val (.int (Int32.ofNat ex)), .unset] []) := goRun K N11 #[] [(244, .iload 14, 2), (246, .iload 5, 2), (248, .if_icmp .ne 11, 3)] [.ref 0] (P := (¬ (Int32.ofNat t) = (Int32.ofNat n)) ∧ True) (by decide +kernel) rfl ⟨(fun z => q1 ((n_eq (by omega) (by omega)).mp z)), trivial⟩
      rw [if_neg (fun z => q1 z.1), Nat.add_zero]; exact z1
  have hsum : (((((0 + (if 1 ≤ t ∧ 1 < n ∧ ¬ d1 = d0 then 1 else 0)) + (if 2 ≤ t ∧ 2 < n ∧ ¬ d2 = d1 then 1 else 0)) + (if 3 ≤ t ∧ 3 < n ∧ ¬ d3 = d2 then 1 else 0)) + (if 4 ≤ t ∧ 4 < n ∧ ¬ d4 = d3 then 1 else 0)) + (if t = n ∧ 0 < n then 1 else 0)) = sumV n t d0 d1 d2 d3 d4 := by simp only [sumV, Nat.zero_add]
  have gE := g24 ((((0 + (if 1 ≤ t ∧ 1 < n ∧ ¬ d1 = d0 then 1 else 0)) + (if 2 ≤ t ∧ 2 < n ∧ ¬ d2 = d1 then 1 else 0)) + (if 3 ≤ t ∧ 3 < n ∧ ¬ d3 = d2 then 1 else 0)) + (if 4 ≤ t ∧ 4 < n ∧ ¬ d4 = d3 then 1 else 0))
  rw [hsum] at gE
  obtain ⟨T12, h12, a, ea, N12, E12, X12, D12, g25⟩ := goNew K N11 (C := "com/example/overbrim/overbrim/Demand") (tw hw 6 rfl) (tw hw 7 rfl) (tw hw 8 rfl) (pc := 259) (L := #[.val (.int p0), .val (.int p1), .val (.int p2), .val (.int p3), .val (.int p4), .val (.int (Int32.ofNat n)), .val (.int xx), .val (.int yy), .val (.int d0), .val (.int d1), .val (.int d2), .val (.int d3), .val (.int d4), .val (.ref ar), .val (.int (Int32.ofNat t)), .val (.int (Int32.ofNat (sumV n t d0 d1 d2 d3 d4))), .unset]) (S := []) (by decide +kernel) (by decide) (by decide)
  have G1 : Fld Z h12 a "com/example/overbrim/overbrim/Demand" "runStarts" "[J" .null := D12 (Or.inr (tw hw 17 rfl)) (ty := .array .long) (by decide)
  have G2 : Fld Z h12 a "com/example/overbrim/overbrim/Demand" "values" "[J" .null := D12 (Or.inr (tw hw 19 rfl)) (ty := .array .long) (by decide)
  have G3 : Fld Z h12 a "com/example/overbrim/overbrim/Demand" "before" "[J" .null := D12 (Or.inr (tw hw 24 rfl)) (ty := .array .long) (by decide)
  have ha : n0 ≤ a := ea ▸ N11.size
  have g26 : Ld p e below T12 (mkF m 262 #[.val (.int p0), .val (.int p1), .val (.int p2), .val (.int p3), .val (.int p4), .val (.int (Int32.ofNat n)), .val (.int xx), .val (.int yy), .val (.int d0), .val (.int d1), .val (.int d2), .val (.int d3), .val (.int d4), .val (.ref ar), .val (.int (Int32.ofNat t)), .val (.int (Int32.ofNat (sumV n t d0 d1 d2 d3 d4))), .unset] [(.ref a)]) T12 (mkF m 265 #[.val (.int p0), .val (.int p1), .val (.int p2), .val (.int p3), .val (.int p4), .val (.int (Int32.ofNat n)), .val (.int xx), .val (.int yy), .val (.int d0), .val (.int d1), .val (.int d2), .val (.int d3), .val (.int d4), .val (.ref ar), .val (.int (Int32.ofNat t)), .val (.int (Int32.ofNat (sumV n t d0 d1 d2 d3 d4))), .unset] [(.ref ar), (.ref a), (.ref a)]) := goRun K N12 #[] [(262, .dup, 1), (263, .aload 13, 2)] [] (P := True) (by decide +kernel) rfl trivial
  obtain ⟨v, T13, h13, N13, ⟨rfl, K13, ra, H1, A13⟩, g27⟩ := goSp K N12 (a := a) (tw hw 9 rfl) (tw hw 10 rfl) (tw hw 8 rfl) (tw hw 11 rfl) (con_ct hw X12 G1 G2 G3 (D11.ext E12) (by omega) ha) rfl (by decide) (argsL := [.ref ar]) (W := 1) (rest := [.ref a]) (by decide) (by decide) (by decide) (by decide) (L := #[.val (.int p0), .val (.int p1), .val (.int p2), .val (.int p3), .val (.int p4), .val (.int (Int32.ofNat n)), .val (.int xx), .val (.int yy), .val (.int d0), .val (.int d1), .val (.int d2), .val (.int d3), .val (.int d4), .val (.ref ar), .val (.int (Int32.ofNat t)), .val (.int (Int32.ofNat (sumV n t d0 d1 d2 d3 d4))), .unset]) rfl pd_ct rfl (Nat.le_of_eq rfl) (pc := 265) (by decide +kernel)
  have g28 : Ld p e below T13 (mkF m 268 #[.val (.int p0), .val (.int p1), .val (.int p2), .val (.int p3), .val (.int p4), .val (.int (Int32.ofNat n)), .val (.int xx), .val (.int yy), .val (.int d0), .val (.int d1), .val (.int d2), .val (.int d3), .val (.int d4), .val (.ref ar), .val (.int (Int32.ofNat t)), .val (.int (Int32.ofNat (sumV n t d0 d1 d2 d3 d4))), .unset] [(.ref a)]) T13 (mkF m 275 #[.val (.int p0), .val (.int p1), .val (.int p2), .val (.int p3), .val (.int p4), .val (.int (Int32.ofNat n)), .val (.int xx), .val (.int yy), .val (.int d0), .val (.int d1), .val (.int d2), .val (.int d3), .val (.int d4), .val (.ref ar), .val (.int (Int32.ofNat t)), .val (.int (Int32.ofNat (sumV n t d0 d1 d2 d3 d4))), .val (.ref a)] [(.long ((Int32.ofNat t).toInt64)), (.ref a)]) := goRun K N13 #[] [(268, .astore 16, 2), (270, .aload 16, 2), (272, .iload 14, 2), (274, .i2l, 1)] [] (P := True) (by decide +kernel) rfl trivial
  obtain ⟨v, T14, h14, N14, ⟨H2, rfl⟩, g29⟩ := goVi K N13 (a := a) (X12.keep K13) (tw hw 25 rfl) (tw hw 26 rfl) (tw hw 28 rfl) (tw hw 27 rfl) (tw hw 8 rfl) (tw hw 29 rfl) (con_ra hw H1 A13 (by have := sts_len (isS (dF d0 d1 d2 d3 d4)) n; simp [fin_ks]; omega) (ks_srt (by omega) d0 d1 d2 d3 d4) (kl t)) (by decide) (argsL := [.long (kl t)]) (W := 0) (rest := []) (by decide) (by decide) (by decide) (by decide) (L := #[.val (.int p0), .val (.int p1), .val (.int p2), .val (.int p3), .val (.int p4), .val (.int (Int32.ofNat n)), .val (.int xx), .val (.int yy), .val (.int d0), .val (.int d1), .val (.int d2), .val (.int d3), .val (.int d4), .val (.ref ar), .val (.int (Int32.ofNat t)), .val (.int (Int32.ofNat (sumV n t d0 d1 d2 d3 d4))), .val (.ref a)]) rfl pd_ra rfl (Nat.le_of_eq rfl) (pc := 275) (by decide +kernel)
  obtain rfl := fin_law (by omega) (by omega) d0 d1 d2 d3 d4 H2
  have g30 : Ld p e below T14 (mkF m 278 #[.val (.int p0), .val (.int p1), .val (.int p2), .val (.int p3), .val (.int p4), .val (.int (Int32.ofNat n)), .val (.int xx), .val (.int yy), .val (.int d0), .val (.int d1), .val (.int d2), .val (.int d3), .val (.int d4), .val (.ref ar), .val (.int (Int32.ofNat t)), .val (.int (Int32.ofNat (sumV n t d0 d1 d2 d3 d4))), .val (.ref a)] [(.int (Int32.ofNat (sumV n t d0 d1 d2 d3 d4)))]) T14 (mkF m 288 #[.val (.int p0), .val (.int p1), .val (.int p2), .val (.int p3), .val (.int p4), .val (.int (Int32.ofNat n)), .val (.int xx), .val (.int yy), .val (.int d0), .val (.int d1), .val (.int d2), .val (.int d3), .val (.int d4), .val (.ref ar), .val (.int (Int32.ofNat t)), .val (.int (Int32.ofNat (sumV n t d0 d1 d2 d3 d4))), .val (.ref a)] [(.int (1 : Int32))]) := goRun K N14 #[] [(278, .iload 15, 2), (280, .if_icmp .ne 7, 3), (283, .iconst 1, 1), (284, .goto 4, 3)] [.null] (P := ((Int32.ofNat (sumV n t d0 d1 d2 d3 d4)) = (Int32.ofNat (sumV n t d0 d1 d2 d3 d4))) ∧ True) (by decide +kernel) rfl ⟨rfl, trivial⟩
  exact ⟨_, T14, _, _, _, _, N14, by decide, by decide, fun q => (nomatch q), rfl, g1.trans (g2.trans (g3.trans (g4.trans (g5.trans (g6.trans (g7.trans (g8.trans (g9.trans (g10.trans (g11.trans (g12.trans (g13.trans (g14.trans (g15.trans (g16.trans (g17.trans (g18.trans (g19.trans ((g20 0).trans ((g21 (0 + (if 1 ≤ t ∧ 1 < n ∧ ¬ d1 = d0 then 1 else 0))).trans ((g22 ((0 + (if 1 ≤ t ∧ 1 < n ∧ ¬ d1 = d0 then 1 else 0)) + (if 2 ≤ t ∧ 2 < n ∧ ¬ d2 = d1 then 1 else 0))).trans ((g23 (((0 + (if 1 ≤ t ∧ 1 < n ∧ ¬ d1 = d0 then 1 else 0)) + (if 2 ≤ t ∧ 2 < n ∧ ¬ d2 = d1 then 1 else 0)) + (if 3 ≤ t ∧ 3 < n ∧ ¬ d3 = d2 then 1 else 0))).trans (gE.trans (g25.trans (g26.trans (g27.trans (g28.trans (g29.trans g30)))))))))))))))))))))))))))), finN K N14 hret (Or.inl rfl) (by decide +kernel)⟩
set_option maxRecDepth 65536 in
set_option maxHeartbeats 4000000 in
theorem comes_1 {Post : Tables → Env → Array Value → State → Outcome → State → Prop} (hpost : ∀ tb e args s v u, (limb_1_1.after args s (.returned v) u = true ∧ limb_1_2.after args s (.returned v) u = true ∧ True) → FrameEnd s (.returned v) u (Jvm.fieldLocs frame_1_writes args s ++ Jvm.arrayLocs frame_1_arrays args s ++ Jvm.staticLocs frame_1_statics s) 24 128 → Post tb e args s (.returned v) u) :
    ArmFor flags0 classFile x code maxLocals ret World_1 tables_1 room_1 Calls_1 rest_1 Pre_1 Post := by
  intro l hfl _ _ p e ha hc hk s m args below hf hA hF happ hP
  obtain ⟨hcalls, hrest, hpre⟩ := hP
  obtain ⟨-, -, -, hnamed, -, -, -, hat⟩ := (Spec.applies_iff hf).mp happ
  obtain ⟨hg, hn⟩ := and_e (Cond.before_iff.mp (show (Jvm.Cond.and given_1 narrow_1).before args s = true from hpre))
  obtain ⟨g6, g7⟩ := and_e hg
  obtain ⟨g8, g9⟩ := and_e g7
  obtain ⟨g10, g11⟩ := and_e g9
  obtain ⟨g12, g13⟩ := and_e g11
  obtain ⟨g14, g15⟩ := and_e g13
  obtain ⟨w0, w1, w2, w3, w4, rfl⟩ : ∃ w0 w1 w2 w3 w4 : Value, args = #[w0, w1, w2, w3, w4] := by
    have hs : args.size = 5 := by simpa [Cond.value, given_1] using g6
    obtain ⟨L⟩ := args
    match L, hs with
    | [w0, w1, w2, w3, w4], _ => exact ⟨w0, w1, w2, w3, w4, rfl⟩
  have hw := fun d (hd : d ∈ tables_1) => atoms_spec (ws := Jvm.Cond.code x code maxLocals ret :: tables_1) hat d (List.mem_cons_of_mem _ hd)
  obtain ⟨i0, ei0⟩ := is_v g8
  obtain rfl : w0 = (.int i0) := Option.some.inj ei0
  obtain ⟨i1, ei1⟩ := is_v g10
  obtain rfl : w1 = (.int i1) := Option.some.inj ei1
  obtain ⟨i2, ei2⟩ := is_v g12
  obtain rfl : w2 = (.int i2) := Option.some.inj ei2
  obtain ⟨i3, ei3⟩ := is_v g14
  obtain rfl : w3 = (.int i3) := Option.some.inj ei3
  obtain ⟨i4, ei4⟩ := is_v g15
  obtain rfl : w4 = (.int i4) := Option.some.inj ei4
  obtain ⟨n, o, h1, h2, h3, _, L, rfl, ⟨_, N, rfl⟩, hq⟩ := con_law (l := l) (Z := s) (n0 := s.heap.size) (h := s.heap) hw i0 i1 i2 i3 i4 tables_1 (Nat.le_refl _) p e ha hc hk s m _ below hf ((Spec.applies_iff_loose hf).mp happ).1 ⟨rfl, State.Warmed39.refl s, rfl⟩ trivial
  refine ⟨n, _, h1, h2, h3, hpost _ _ _ _ _ _ ⟨Cond.after_iff.mpr rfl, Cond.after_iff.mpr (eq_i res_at (Term.int_eval (1)) rfl), trivial⟩ ⟨hq.1, hq.2.1, (hq.2.2.sift fun y hy => Or.inr (N y hy)).mono (by decide) (by decide)⟩⟩
theorem main_1_1 : Claimed_1_1 := comes_1 fun _ _ _ _ _ _ h hF => ⟨h.1, hF⟩
theorem main_1_2 : Claimed_1_2 := comes_1 fun _ _ _ _ _ _ h hF => ⟨h.2.1, hF⟩
end Jvm.Pilot.@@N@@
namespace Jvm.Pilot.@@N@@
open Jvm Jvm.ClassFile Sem Op Lib Jvm.Free Jvm.Stand Jvm.Pilot.@@N@@.Jvm.D
/-! MADE BY PROGRAM (witnessworld.py) out of the Statement's table words and the real class files: 12 classes; the members and pool entries that the words name. The judged class is class 1, her method 2. -/
namespace start1
open Jvm.ClassFile
def u (s : String) : CpInfo := .utf8 (stringToUtf16 s)
/-- a pool by its gaps: so many unusable entries, then the entry; so many at the end -/
def gap : Nat → List CpInfo → List CpInfo
  | 0, r => r
  | n + 1, r => .unusable :: gap n r
def poolList (es : List (Nat × CpInfo)) (last : Nat) : List CpInfo := es.foldr (fun e r => gap e.1 (e.2 :: r)) (gap last [])
def pool (es : List (Nat × CpInfo)) (last : Nat) : Array CpInfo := ⟨poolList es last⟩
def fileOf (pool : Array CpInfo) (this : Nat) (attrs : Array Attribute := #[]) (ms : Array MethodInfo := #[]) (fl : Nat := 33) (sup : Nat := 0) (ifs : Array Nat := #[]) (fds : Array FieldInfo := #[]) : ClassFile where
  minorVersion := 0
  majorVersion := 65
  constantPool := pool
  accessFlags := fl
  thisClass := this
  superClass := sup
  interfaces := ifs
  fields := fds
  methods := ms
  attributes := attrs
def plain (name : String) (sup : Option ClassId) : Class where
  name := name
  kind := .ordinary
  loader := none
  accessFlags := 33
  super := sup
  interfaces := #[]
  cf := none
  fields := #[]
  methods := #[]
  instanceTypes := #[]
  staticTypes := #[]
  resolved := #[]
  callSites := []
  init := .initialized
  statics := none
  mirror := none

def pool0 : Array CpInfo := pool [(5, u "<init>"), (0, u "()V"), (1, .class_ 10), (1, u "java/lang/Object")] 113

def k0c0 : Code := { maxStack := 0, maxLocals := 1, code := object_method_1_code, exceptionTable := #[], attributes := #[] }
def k0m0 : Method := { name := "<init>", desc := "()V", sig := { parameters := [], returnType := none }, accessFlags := 1, code := some k0c0 }
/-- java/lang/Object -/
def k0 : Class := { plain "java/lang/Object" none with
  accessFlags := 33
  interfaces := #[]
  cf := some (fileOf pool0 8 #[] #[{ accessFlags := 1, nameIndex := 5, descriptorIndex := 6, attributes := #[] }] 33 0 #[] #[])
  fields := #[]
  methods := #[k0m0]
  instanceTypes := #[]
  staticTypes := #[]
  resolved := Array.replicate 124 none
  statics := none }

def pool1 : Array CpInfo := pool [(2, .class_ 4), (1, u "java/lang/Object"), (0, u "<init>"), (0, u "()V"), (0, .integer 2147483647), (0, .methodref 9 10), (0, .class_ 11), (0, .nameAndType 12 13), (0, u "com/example/overbrim/overbrim/DemandRunAtPinLaw"), (0, u "pick"), (0, u "(IIII)I"), (0, .class_ 15), (0, u "com/example/overbrim/overbrim/Demand"), (0, .methodref 14 17), (0, .nameAndType 5 18), (0, u "([I)V"), (0, .methodref 14 20), (0, .nameAndType 21 22), (0, u "runAt"), (0, u "(J)I"), (3, u "law"), (0, u "(IIIII)Z")] 4

def k1m0 : Method := { name := "<init>", desc := "()V", sig := { parameters := [], returnType := none }, accessFlags := 1, code := none }
def k1c1 : Code := { maxStack := 2, maxLocals := 4, code := method_2_code, exceptionTable := #[], attributes := #[] }
def k1m1 : Method := { name := "pick", desc := "(IIII)I", sig := { parameters := [.int, .int, .int, .int], returnType := some .int }, accessFlags := 10, code := some k1c1 }
def k1c2 : Code := { maxStack := 4, maxLocals := 17, code := code, exceptionTable := #[], attributes := #[] }
def k1m2 : Method := { name := "law", desc := "(IIIII)Z", sig := { parameters := [.int, .int, .int, .int, .int], returnType := some .boolean }, accessFlags := 9, code := some k1c2 }
/-- com/example/overbrim/overbrim/DemandRunAtPinLaw -/
def k1 : Class := { plain "com/example/overbrim/overbrim/DemandRunAtPinLaw" (some 0) with
  accessFlags := 49
  interfaces := #[]
  cf := some (fileOf pool1 9 #[] #[{ accessFlags := 1, nameIndex := 5, descriptorIndex := 6, attributes := #[] }, { accessFlags := 10, nameIndex := 12, descriptorIndex := 13, attributes := #[] }, { accessFlags := 9, nameIndex := 26, descriptorIndex := 27, attributes := #[] }] 49 2 #[] #[])
  fields := #[]
  methods := #[k1m0, k1m1, k1m2]
  instanceTypes := #[]
  staticTypes := #[]
  resolved := Array.replicate 32 none
  statics := none }

def pool2 : Array CpInfo := pool [(1, .methodref 2 3), (0, .class_ 4), (0, .nameAndType 5 6), (0, u "java/lang/Object"), (0, u "<init>"), (0, u "()V"), (0, .fieldref 8 9), (0, .class_ 10), (0, .nameAndType 11 12), (0, u "com/example/overbrim/overbrim/Demand"), (0, u "runStarts"), (0, u "[J"), (0, .fieldref 8 14), (0, .nameAndType 15 12), (0, u "values"), (0, .methodref 8 17), (0, .nameAndType 18 19), (0, u "sums"), (0, u "([J[J)[J"), (0, .fieldref 8 21), (0, .nameAndType 22 12), (0, u "before"), (11, .methodref 35 36), (0, .class_ 37), (0, .nameAndType 38 39), (0, u "java/util/Arrays"), (0, u "binarySearch"), (0, u "([JJ)I"), (2, u "runAt"), (0, u "(J)I"), (0, u "([I)V")] 18

def k2c0 : Code := { maxStack := 4, maxLocals := 5, code := prog_2_method_1_code, exceptionTable := #[], attributes := #[] }
def k2m0 : Method := { name := "<init>", desc := "([I)V", sig := { parameters := [(.array .int)], returnType := none }, accessFlags := 0, code := some k2c0 }
def k2c1 : Code := { maxStack := 10, maxLocals := 4, code := prog_2_method_3_code, exceptionTable := #[], attributes := #[] }
def k2m1 : Method := { name := "sums", desc := "([J[J)[J", sig := { parameters := [(.array .long), (.array .long)], returnType := some (.array .long) }, accessFlags := 10, code := some k2c1 }
def k2c2 : Code := { maxStack := 3, maxLocals := 4, code := prog_2_method_11_code, exceptionTable := #[], attributes := #[] }
def k2m2 : Method := { name := "runAt", desc := "(J)I", sig := { parameters := [.long], returnType := some .int }, accessFlags := 0, code := some k2c2 }
/-- com/example/overbrim/overbrim/Demand -/
def k2 : Class := { plain "com/example/overbrim/overbrim/Demand" (some 0) with
  accessFlags := 48
  interfaces := #[]
  cf := some (fileOf pool2 8 #[] #[{ accessFlags := 0, nameIndex := 5, descriptorIndex := 44, attributes := #[] }, { accessFlags := 10, nameIndex := 18, descriptorIndex := 19, attributes := #[] }, { accessFlags := 0, nameIndex := 42, descriptorIndex := 43, attributes := #[] }] 48 2 #[] #[{ accessFlags := 18, nameIndex := 11, descriptorIndex := 12, attributes := #[] }, { accessFlags := 18, nameIndex := 15, descriptorIndex := 12, attributes := #[] }, { accessFlags := 18, nameIndex := 22, descriptorIndex := 12, attributes := #[] }])
  fields := #[{ name := "runStarts", type := (.array .long), accessFlags := 18, slot := 0, constantValue := 0 }, { name := "values", type := (.array .long), accessFlags := 18, slot := 1, constantValue := 0 }, { name := "before", type := (.array .long), accessFlags := 18, slot := 2, constantValue := 0 }]
  methods := #[k2m0, k2m1, k2m2]
  instanceTypes := #[(.array .long), (.array .long), (.array .long)]
  staticTypes := #[]
  resolved := Array.replicate 63 none
  statics := none }

def pool3 : Array CpInfo := pool [(2, .class_ 4), (1, u "java/lang/Object"), (0, u "<init>"), (0, u "()V"), (7, .class_ 16), (1, u "java/util/Arrays"), (57, .class_ 76), (1, u "java/util/Arrays$NaturalOrder"), (36, .class_ 115), (1, u "java/util/Arrays$LegacyMergeSort"), (1, u "Z"), (87, .methodref 14 206), (0, .nameAndType 207 208), (0, u "binarySearch0"), (0, u "([JIIJ)I"), (166, .class_ 376), (0, u "java/util/Arrays$ArrayList"), (68, u "$assertionsDisabled"), (269, u "MIN_ARRAY_SORT_GRAN"), (0, u "I"), (2, u "INSERTIONSORT_THRESHOLD"), (74, u "binarySearch"), (0, u "([JJ)I"), (179, .class_ 976), (0, u "java/util/Arrays$ArrayItr")] 52

def k3m0 : Method := { name := "<init>", desc := "()V", sig := { parameters := [], returnType := none }, accessFlags := 2, code := none }
def k3c1 : Code := { maxStack := 5, maxLocals := 3, code := jdk_65_method_54_code, exceptionTable := #[], attributes := #[] }
def k3m1 : Method := { name := "binarySearch", desc := "([JJ)I", sig := { parameters := [(.array .long), .long], returnType := some .int }, accessFlags := 9, code := some k3c1 }
def k3c2 : Code := { maxStack := 4, maxLocals := 10, code := jdk_65_method_56_code, exceptionTable := #[], attributes := #[] }
def k3m2 : Method := { name := "binarySearch0", desc := "([JIIJ)I", sig := { parameters := [(.array .long), .int, .int, .long], returnType := some .int }, accessFlags := 10, code := some k3c2 }
/-- java/util/Arrays -/
def k3 : Class := { plain "java/util/Arrays" (some 0) with
  accessFlags := 49
  interfaces := #[]
  cf := some (fileOf pool3 14 #[.nestMembers #[975, 375, 113, 74]] #[{ accessFlags := 2, nameIndex := 5, descriptorIndex := 6, attributes := #[] }, { accessFlags := 9, nameIndex := 794, descriptorIndex := 795, attributes := #[] }, { accessFlags := 10, nameIndex := 207, descriptorIndex := 208, attributes := #[] }] 49 2 #[] #[{ accessFlags := 26, nameIndex := 715, descriptorIndex := 716, attributes := #[] }, { accessFlags := 26, nameIndex := 719, descriptorIndex := 716, attributes := #[] }, { accessFlags := 4120, nameIndex := 445, descriptorIndex := 117, attributes := #[] }])
  fields := #[{ name := "MIN_ARRAY_SORT_GRAN", type := .int, accessFlags := 26, slot := 0, constantValue := 0 }, { name := "INSERTIONSORT_THRESHOLD", type := .int, accessFlags := 26, slot := 1, constantValue := 0 }, { name := "$assertionsDisabled", type := .boolean, accessFlags := 4120, slot := 2, constantValue := 0 }]
  methods := #[k3m0, k3m1, k3m2]
  instanceTypes := #[]
  staticTypes := #[.int, .int, .boolean]
  resolved := Array.replicate 1029 none
  statics := none }

def pool4 : Array CpInfo := pool [(1, u "java/lang/Cloneable"), (0, .class_ 1), (0, u "java/lang/Object"), (0, .class_ 3)] 3

/-- java/lang/Cloneable -/
def k4 : Class := { plain "java/lang/Cloneable" (some 0) with
  accessFlags := 1537
  interfaces := #[]
  cf := some (fileOf pool4 2 #[] #[] 1537 4 #[] #[])
  fields := #[]
  methods := #[]
  instanceTypes := #[]
  staticTypes := #[]
  resolved := Array.replicate 8 none
  statics := none }

def pool5 : Array CpInfo := pool [(1, u "java/io/Serializable"), (0, .class_ 1), (0, u "java/lang/Object"), (0, .class_ 3)] 3

/-- java/io/Serializable -/
def k5 : Class := { plain "java/io/Serializable" (some 0) with
  accessFlags := 1537
  interfaces := #[]
  cf := some (fileOf pool5 2 #[] #[] 1537 4 #[] #[])
  fields := #[]
  methods := #[]
  instanceTypes := #[]
  staticTypes := #[]
  resolved := Array.replicate 8 none
  statics := none }

/-- the primitive byte -/
def k6 : Class := { plain "byte" none with kind := .primitive 'B', accessFlags := 0x411 }
/-- [B -/
def k7 : Class := { plain "[B" (some 0) with kind := .array 6 .byte, interfaces := #[4, 5], accessFlags := 1041 }

/-- the primitive int -/
def k8 : Class := { plain "int" none with kind := .primitive 'I', accessFlags := 0x411 }
/-- [I -/
def k9 : Class := { plain "[I" (some 0) with kind := .array 8 .int, interfaces := #[4, 5], accessFlags := 1041 }

/-- the primitive long -/
def k10 : Class := { plain "long" none with kind := .primitive 'J', accessFlags := 0x411 }
/-- [J -/
def k11 : Class := { plain "[J" (some 0) with kind := .array 10 .long, interfaces := #[4, 5], accessFlags := 1041 }

def heap : Heap := #[]
def classes : Array Class := #[k0, k1, k2, k3, k4, k5, k6, k7, k8, k9, k10, k11]
def interned : List (Array UInt16 × Addr) := []
def slotsUsed : Nat := 0
def theMethod : MethodId := ⟨1, 2⟩
def args0 : Array Value := #[.int 3, .int 2, .int 7, .int 9, .int 2]
def aboutOver (below : List Frame) : State where
  vm := { classes := classes, interned := interned.toArray }
  heap := heap
  slotsUsed := slotsUsed
  threads := #[{ frames := .invoking theMethod args0 :: below }]
def below0 : List Frame := [.native { method := ⟨0, 0⟩, args := #[] }]
def about1 : State := aboutOver below0
def p0 : Program := .bare "" "" ""
def e0 : Env := launch0.env 0 0 0
theorem w_frames : about1.frames = Frame.invoking theMethod args0 :: below0 := rfl
set_option maxRecDepth 65536 in
theorem w_args : argsFit about1.vm theMethod args0 = true := by decide +kernel
set_option maxRecDepth 65536 in
theorem w_heap : heapFits about1 = true := by decide +kernel
set_option maxRecDepth 65536 in
theorem w_runnable : about1.curStatus? = some .runnable := by decide +kernel
set_option maxRecDepth 65536 in
theorem w_alone : about1.alone = true := by decide +kernel
set_option maxRecDepth 65536 in
theorem w_named : about1.methodNamed? x = some theMethod := by decide +kernel
set_option maxRecDepth 65536 in
theorem w_hears : about1.hears theMethod below0 = true := by decide +kernel
set_option maxRecDepth 65536 in
theorem w_ripe : about1.ripe theMethod args0 below0 = true := by decide +kernel
theorem w_running : about1.status = .running := rfl
set_option maxRecDepth 65536 in
theorem w_room : about1.hasRoom e0.platform room_1 = true :=
  launch0.hasRoom_least _ room_1 (by decide +kernel) (by decide +kernel) (by decide +kernel) (by decide +kernel) (by decide +kernel) (by decide +kernel)
theorem allAtoms_all (ts : List Jvm.Cond) (a : Array Jvm.Value) (st : Jvm.State) : (allAtoms ts).before a st = ts.all (fun c => c.before a st) := by
  induction ts with
  | nil => rfl
  | cons c t ih =>
    show (Jvm.Cond.and c (allAtoms t)).before a st = _
    rw [Jvm.Cond.before_and, ih, List.all_cons]
def words1 : List Jvm.Cond := Jvm.Cond.code x code maxLocals ret :: tables_1
/-- a 'code' word, met by the world's own term for the bytes: nothing is compared byte by byte -/
theorem code_word {y : MethodName} {bytes : ByteArray} {mx : Nat} {rt : Option FieldType} {a : Array Value} {s : State} {m : MethodId} {meth : Method} {c : Code} (h1 : s.methodNamed? y = some m) (h2 : s.vm.method? m = some meth) (h3 : meth.code = some c) (h4 : c.code = bytes)
    (h5 : (c.maxLocals == mx && c.exceptionTable.isEmpty && decide (c.maxStack ≤ mostOperands) && decide (meth.sig.returnType = rt) && !meth.locks && decide (parseMethodDescriptor y.desc = some meth.sig)) = true) : (Jvm.Cond.code y bytes mx rt).before a s = true := by
  simp only [Bool.and_eq_true, beq_iff_eq, Bool.not_eq_true', decide_eq_true_eq] at h5
  obtain ⟨⟨⟨⟨⟨g1, g2⟩, g3⟩, g4⟩, g5⟩, g6⟩ := h5
  simp [Cond.before, Cond.holds, Cond.value, h1, h2, h3, h4, g1, g2, g3, g4, g5, g6]
def isCode : Jvm.Cond → Bool
  | .code _ _ _ _ => true
  | _ => false
theorem all_split {L : List Jvm.Cond} {P : Jvm.Cond → Bool} (h1 : L.all (fun c => isCode c || P c) = true) (h2 : ∀ c ∈ L.filter isCode, P c = true) : L.all P = true := by
  refine List.all_eq_true.mpr fun c hc => ?_
  have h := List.all_eq_true.mp h1 c hc
  rcases Bool.eq_false_or_eq_true (isCode c) with hi | hi
  · exact h2 c (List.mem_filter.mpr ⟨hc, hi⟩)
  · simpa [hi] using h
set_option maxRecDepth 65536 in
theorem w_c0 : (Jvm.Cond.code x code maxLocals ret).before args0 about1 = true := code_word (m := ⟨1, 2⟩) (meth := k1m2) (c := k1c2) (by decide +kernel) rfl rfl rfl (by decide +kernel)
set_option maxRecDepth 65536 in
theorem w_c1 : (Jvm.Cond.code ({ cls := "com/example/overbrim/overbrim/DemandRunAtPinLaw", name := "pick", desc := "(IIII)I" } : Jvm.MethodName) method_2_code (4 : Nat) (Option.some Jvm.ClassFile.FieldType.int)).before args0 about1 = true := code_word (m := ⟨1, 1⟩) (meth := k1m1) (c := k1c1) (by decide +kernel) rfl rfl rfl (by decide +kernel)
set_option maxRecDepth 65536 in
theorem w_c2 : (Jvm.Cond.code ({ cls := "com/example/overbrim/overbrim/Demand", name := "<init>", desc := "([I)V" } : Jvm.MethodName) prog_2_method_1_code (5 : Nat) (Option.none : Option Jvm.ClassFile.FieldType)).before args0 about1 = true := code_word (m := ⟨2, 0⟩) (meth := k2m0) (c := k2c0) (by decide +kernel) rfl rfl rfl (by decide +kernel)
set_option maxRecDepth 65536 in
theorem w_c3 : (Jvm.Cond.code ({ cls := "java/lang/Object", name := "<init>", desc := "()V" } : Jvm.MethodName) object_method_1_code (1 : Nat) (Option.none : Option Jvm.ClassFile.FieldType)).before args0 about1 = true := code_word (m := ⟨0, 0⟩) (meth := k0m0) (c := k0c0) (by decide +kernel) rfl rfl rfl (by decide +kernel)
set_option maxRecDepth 65536 in
theorem w_c4 : (Jvm.Cond.code ({ cls := "com/example/overbrim/overbrim/Demand", name := "sums", desc := "([J[J)[J" } : Jvm.MethodName) prog_2_method_3_code (4 : Nat) (Option.some (Jvm.ClassFile.FieldType.array Jvm.ClassFile.FieldType.long))).before args0 about1 = true := code_word (m := ⟨2, 1⟩) (meth := k2m1) (c := k2c1) (by decide +kernel) rfl rfl rfl (by decide +kernel)
set_option maxRecDepth 65536 in
theorem w_c5 : (Jvm.Cond.code ({ cls := "com/example/overbrim/overbrim/Demand", name := "runAt", desc := "(J)I" } : Jvm.MethodName) prog_2_method_11_code (4 : Nat) (Option.some Jvm.ClassFile.FieldType.int)).before args0 about1 = true := code_word (m := ⟨2, 2⟩) (meth := k2m2) (c := k2c2) (by decide +kernel) rfl rfl rfl (by decide +kernel)
set_option maxRecDepth 65536 in
theorem w_c6 : (Jvm.Cond.code ({ cls := "java/util/Arrays", name := "binarySearch", desc := "([JJ)I" } : Jvm.MethodName) jdk_65_method_54_code (3 : Nat) (Option.some Jvm.ClassFile.FieldType.int)).before args0 about1 = true := code_word (m := ⟨3, 1⟩) (meth := k3m1) (c := k3c1) (by decide +kernel) rfl rfl rfl (by decide +kernel)
set_option maxRecDepth 65536 in
theorem w_c7 : (Jvm.Cond.code ({ cls := "java/util/Arrays", name := "binarySearch0", desc := "([JIIJ)I" } : Jvm.MethodName) jdk_65_method_56_code (10 : Nat) (Option.some Jvm.ClassFile.FieldType.int)).before args0 about1 = true := code_word (m := ⟨3, 2⟩) (meth := k3m2) (c := k3c2) (by decide +kernel) rfl rfl rfl (by decide +kernel)
def codes1 : List Jvm.Cond := [Jvm.Cond.code x code maxLocals ret, Jvm.Cond.code ({ cls := "com/example/overbrim/overbrim/DemandRunAtPinLaw", name := "pick", desc := "(IIII)I" } : Jvm.MethodName) method_2_code (4 : Nat) (Option.some Jvm.ClassFile.FieldType.int), Jvm.Cond.code ({ cls := "com/example/overbrim/overbrim/Demand", name := "<init>", desc := "([I)V" } : Jvm.MethodName) prog_2_method_1_code (5 : Nat) (Option.none : Option Jvm.ClassFile.FieldType), Jvm.Cond.code ({ cls := "java/lang/Object", name := "<init>", desc := "()V" } : Jvm.MethodName) object_method_1_code (1 : Nat) (Option.none : Option Jvm.ClassFile.FieldType), Jvm.Cond.code ({ cls := "com/example/overbrim/overbrim/Demand", name := "sums", desc := "([J[J)[J" } : Jvm.MethodName) prog_2_method_3_code (4 : Nat) (Option.some (Jvm.ClassFile.FieldType.array Jvm.ClassFile.FieldType.long)), Jvm.Cond.code ({ cls := "com/example/overbrim/overbrim/Demand", name := "runAt", desc := "(J)I" } : Jvm.MethodName) prog_2_method_11_code (4 : Nat) (Option.some Jvm.ClassFile.FieldType.int), Jvm.Cond.code ({ cls := "java/util/Arrays", name := "binarySearch", desc := "([JJ)I" } : Jvm.MethodName) jdk_65_method_54_code (3 : Nat) (Option.some Jvm.ClassFile.FieldType.int), Jvm.Cond.code ({ cls := "java/util/Arrays", name := "binarySearch0", desc := "([JIIJ)I" } : Jvm.MethodName) jdk_65_method_56_code (10 : Nat) (Option.some Jvm.ClassFile.FieldType.int)]
set_option maxRecDepth 65536 in
theorem codes_eq : words1.filter isCode = codes1 := rfl
theorem w_codes : ∀ c ∈ words1.filter isCode, c.before args0 about1 = true := by
  rw [codes_eq]
  intro c hc
  simp only [codes1, List.mem_cons, List.not_mem_nil, or_false] at hc
  rcases hc with rfl | rfl | rfl | rfl | rfl | rfl | rfl | rfl
  · exact w_c0
  · exact w_c1
  · exact w_c2
  · exact w_c3
  · exact w_c4
  · exact w_c5
  · exact w_c6
  · exact w_c7
set_option maxRecDepth 65536 in
theorem w_t1 : (words1.take 24).all (fun c => isCode c || c.before args0 about1) = true := by decide +kernel
set_option maxRecDepth 65536 in
theorem w_t2 : (words1.drop 24).all (fun c => isCode c || c.before args0 about1) = true := by decide +kernel
theorem w_tables : (allAtoms (Jvm.Cond.code x code maxLocals ret :: tables_1)).before args0 about1 = true := by
  rw [allAtoms_all]
  show words1.all (fun c => c.before args0 about1) = true
  refine all_split ?_ w_codes
  rw [← List.take_append_drop 24 words1, List.all_append, w_t1, w_t2]
  rfl
set_option maxRecDepth 65536 in
theorem w_case : (Jvm.Cond.and given_1 narrow_1).before args0 about1 = true := by decide +kernel
theorem w_applies : (headSpec (Jvm.Cond.code x code maxLocals ret :: tables_1) room_1).applies x e0.platform about1 = true :=
  (Spec.applies_iff w_frames).mpr ⟨w_running, w_runnable, w_alone, w_named, w_hears, w_ripe, w_room, w_tables⟩
theorem atStart : AtStart classFile x code maxLocals ret World_1 tables_1 room_1 Calls_1 rest_1 Pre_1 launch0 p0 e0 about1 theMethod args0 below0 :=
  ⟨lists_1, trivial, launch0.admits_env _ _ _, launch0.least_env, fairChoices_fair.cas, fairChoices_fair.clock, w_frames, w_args, w_heap, w_applies, trivial, trivial, w_case⟩
end start1
theorem witness_1 : WitnessClaimed_1 := ⟨start1.p0, start1.e0, start1.about1, start1.theMethod, start1.args0, start1.below0, start1.atStart⟩
end Jvm.Pilot.@@N@@
