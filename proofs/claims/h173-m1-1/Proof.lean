import JvmDerived
import JvmDerived.Pilot.@@N@@Statement
import JvmDerived.Pilot.@@N@@Code
set_option linter.unusedVariables false
set_option linter.unusedSimpArgs false
namespace Jvm.Pilot.@@N@@
open Jvm Jvm.ClassFile Sem Op Lib Jvm.Free Jvm.Stand Jvm.LawKit Jvm.RoadKit Bundle Jvm.Pilot.@@N@@.Jvm.D
abbrev OTr := List (Nat × Instr × Nat)
abbrev OR := Option (Prop × Nat × Array Slot × List Value)
/-- place j of the array at a holds v -/
def Rd (Z : State) (h : Heap) (a : Addr) (ty : FieldType) (j : Int32) (v : Value) : Prop := ∃ c, Arr Z h a c ty ∧ ¬ (j < 0 ∨ c.slots.size ≤ j.toNatClampNeg) ∧ c.slots[j.toNatClampNeg]? = some v
/-- the array at a has n places -/
def Ln (Z : State) (h : Heap) (a : Addr) (n : Int32) : Prop := ∃ c ty, Arr Z h a c ty ∧ c.slots.size.toInt32 = n
def okB (b : ByteArray) (t : OTr) : Bool := t.all fun x => decide (decode b x.1 = .ok (x.2.1, x.2.2))
def cII : ClassFile.Cond → Bool → Int32 → Int32 → Prop
  | .eq, true, x, y => x = y
  | .eq, false, x, y => ¬ x = y
  | .ne, true, x, y => ¬ x = y
  | .ne, false, x, y => x = y
  | .lt, true, x, y => x < y
  | .lt, false, x, y => ¬ x < y
  | .ge, true, x, y => ¬ x < y
  | .ge, false, x, y => x < y
  | .gt, true, x, y => y < x
  | .gt, false, x, y => ¬ y < x
  | .le, true, x, y => ¬ y < x
  | .le, false, x, y => y < x
def cAA : ClassFile.ACond → Bool → Value → Value → Prop
  | .eq, true, x, y => x = y
  | .eq, false, x, y => ¬ x = y
  | .ne, true, x, y => ¬ x = y
  | .ne, false, x, y => x = y
def oAnd (c : Prop) (r : OR) : OR := match r with | some (P, x) => some (c ∧ P, x) | none => none
def oLdI (L : Array Slot) (x : Nat) (f : Value → OR) : OR := match L[x]? with | some (.val (.int v)) => f (.int v) | _ => none
def oLdI' (L : Array Slot) (x : Nat) (f : Int32 → OR) : OR := match L[x]? with | some (.val (.int v)) => f v | _ => none
def oLdJ (L : Array Slot) (x : Nat) (f : Value → OR) : OR := match L[x]? with | some (.val (.long v)) => f (.long v) | _ => none
def oLdA (L : Array Slot) (x : Nat) (f : Value → OR) : OR := match L[x]? with | some (.val (.ref v)) => f (.ref v) | some (.val .null) => f .null | _ => none
def oSt (L : Array Slot) (x : Nat) (v : Value) (f : Array Slot → OR) : OR := match storeLocals L x v with | some L' => f L' | none => none
def oI (S : List Value) (f : Int32 → List Value → OR) : OR := match S with | .int v :: r => f v r | _ => none
def oJ (S : List Value) (f : Int64 → List Value → OR) : OR := match S with | .long v :: r => f v r | _ => none
def oR (S : List Value) (f : Addr → List Value → OR) : OR := match S with | .ref v :: r => f v r | _ => none
def oA (S : List Value) (f : Value → List Value → OR) : OR := match S with | .ref v :: r => f (.ref v) r | .null :: r => f .null r | _ => none
def oNul (S : List Value) (f : List Value → OR) (g : Addr → List Value → OR) : OR := match S with | .null :: r => f r | .ref v :: r => g v r | _ => none
def o1 (S : List Value) (f : Value → List Value → OR) : OR := match S with | .ref v :: r => f (.ref v) r | .null :: r => f .null r | .int v :: r => f (.int v) r | _ => none
def oD2 (S : List Value) (f : Int64 → List Value → OR) (g : Value → Value → List Value → OR) : OR := match S with | .long v :: r => f v r | S => o1 S fun v r => o1 r fun w r' => g v w r'
def oII (S : List Value) (f : Int32 → Int32 → List Value → OR) : OR := match S with | .int y :: .int x :: r => f x y r | _ => none
def oJJ (S : List Value) (f : Int64 → Int64 → List Value → OR) : OR := match S with | .long y :: .long x :: r => f x y r | _ => none
def oJI (S : List Value) (f : Int64 → Int32 → List Value → OR) : OR := match S with | .int y :: .long x :: r => f x y r | _ => none
def oIR (S : List Value) (f : Int32 → Addr → List Value → OR) : OR := match S with | .int y :: .ref x :: r => f y x r | _ => none
def oB (o : List Value) (f g : List Value → OR) : OR := match o with | .ref _ :: o' => f o' | .null :: o' => g o' | _ => none
def oV (o : List Value) (f : Value → List Value → OR) : OR := match o with | v :: o' => f v o' | _ => none
def oN (o : List Value) (f : Int32 → List Value → OR) : OR := match o with | .int v :: o' => f v o' | _ => none
def oM (o : List Value) (f : Int64 → List Value → OR) : OR := match o with | .long v :: o' => f v o' | _ => none
def oTo (pc : Nat) (d : Int) (f : Nat → OR) : OR := bif decide (0 ≤ (pc : Int) + d) then f ((pc : Int) + d).toNat else none
def ost (Z : State) (h : Heap) (a0 : Array Value) (own : String) (i : Instr) (n pc : Nat) (L : Array Slot) (S : List Value) (o : List Value) (k : Nat → Array Slot → List Value → List Value → OR) : OR :=
  match i with
  | .iload x => bif Nat.beq n 2 then oLdI L x fun v => k (pc + 2) L (v :: S) o else none
  | .iload_n x => bif Nat.beq n 1 then oLdI L x.val fun v => k (pc + 1) L (v :: S) o else none
  | .lload x => bif Nat.beq n 2 then oLdJ L x fun v => k (pc + 2) L (v :: S) o else none
  | .lload_n x => bif Nat.beq n 1 then oLdJ L x.val fun v => k (pc + 1) L (v :: S) o else none
  | .aload x => bif Nat.beq n 2 then oLdA L x fun v => k (pc + 2) L (v :: S) o else none
  | .aload_n x => bif Nat.beq n 1 then oLdA L x.val fun v => k (pc + 1) L (v :: S) o else none
  | .istore x => bif Nat.beq n 2 then oI S fun v r => oSt L x (.int v) fun L' => k (pc + 2) L' r o else none
  | .istore_n x => bif Nat.beq n 1 then oI S fun v r => oSt L x.val (.int v) fun L' => k (pc + 1) L' r o else none
  | .lstore x => bif Nat.beq n 2 then oJ S fun v r => oSt L x (.long v) fun L' => k (pc + 2) L' r o else none
  | .lstore_n x => bif Nat.beq n 1 then oJ S fun v r => oSt L x.val (.long v) fun L' => k (pc + 1) L' r o else none
  | .astore x => bif Nat.beq n 2 then oA S fun v r => oSt L x (v) fun L' => k (pc + 2) L' r o else none
  | .astore_n x => bif Nat.beq n 1 then oA S fun v r => oSt L x.val (v) fun L' => k (pc + 1) L' r o else none
  | .iconst i => bif Nat.beq n 1 then k (pc + 1) L (.int (Int32.ofInt i) :: S) o else none
  | .bipush i => bif Nat.beq n 2 then k (pc + 2) L (.int (Int8.ofInt i).toInt32 :: S) o else none
  | .sipush i => bif Nat.beq n 3 then k (pc + 3) L (.int (Int16.ofInt i).toInt32 :: S) o else none
  | .lconst i => bif Nat.beq n 1 then k (pc + 1) L (.long (Int64.ofNat i) :: S) o else none
  | .aconst_null => bif Nat.beq n 1 then k (pc + 1) L (.null :: S) o else none
  | .iadd => bif Nat.beq n 1 then oII S fun x y r => k (pc + 1) L (.int (x + y) :: r) o else none
  | .isub => bif Nat.beq n 1 then oII S fun x y r => k (pc + 1) L (.int (x - y) :: r) o else none
  | .imul => bif Nat.beq n 1 then oII S fun x y r => k (pc + 1) L (.int (x * y) :: r) o else none
  | .iand => bif Nat.beq n 1 then oII S fun x y r => k (pc + 1) L (.int (x &&& y) :: r) o else none
  | .ior => bif Nat.beq n 1 then oII S fun x y r => k (pc + 1) L (.int (x ||| y) :: r) o else none
  | .ixor => bif Nat.beq n 1 then oII S fun x y r => k (pc + 1) L (.int (x ^^^ y) :: r) o else none
  | .ishl => bif Nat.beq n 1 then oII S fun x y r => k (pc + 1) L (.int (x <<< (y &&& 31)) :: r) o else none
  | .ishr => bif Nat.beq n 1 then oII S fun x y r => k (pc + 1) L (.int (x >>> (y &&& 31)) :: r) o else none
  | .iushr => bif Nat.beq n 1 then oII S fun x y r => k (pc + 1) L (.int (XT.ushr x y) :: r) o else none
  | .idiv => bif Nat.beq n 1 then oII S fun x y r => oAnd (y ≠ 0) (k (pc + 1) L (.int (x / y) :: r) o) else none
  | .irem => bif Nat.beq n 1 then oII S fun x y r => oAnd (y ≠ 0) (k (pc + 1) L (.int (x % y) :: r) o) else none
  | .ladd => bif Nat.beq n 1 then oJJ S fun x y r => k (pc + 1) L (.long (x + y) :: r) o else none
  | .lsub => bif Nat.beq n 1 then oJJ S fun x y r => k (pc + 1) L (.long (x - y) :: r) o else none
  | .lmul => bif Nat.beq n 1 then oJJ S fun x y r => k (pc + 1) L (.long (x * y) :: r) o else none
  | .land => bif Nat.beq n 1 then oJJ S fun x y r => k (pc + 1) L (.long (x &&& y) :: r) o else none
  | .lor => bif Nat.beq n 1 then oJJ S fun x y r => k (pc + 1) L (.long (x ||| y) :: r) o else none
  | .lxor => bif Nat.beq n 1 then oJJ S fun x y r => k (pc + 1) L (.long (x ^^^ y) :: r) o else none
  | .lcmp => bif Nat.beq n 1 then oJJ S fun x y r => k (pc + 1) L (.int (XT.cmpL x y) :: r) o else none
  | .ldiv => bif Nat.beq n 1 then oJJ S fun x y r => oAnd (y ≠ 0) (k (pc + 1) L (.long (x / y) :: r) o) else none
  | .lrem => bif Nat.beq n 1 then oJJ S fun x y r => oAnd (y ≠ 0) (k (pc + 1) L (.long (x % y) :: r) o) else none
  | .lshl => bif Nat.beq n 1 then oJI S fun x y r => k (pc + 1) L (.long (x <<< (y.toInt64 &&& 63)) :: r) o else none
  | .lshr => bif Nat.beq n 1 then oJI S fun x y r => k (pc + 1) L (.long (x >>> (y.toInt64 &&& 63)) :: r) o else none
  | .lushr => bif Nat.beq n 1 then oJI S fun x y r => k (pc + 1) L (.long (XT.ushrL x y) :: r) o else none
  | .ineg => bif Nat.beq n 1 then oI S fun v r => k (pc + 1) L (.int (-v) :: r) o else none
  | .i2l => bif Nat.beq n 1 then oI S fun v r => k (pc + 1) L (.long (v.toInt64) :: r) o else none
  | .i2b => bif Nat.beq n 1 then oI S fun v r => k (pc + 1) L (.int (v.toInt8.toInt32) :: r) o else none
  | .i2c => bif Nat.beq n 1 then oI S fun v r => k (pc + 1) L (.int (v.toUInt32.toUInt16.toUInt32.toInt32) :: r) o else none
  | .i2s => bif Nat.beq n 1 then oI S fun v r => k (pc + 1) L (.int (v.toInt16.toInt32) :: r) o else none
  | .lneg => bif Nat.beq n 1 then oJ S fun v r => k (pc + 1) L (.long (-v) :: r) o else none
  | .l2i => bif Nat.beq n 1 then oJ S fun v r => k (pc + 1) L (.int (v.toInt32) :: r) o else none
  | .dup => bif Nat.beq n 1 then o1 S fun v r => k (pc + 1) L (v :: v :: r) o else none
  | .pop => bif Nat.beq n 1 then o1 S fun v r => k (pc + 1) L r o else none
  | .dup_x1 => bif Nat.beq n 1 then o1 S fun v r => o1 r fun w r' => k (pc + 1) L (v :: w :: v :: r') o else none
  | .dup2 => bif Nat.beq n 1 then oD2 S (fun v r => k (pc + 1) L (.long v :: .long v :: r) o) fun v w r => k (pc + 1) L (v :: w :: v :: w :: r) o else none
  | .iinc x d => bif Nat.beq n 3 then oLdI' L x fun v => oSt L x (.int (v + Int32.ofInt d)) fun L' => k (pc + 3) L' S o else none
  | .goto d => bif Nat.beq n 3 then oTo pc d fun q => k q L S o else none
  | .ifCond cd d => bif Nat.beq n 3 then oI S fun v r => oB o (fun o' => oAnd (cII cd true v 0) (oTo pc d fun q => k q L r o')) fun o' => oAnd (cII cd false v 0) (k (pc + 3) L r o') else none
  | .if_icmp cd d => bif Nat.beq n 3 then oII S fun x y r => oB o (fun o' => oAnd (cII cd true x y) (oTo pc d fun q => k q L r o')) fun o' => oAnd (cII cd false x y) (k (pc + 3) L r o') else none
  | .ifnull d => bif Nat.beq n 3 then oNul S (fun r => oTo pc d fun q => k q L r o) fun b r => k (pc + 3) L r o else none
  | .ifnonnull d => bif Nat.beq n 3 then oNul S (fun r => k (pc + 3) L r o) fun b r => oTo pc d fun q => k q L r o else none
  | .if_acmp cd d => bif Nat.beq n 3 then oA S fun y r1 => oA r1 fun x r => oB o (fun o' => oAnd (cAA cd true x y) (oTo pc d fun q => k q L r o')) fun o' => oAnd (cAA cd false x y) (k (pc + 3) L r o') else none
  | .iaload => bif Nat.beq n 1 then oIR S fun j a r => oV o fun v o' => oAnd (Rd Z h a .int j v) (k (pc + 1) L (v :: r) o') else none
  | .laload => bif Nat.beq n 1 then oIR S fun j a r => oV o fun v o' => oAnd (Rd Z h a .long j v) (k (pc + 1) L (v :: r) o') else none
  | .caload => bif Nat.beq n 1 then oIR S fun j a r => oV o fun v o' => oAnd (Rd Z h a .char j v) (k (pc + 1) L (v :: r) o') else none
  | .baload => bif Nat.beq n 1 then oIR S fun j a r => oV o fun v o' => oAnd (Rd Z h a .byte j v) (k (pc + 1) L (v :: r) o') else none
  | .aaload => bif Nat.beq n 1 then oIR S fun j a r => oV o fun v o' => oAnd (∃ ty, ty.isReference = true ∧ Rd Z h a ty j v) (k (pc + 1) L (v :: r) o') else none
  | .arraylength => bif Nat.beq n 1 then oR S fun a r => oN o fun n o' => oAnd (Ln Z h a n) (k (pc + 1) L (.int n :: r) o') else none
  | .ldc i => bif Nat.beq n 2 then oN o fun v o' => oAnd ((Jvm.Cond.constant own i v).before a0 Z = true) (k (pc + 2) L (.int v :: S) o') else none
  | .ldc_w i => bif Nat.beq n 3 then oN o fun v o' => oAnd ((Jvm.Cond.constant own i v).before a0 Z = true) (k (pc + 3) L (.int v :: S) o') else none
  | .ldc2_w i => bif Nat.beq n 3 then oM o fun v o' => oAnd ((Jvm.Cond.constantLong own i v).before a0 Z = true) (k (pc + 3) L (.long v :: S) o') else none
  | _ => none
def orun (Z : State) (h : Heap) (a0 : Array Value) (own : String) : OTr → List Value → Nat → Array Slot → List Value → OR
  | [], _, pc, L, S => some (True, pc, L, S)
  | x :: t, o, pc, L, S => bif Nat.beq x.1 pc then ost Z h a0 own x.2.1 x.2.2 pc L S o fun pc L S o => orun Z h a0 own t o pc L S else none
section OwnLaws
variable {r : Prop × Nat × Array Slot × List Value}
theorem oAnd_ok {c : Prop} {q : OR} {P : Prop} {x : Nat × Array Slot × List Value} (h : oAnd c q = some (P, x)) (hP : P) : ∃ P', c ∧ P' ∧ q = some (P', x) := by
  unfold oAnd at h
  split at h
  · simp only [Option.some.injEq, Prod.mk.injEq] at h
    obtain ⟨rfl, rfl⟩ := h
    exact ⟨_, hP.1, hP.2, rfl⟩
  · cases h
theorem oLdI_ok {L : Array Slot} {x : Nat} {f : Value → OR} (h : oLdI L x f = some r) : ∃ v, L[x]? = some (.val (.int v)) ∧ f (.int v) = some r := by
  unfold oLdI at h
  split at h
  · exact ⟨_, by assumption, h⟩
  · cases h
theorem oLdI'_ok {L : Array Slot} {x : Nat} {f : Int32 → OR} (h : oLdI' L x f = some r) : ∃ v, L[x]? = some (.val (.int v)) ∧ f v = some r := by
  unfold oLdI' at h
  split at h
  · exact ⟨_, by assumption, h⟩
  · cases h
theorem oLdJ_ok {L : Array Slot} {x : Nat} {f : Value → OR} (h : oLdJ L x f = some r) : ∃ v, L[x]? = some (.val (.long v)) ∧ f (.long v) = some r := by
  unfold oLdJ at h
  split at h
  · exact ⟨_, by assumption, h⟩
  · cases h
theorem oLdA_ok {L : Array Slot} {x : Nat} {f : Value → OR} (h : oLdA L x f = some r) : ∃ v, L[x]? = some (.val v) ∧ v.isRef = true ∧ f v = some r := by
  unfold oLdA at h
  split at h
  · exact ⟨_, by assumption, rfl, h⟩
  · exact ⟨_, by assumption, rfl, h⟩
  · cases h
theorem oSt_ok {L : Array Slot} {x : Nat} {v : Value} {f : Array Slot → OR} (h : oSt L x v f = some r) : ∃ L', storeLocals L x v = some L' ∧ f L' = some r := by
  unfold oSt at h
  split at h
  · exact ⟨_, by assumption, h⟩
  · cases h
theorem oI_ok {S : List Value} {f : Int32 → List Value → OR} (h : oI S f = some r) : ∃ v q, S = .int v :: q ∧ f v q = some r := by
  unfold oI at h
  split at h
  · exact ⟨_, _, rfl, h⟩
  · cases h
theorem oJ_ok {S : List Value} {f : Int64 → List Value → OR} (h : oJ S f = some r) : ∃ v q, S = .long v :: q ∧ f v q = some r := by
  unfold oJ at h
  split at h
  · exact ⟨_, _, rfl, h⟩
  · cases h
theorem oR_ok {S : List Value} {f : Addr → List Value → OR} (h : oR S f = some r) : ∃ v q, S = .ref v :: q ∧ f v q = some r := by
  unfold oR at h
  split at h
  · exact ⟨_, _, rfl, h⟩
  · cases h
theorem oA_ok {S : List Value} {f : Value → List Value → OR} (h : oA S f = some r) : ∃ v q, S = v :: q ∧ v.isRef = true ∧ f v q = some r := by
  unfold oA at h
  split at h
  · exact ⟨_, _, rfl, rfl, h⟩
  · exact ⟨_, _, rfl, rfl, h⟩
  · cases h
theorem oNul_ok {S : List Value} {f : List Value → OR} {g : Addr → List Value → OR} (h : oNul S f g = some r) : (∃ q, S = .null :: q ∧ f q = some r) ∨ ∃ b q, S = .ref b :: q ∧ g b q = some r := by
  unfold oNul at h
  split at h
  · exact Or.inl ⟨_, rfl, h⟩
  · exact Or.inr ⟨_, _, rfl, h⟩
  · cases h
theorem o1_ok {S : List Value} {f : Value → List Value → OR} (h : o1 S f = some r) : ∃ v q, S = v :: q ∧ v.category = 1 ∧ f v q = some r := by
  unfold o1 at h
  split at h
  · exact ⟨_, _, rfl, rfl, h⟩
  · exact ⟨_, _, rfl, rfl, h⟩
  · exact ⟨_, _, rfl, rfl, h⟩
  · cases h
theorem oD2_ok {S : List Value} {f : Int64 → List Value → OR} {g : Value → Value → List Value → OR} (h : oD2 S f g = some r) : (∃ v q, S = .long v :: q ∧ f v q = some r) ∨ ∃ v w q, S = v :: w :: q ∧ v.category = 1 ∧ w.category = 1 ∧ g v w q = some r := by
  unfold oD2 at h
  split at h
  · exact Or.inl ⟨_, _, rfl, h⟩
  · obtain ⟨v, q, rfl, e1, e2⟩ := o1_ok h
    obtain ⟨w, q', rfl, e3, e4⟩ := o1_ok e2
    exact Or.inr ⟨_, _, _, rfl, e1, e3, e4⟩
theorem oII_ok {S : List Value} {f : Int32 → Int32 → List Value → OR} (h : oII S f = some r) : ∃ x y q, S = .int y :: .int x :: q ∧ f x y q = some r := by
  unfold oII at h
  split at h
  · exact ⟨_, _, _, rfl, h⟩
  · cases h
theorem oJJ_ok {S : List Value} {f : Int64 → Int64 → List Value → OR} (h : oJJ S f = some r) : ∃ x y q, S = .long y :: .long x :: q ∧ f x y q = some r := by
  unfold oJJ at h
  split at h
  · exact ⟨_, _, _, rfl, h⟩
  · cases h
theorem oJI_ok {S : List Value} {f : Int64 → Int32 → List Value → OR} (h : oJI S f = some r) : ∃ x y q, S = .int y :: .long x :: q ∧ f x y q = some r := by
  unfold oJI at h
  split at h
  · exact ⟨_, _, _, rfl, h⟩
  · cases h
theorem oIR_ok {S : List Value} {f : Int32 → Addr → List Value → OR} (h : oIR S f = some r) : ∃ y x q, S = .int y :: .ref x :: q ∧ f y x q = some r := by
  unfold oIR at h
  split at h
  · exact ⟨_, _, _, rfl, h⟩
  · cases h
theorem oB_ok {o : List Value} {f g : List Value → OR} (h : oB o f g = some r) : (∃ o', f o' = some r) ∨ ∃ o', g o' = some r := by
  unfold oB at h
  split at h
  · exact Or.inl ⟨_, h⟩
  · exact Or.inr ⟨_, h⟩
  · cases h
theorem oV_ok {o : List Value} {f : Value → List Value → OR} (h : oV o f = some r) : ∃ v o', f v o' = some r := by
  unfold oV at h
  split at h
  · exact ⟨_, _, h⟩
  · cases h
theorem oN_ok {o : List Value} {f : Int32 → List Value → OR} (h : oN o f = some r) : ∃ v o', f v o' = some r := by
  unfold oN at h
  split at h
  · exact ⟨_, _, h⟩
  · cases h
theorem oM_ok {o : List Value} {f : Int64 → List Value → OR} (h : oM o f = some r) : ∃ v o', f v o' = some r := by
  unfold oM at h
  split at h
  · exact ⟨_, _, h⟩
  · cases h
theorem oTo_ok {pc : Nat} {d : Int} {f : Nat → OR} (h : oTo pc d f = some r) : ∃ q, 0 ≤ (pc : Int) + d ∧ ((pc : Int) + d).toNat = q ∧ f q = some r := by
  unfold oTo at h
  by_cases q : 0 ≤ (pc : Int) + d
  · simp only [q, decide_true, cond_true] at h
    exact ⟨_, q, rfl, h⟩
  · simp [q] at h
theorem bif_ok {n n' : Nat} {q : OR} (h : (bif Nat.beq n n' then q else none) = some r) : n = n' ∧ q = some r := by
  cases hb : Nat.beq n n'
  · rw [hb] at h; cases h
  · rw [hb] at h; exact ⟨Nat.eq_of_beq_eq_true hb, h⟩
theorem cII_ok {cd : ClassFile.Cond} {b : Bool} {x y : Int32} (h : cII cd b x y) : if_icmp.holds cd x y = b := by
  cases cd <;> cases b <;> simp only [cII] at h <;> simp [if_icmp.holds, h] <;> first | done | exact Int32.not_lt.mp h | exact Int32.not_le.mpr h | exact h
theorem cI0_ok {cd : ClassFile.Cond} {b : Bool} {x : Int32} (h : cII cd b x 0) : ifCond.holds cd x = b := by
  cases cd <;> cases b <;> simp only [cII] at h <;> simp [ifCond.holds, h] <;> first | done | exact Int32.not_lt.mp h | exact Int32.not_le.mpr h | exact h
theorem cAA_ok {cd : ClassFile.ACond} {b : Bool} {x y : Value} (h : cAA cd b x y) : XT.acmp cd x y = b := by
  cases cd <;> cases b <;> simp only [cAA] at h <;> simp [XT.acmp, h]
theorem lrem_mod (x y : Int64) : x - (x / y) * y = x % y := by
  apply Int64.toInt_inj.mp
  have h1 := Int64.le_toInt (x % y)
  have h2 := Int64.toInt_lt (x % y)
  rw [Int64.toInt_sub, Int64.toInt_mul, Int64.toInt_div, Int.bmod_mul_bmod, Int.sub_bmod_bmod, Int.mul_comm (x.toInt.tdiv y.toInt), ← Int.tmod_def, ← Int64.toInt_mod]
  exact Int.bmod_eq_of_le_mul_two (by omega) (by omega)
end OwnLaws
section OwnRun
variable {p : Program} {l : Launch} {e : Env} {R : Room} {s : State} {m : MethodId} {args : Array Value} {below : List Frame} {meth : Method} {c : Code} {T : State} {locs : List Loc} {cells slots : Nat} {Z : State} {a0 : Array Value} {h : Heap} {own : String}
set_option maxHeartbeats 4000000 in
theorem ost_ok (X : Stand p l e R s m args below meth c T locs cells slots) (hx : p.tables.exec = Jvm.exec) (hZ : Z.Warmed39 s.vm) (hown : s.vm.findClass own = some m.cls) (eT : T.heap = h) {i : Instr} {n pc : Nat} {L : Array Slot} {S o : List Value} {k : Nat → Array Slot → List Value → List Value → OR} {P : Prop} {x' : Nat × Array Slot × List Value} {target : State}
    (hr : ost Z h a0 own i n pc L S o k = some (P, x')) (hP : P) (hd : decode c.code pc = .ok (i, n)) (kk : ∀ pc L S o P', k pc L S o = some (P', x') → P' → Steps p.tables e below (T.setTop (mkF m pc L S)) target) : Steps p.tables e below (T.setTop (mkF m pc L S)) target := by
  unfold ost at hr
  split at hr
  · obtain ⟨rfl, hq⟩ := bif_ok hr
    obtain ⟨v, e1, e3⟩ := oLdI_ok hq
    exact XS.iload X.here hx rfl hd e1 (kk _ _ _ _ _ e3 hP)
  · obtain ⟨rfl, hq⟩ := bif_ok hr
    obtain ⟨v, e1, e3⟩ := oLdI_ok hq
    exact XS.iloadN X.here hx rfl hd e1 (kk _ _ _ _ _ e3 hP)
  · obtain ⟨rfl, hq⟩ := bif_ok hr
    obtain ⟨v, e1, e3⟩ := oLdJ_ok hq
    exact XT.lload X.here hx rfl hd e1 (kk _ _ _ _ _ e3 hP)
  · obtain ⟨rfl, hq⟩ := bif_ok hr
    obtain ⟨v, e1, e3⟩ := oLdJ_ok hq
    exact XT.lloadN X.here hx rfl hd e1 (kk _ _ _ _ _ e3 hP)
  · obtain ⟨rfl, hq⟩ := bif_ok hr
    obtain ⟨v, e1, e2, e3⟩ := oLdA_ok hq
    exact XS.aload X.here hx rfl hd e1 e2 (kk _ _ _ _ _ e3 hP)
  · obtain ⟨rfl, hq⟩ := bif_ok hr
    obtain ⟨v, e1, e2, e3⟩ := oLdA_ok hq
    exact XS.aloadN X.here hx rfl hd e1 e2 (kk _ _ _ _ _ e3 hP)
  · obtain ⟨rfl, hq⟩ := bif_ok hr
    obtain ⟨v, r, rfl, e3⟩ := oI_ok hq
    obtain ⟨L', e4, e5⟩ := oSt_ok e3
    exact XS.istore X.here hx rfl hd rfl e4 (kk _ _ _ _ _ e5 hP)
  · obtain ⟨rfl, hq⟩ := bif_ok hr
    obtain ⟨v, r, rfl, e3⟩ := oI_ok hq
    obtain ⟨L', e4, e5⟩ := oSt_ok e3
    exact XS.istoreN X.here hx rfl hd rfl e4 (kk _ _ _ _ _ e5 hP)
  · obtain ⟨rfl, hq⟩ := bif_ok hr
    obtain ⟨v, r, rfl, e3⟩ := oJ_ok hq
    obtain ⟨L', e4, e5⟩ := oSt_ok e3
    exact XT.lstore X.here hx rfl hd rfl e4 (kk _ _ _ _ _ e5 hP)
  · obtain ⟨rfl, hq⟩ := bif_ok hr
    obtain ⟨v, r, rfl, e3⟩ := oJ_ok hq
    obtain ⟨L', e4, e5⟩ := oSt_ok e3
    exact XT.lstoreN X.here hx rfl hd rfl e4 (kk _ _ _ _ _ e5 hP)
  · obtain ⟨rfl, hq⟩ := bif_ok hr
    obtain ⟨v, r, rfl, e2, e3⟩ := oA_ok hq
    obtain ⟨L', e4, e5⟩ := oSt_ok e3
    exact XS.astore X.here hx rfl hd rfl e2 e4 (kk _ _ _ _ _ e5 hP)
  · obtain ⟨rfl, hq⟩ := bif_ok hr
    obtain ⟨v, r, rfl, e2, e3⟩ := oA_ok hq
    obtain ⟨L', e4, e5⟩ := oSt_ok e3
    exact XS.astoreN X.here hx rfl hd rfl e2 e4 (kk _ _ _ _ _ e5 hP)
  · obtain ⟨rfl, hq⟩ := bif_ok hr
    exact XS.iconst X.here hx rfl hd (kk _ _ _ _ _ hq hP)
  · obtain ⟨rfl, hq⟩ := bif_ok hr
    exact XS.bipush X.here hx rfl hd (kk _ _ _ _ _ hq hP)
  · obtain ⟨rfl, hq⟩ := bif_ok hr
    exact XS.sipush X.here hx rfl hd (kk _ _ _ _ _ hq hP)
  · obtain ⟨rfl, hq⟩ := bif_ok hr
    exact XT.lconst X.here hx rfl hd (kk _ _ _ _ _ hq hP)
  · obtain ⟨rfl, hq⟩ := bif_ok hr
    exact XS.aconstNull X.here hx rfl hd (kk _ _ _ _ _ hq hP)
  · obtain ⟨rfl, hq⟩ := bif_ok hr
    obtain ⟨x, y, r, rfl, e3⟩ := oII_ok hq
    exact XS.iadd X.here hx rfl hd rfl (kk _ _ _ _ _ e3 hP)
  · obtain ⟨rfl, hq⟩ := bif_ok hr
    obtain ⟨x, y, r, rfl, e3⟩ := oII_ok hq
    exact XS.isub X.here hx rfl hd rfl (kk _ _ _ _ _ e3 hP)
  · obtain ⟨rfl, hq⟩ := bif_ok hr
    obtain ⟨x, y, r, rfl, e3⟩ := oII_ok hq
    exact XS.imul X.here hx rfl hd rfl (kk _ _ _ _ _ e3 hP)
  · obtain ⟨rfl, hq⟩ := bif_ok hr
    obtain ⟨x, y, r, rfl, e3⟩ := oII_ok hq
    exact XS.iand X.here hx rfl hd rfl (kk _ _ _ _ _ e3 hP)
  · obtain ⟨rfl, hq⟩ := bif_ok hr
    obtain ⟨x, y, r, rfl, e3⟩ := oII_ok hq
    exact XT.ior X.here hx rfl hd rfl (kk _ _ _ _ _ e3 hP)
  · obtain ⟨rfl, hq⟩ := bif_ok hr
    obtain ⟨x, y, r, rfl, e3⟩ := oII_ok hq
    exact XT.ixor X.here hx rfl hd rfl (kk _ _ _ _ _ e3 hP)
  · obtain ⟨rfl, hq⟩ := bif_ok hr
    obtain ⟨x, y, r, rfl, e3⟩ := oII_ok hq
    exact XT.ishl X.here hx rfl hd rfl (kk _ _ _ _ _ e3 hP)
  · obtain ⟨rfl, hq⟩ := bif_ok hr
    obtain ⟨x, y, r, rfl, e3⟩ := oII_ok hq
    exact XT.ishr X.here hx rfl hd rfl (kk _ _ _ _ _ e3 hP)
  · obtain ⟨rfl, hq⟩ := bif_ok hr
    obtain ⟨x, y, r, rfl, e3⟩ := oII_ok hq
    exact XT.iushr X.here hx rfl hd rfl (kk _ _ _ _ _ e3 hP)
  · obtain ⟨rfl, hq⟩ := bif_ok hr
    obtain ⟨x, y, r, rfl, e3⟩ := oII_ok hq
    obtain ⟨P', h1, h2, e4⟩ := oAnd_ok e3 hP
    exact XS.idiv X.here hx rfl hd rfl h1 (kk _ _ _ _ _ e4 h2)
  · obtain ⟨rfl, hq⟩ := bif_ok hr
    obtain ⟨x, y, r, rfl, e3⟩ := oII_ok hq
    obtain ⟨P', h1, h2, e4⟩ := oAnd_ok e3 hP
    exact iremM X hx rfl hd rfl h1 (kk _ _ _ _ _ e4 h2)
  · obtain ⟨rfl, hq⟩ := bif_ok hr
    obtain ⟨x, y, r, rfl, e3⟩ := oJJ_ok hq
    exact XT.ladd X.here hx rfl hd rfl (kk _ _ _ _ _ e3 hP)
  · obtain ⟨rfl, hq⟩ := bif_ok hr
    obtain ⟨x, y, r, rfl, e3⟩ := oJJ_ok hq
    exact XT.lsub X.here hx rfl hd rfl (kk _ _ _ _ _ e3 hP)
  · obtain ⟨rfl, hq⟩ := bif_ok hr
    obtain ⟨x, y, r, rfl, e3⟩ := oJJ_ok hq
    exact XT.lmul X.here hx rfl hd rfl (kk _ _ _ _ _ e3 hP)
  · obtain ⟨rfl, hq⟩ := bif_ok hr
    obtain ⟨x, y, r, rfl, e3⟩ := oJJ_ok hq
    exact XT.land X.here hx rfl hd rfl (kk _ _ _ _ _ e3 hP)
  · obtain ⟨rfl, hq⟩ := bif_ok hr
    obtain ⟨x, y, r, rfl, e3⟩ := oJJ_ok hq
    exact XT.lor X.here hx rfl hd rfl (kk _ _ _ _ _ e3 hP)
  · obtain ⟨rfl, hq⟩ := bif_ok hr
    obtain ⟨x, y, r, rfl, e3⟩ := oJJ_ok hq
    exact XT.lxor X.here hx rfl hd rfl (kk _ _ _ _ _ e3 hP)
  · obtain ⟨rfl, hq⟩ := bif_ok hr
    obtain ⟨x, y, r, rfl, e3⟩ := oJJ_ok hq
    exact XT.lcmp X.here hx rfl hd rfl (kk _ _ _ _ _ e3 hP)
  · obtain ⟨rfl, hq⟩ := bif_ok hr
    obtain ⟨x, y, r, rfl, e3⟩ := oJJ_ok hq
    obtain ⟨P', h1, h2, e4⟩ := oAnd_ok e3 hP
    exact XT.ldiv X.here hx rfl hd rfl h1 (kk _ _ _ _ _ e4 h2)
  · obtain ⟨rfl, hq⟩ := bif_ok hr
    obtain ⟨x, y, r, rfl, e3⟩ := oJJ_ok hq
    obtain ⟨P', h1, h2, e4⟩ := oAnd_ok e3 hP
    exact XT.lrem X.here hx rfl hd rfl h1 (by rw [lrem_mod]; exact kk _ _ _ _ _ e4 h2)
  · obtain ⟨rfl, hq⟩ := bif_ok hr
    obtain ⟨x, y, r, rfl, e3⟩ := oJI_ok hq
    exact XT.lshl X.here hx rfl hd rfl (kk _ _ _ _ _ e3 hP)
  · obtain ⟨rfl, hq⟩ := bif_ok hr
    obtain ⟨x, y, r, rfl, e3⟩ := oJI_ok hq
    exact XT.lshr X.here hx rfl hd rfl (kk _ _ _ _ _ e3 hP)
  · obtain ⟨rfl, hq⟩ := bif_ok hr
    obtain ⟨x, y, r, rfl, e3⟩ := oJI_ok hq
    exact XT.lushr X.here hx rfl hd rfl (kk _ _ _ _ _ e3 hP)
  · obtain ⟨rfl, hq⟩ := bif_ok hr
    obtain ⟨v, r, rfl, e3⟩ := oI_ok hq
    exact XS.ineg X.here hx rfl hd rfl (kk _ _ _ _ _ e3 hP)
  · obtain ⟨rfl, hq⟩ := bif_ok hr
    obtain ⟨v, r, rfl, e3⟩ := oI_ok hq
    exact XT.i2l X.here hx rfl hd rfl (kk _ _ _ _ _ e3 hP)
  · obtain ⟨rfl, hq⟩ := bif_ok hr
    obtain ⟨v, r, rfl, e3⟩ := oI_ok hq
    exact XT.i2b X.here hx rfl hd rfl (kk _ _ _ _ _ e3 hP)
  · obtain ⟨rfl, hq⟩ := bif_ok hr
    obtain ⟨v, r, rfl, e3⟩ := oI_ok hq
    exact XT.i2c X.here hx rfl hd rfl (kk _ _ _ _ _ e3 hP)
  · obtain ⟨rfl, hq⟩ := bif_ok hr
    obtain ⟨v, r, rfl, e3⟩ := oI_ok hq
    exact XT.i2s X.here hx rfl hd rfl (kk _ _ _ _ _ e3 hP)
  · obtain ⟨rfl, hq⟩ := bif_ok hr
    obtain ⟨v, r, rfl, e3⟩ := oJ_ok hq
    exact XT.lneg X.here hx rfl hd rfl (kk _ _ _ _ _ e3 hP)
  · obtain ⟨rfl, hq⟩ := bif_ok hr
    obtain ⟨v, r, rfl, e3⟩ := oJ_ok hq
    exact XT.l2i X.here hx rfl hd rfl (kk _ _ _ _ _ e3 hP)
  · obtain ⟨rfl, hq⟩ := bif_ok hr
    obtain ⟨v, r, rfl, e2, e3⟩ := o1_ok hq
    exact XS.dup X.here hx rfl hd rfl e2 (kk _ _ _ _ _ e3 hP)
  · obtain ⟨rfl, hq⟩ := bif_ok hr
    obtain ⟨v, r, rfl, e2, e3⟩ := o1_ok hq
    exact XT.pop X.here hx rfl hd rfl e2 (kk _ _ _ _ _ e3 hP)
  · obtain ⟨rfl, hq⟩ := bif_ok hr
    obtain ⟨v, r, rfl, e2, e3⟩ := o1_ok hq
    obtain ⟨w, r', rfl, e4, e5⟩ := o1_ok e3
    exact XT.dupX1 X.here hx rfl hd rfl e2 e4 (kk _ _ _ _ _ e5 hP)
  · obtain ⟨rfl, hq⟩ := bif_ok hr
    rcases oD2_ok hq with ⟨v, r, rfl, e3⟩ | ⟨v, w, r, rfl, e1, e2, e3⟩
    · exact XT.dup2L X.here hx rfl hd rfl (kk _ _ _ _ _ e3 hP)
    · exact XT.dup2 X.here hx rfl hd rfl e1 e2 (kk _ _ _ _ _ e3 hP)
  · obtain ⟨rfl, hq⟩ := bif_ok hr
    obtain ⟨v, e1, e3⟩ := oLdI'_ok hq
    obtain ⟨L', e4, e5⟩ := oSt_ok e3
    exact XS.iinc X.here hx rfl hd e1 e4 (kk _ _ _ _ _ e5 hP)
  · obtain ⟨rfl, hq⟩ := bif_ok hr
    obtain ⟨q, e1, e2, e3⟩ := oTo_ok hq
    exact XS.goto X.here hx rfl rfl hd e1 e2 (kk _ _ _ _ _ e3 hP)
  · obtain ⟨rfl, hq⟩ := bif_ok hr
    obtain ⟨v, r, rfl, e3⟩ := oI_ok hq
    rcases oB_ok e3 with ⟨o', e4⟩ | ⟨o', e4⟩
    · obtain ⟨P', h1, h2, e5⟩ := oAnd_ok e4 hP
      obtain ⟨q, e6, e7, e8⟩ := oTo_ok e5
      exact XS.ifYes X.here hx rfl rfl hd rfl (cI0_ok h1) e6 e7 (kk _ _ _ _ _ e8 h2)
    · obtain ⟨P', h1, h2, e5⟩ := oAnd_ok e4 hP
      exact XS.ifNo X.here hx rfl hd rfl (cI0_ok h1) (kk _ _ _ _ _ e5 h2)
  · obtain ⟨rfl, hq⟩ := bif_ok hr
    obtain ⟨x, y, r, rfl, e3⟩ := oII_ok hq
    rcases oB_ok e3 with ⟨o', e4⟩ | ⟨o', e4⟩
    · obtain ⟨P', h1, h2, e5⟩ := oAnd_ok e4 hP
      obtain ⟨q, e6, e7, e8⟩ := oTo_ok e5
      exact XS.icmpYes X.here hx rfl rfl hd rfl (cII_ok h1) e6 e7 (kk _ _ _ _ _ e8 h2)
    · obtain ⟨P', h1, h2, e5⟩ := oAnd_ok e4 hP
      exact XS.icmpNo X.here hx rfl hd rfl (cII_ok h1) (kk _ _ _ _ _ e5 h2)
  · obtain ⟨rfl, hq⟩ := bif_ok hr
    rcases oNul_ok hq with ⟨r, rfl, e3⟩ | ⟨b, r, rfl, e3⟩
    · obtain ⟨q, e6, e7, e8⟩ := oTo_ok e3
      exact XS.ifnullYes X.here hx rfl rfl hd rfl e6 e7 (kk _ _ _ _ _ e8 hP)
    · exact XS.ifnullNo X.here hx rfl hd rfl (kk _ _ _ _ _ e3 hP)
  · obtain ⟨rfl, hq⟩ := bif_ok hr
    rcases oNul_ok hq with ⟨r, rfl, e3⟩ | ⟨b, r, rfl, e3⟩
    · exact XT.ifnonnullNo X.here hx rfl hd rfl (kk _ _ _ _ _ e3 hP)
    · obtain ⟨q, e6, e7, e8⟩ := oTo_ok e3
      exact XT.ifnonnullYes X.here hx rfl rfl hd rfl e6 e7 (kk _ _ _ _ _ e8 hP)
  · obtain ⟨rfl, hq⟩ := bif_ok hr
    obtain ⟨y, r1, rfl, ey, e2⟩ := oA_ok hq
    obtain ⟨x, r, rfl, ex, e3⟩ := oA_ok e2
    rcases oB_ok e3 with ⟨o', e4⟩ | ⟨o', e4⟩
    · obtain ⟨P', h1, h2, e5⟩ := oAnd_ok e4 hP
      obtain ⟨q, e6, e7, e8⟩ := oTo_ok e5
      exact XT.acmpYes X.here hx rfl rfl hd rfl ex ey (cAA_ok h1) e6 e7 (kk _ _ _ _ _ e8 h2)
    · obtain ⟨P', h1, h2, e5⟩ := oAnd_ok e4 hP
      exact XT.acmpNo X.here hx rfl hd rfl ex ey (cAA_ok h1) (kk _ _ _ _ _ e5 h2)
  · obtain ⟨rfl, hq⟩ := bif_ok hr
    obtain ⟨j, a, r, rfl, e3⟩ := oIR_ok hq
    obtain ⟨v, o', e4⟩ := oV_ok e3
    obtain ⟨P', ⟨cl, h1, h3, h4⟩, h2, e5⟩ := oAnd_ok e4 hP
    exact X.iaload hx (by rw [eT]; exact h1.1) (State.isArrayOf_alike hZ.alike h1.2.1) h1.2.2 h3 h4 (g := mkF m pc L _) rfl rfl hd _ (kk _ _ _ _ _ e5 h2)
  · obtain ⟨rfl, hq⟩ := bif_ok hr
    obtain ⟨j, a, r, rfl, e3⟩ := oIR_ok hq
    obtain ⟨v, o', e4⟩ := oV_ok e3
    obtain ⟨P', ⟨cl, h1, h3, h4⟩, h2, e5⟩ := oAnd_ok e4 hP
    exact X.laload hx (by rw [eT]; exact h1.1) (State.isArrayOf_alike hZ.alike h1.2.1) h1.2.2 h3 h4 (g := mkF m pc L _) rfl rfl hd _ (kk _ _ _ _ _ e5 h2)
  · obtain ⟨rfl, hq⟩ := bif_ok hr
    obtain ⟨j, a, r, rfl, e3⟩ := oIR_ok hq
    obtain ⟨v, o', e4⟩ := oV_ok e3
    obtain ⟨P', ⟨cl, h1, h3, h4⟩, h2, e5⟩ := oAnd_ok e4 hP
    exact X.caload hx (by rw [eT]; exact h1.1) (State.isArrayOf_alike hZ.alike h1.2.1) h1.2.2 h3 h4 (g := mkF m pc L _) rfl rfl hd _ (kk _ _ _ _ _ e5 h2)
  · obtain ⟨rfl, hq⟩ := bif_ok hr
    obtain ⟨j, a, r, rfl, e3⟩ := oIR_ok hq
    obtain ⟨v, o', e4⟩ := oV_ok e3
    obtain ⟨P', ⟨cl, h1, h3, h4⟩, h2, e5⟩ := oAnd_ok e4 hP
    exact X.baloadBytes hx (by rw [eT]; exact h1.1) (State.isArrayOf_alike hZ.alike h1.2.1) h1.2.2 h3 h4 (g := mkF m pc L _) rfl rfl hd _ (kk _ _ _ _ _ e5 h2)
  · obtain ⟨rfl, hq⟩ := bif_ok hr
    obtain ⟨j, a, r, rfl, e3⟩ := oIR_ok hq
    obtain ⟨v, o', e4⟩ := oV_ok e3
    obtain ⟨P', ⟨ty, hty, cl, h1, h3, h4⟩, h2, e5⟩ := oAnd_ok e4 hP
    exact X.aaload hx (by rw [eT]; exact h1.1) (State.isArrayOf_alike hZ.alike h1.2.1) hty h1.2.2 h3 h4 (g := mkF m pc L _) rfl rfl hd _ (kk _ _ _ _ _ e5 h2)
  · obtain ⟨rfl, hq⟩ := bif_ok hr
    obtain ⟨a, r, rfl, e3⟩ := oR_ok hq
    obtain ⟨n, o', e4⟩ := oN_ok e3
    obtain ⟨P', ⟨cl, ty, h1, rfl⟩, h2, e5⟩ := oAnd_ok e4 hP
    exact X.arraylength hx (by rw [eT]; exact h1.1) (State.isArrayOf_alike hZ.alike h1.2.1) (g := mkF m pc L _) rfl rfl hd _ (kk _ _ _ _ _ e5 h2)
  · obtain ⟨rfl, hq⟩ := bif_ok hr
    obtain ⟨v, o', e4⟩ := oN_ok hq
    obtain ⟨P', h1, h2, e5⟩ := oAnd_ok e4 hP
    exact Stand.ldcI X hx hown (mvT hZ h1) rfl hd (kk _ _ _ _ _ e5 h2)
  · obtain ⟨rfl, hq⟩ := bif_ok hr
    obtain ⟨v, o', e4⟩ := oN_ok hq
    obtain ⟨P', h1, h2, e5⟩ := oAnd_ok e4 hP
    exact Stand.ldcWI X hx hown (mvT hZ h1) rfl hd (kk _ _ _ _ _ e5 h2)
  · obtain ⟨rfl, hq⟩ := bif_ok hr
    obtain ⟨v, o', e4⟩ := oM_ok hq
    obtain ⟨P', h1, h2, e5⟩ := oAnd_ok e4 hP
    exact Stand.ldc2J X hx hown (mvT hZ h1) rfl hd (kk _ _ _ _ _ e5 h2)
  · cases hr
theorem orun_ok (X : Stand p l e R s m args below meth c T locs cells slots) (hx : p.tables.exec = Jvm.exec) (hZ : Z.Warmed39 s.vm) (hown : s.vm.findClass own = some m.cls) (eT : T.heap = h) {b : ByteArray} (hby : c.code = b) {target : State} : ∀ (t : OTr) (o : List Value) (pc : Nat) (L : Array Slot) (S : List Value) (P : Prop) (pc' : Nat) (L' : Array Slot) (S' : List Value),
    okB b t = true → orun Z h a0 own t o pc L S = some (P, pc', L', S') → P → Steps p.tables e below (T.setTop (mkF m pc' L' S')) target → Steps p.tables e below (T.setTop (mkF m pc L S)) target
  | [], o, pc, L, S, P, pc', L', S', _, hr, _, hs => by
    simp only [orun, Option.some.injEq, Prod.mk.injEq] at hr
    obtain ⟨-, rfl, rfl, rfl⟩ := hr
    exact hs
  | y :: t, o, pc, L, S, P, pc', L', S', hok, hr, hP, hs => by
    simp only [okB, List.all_cons, Bool.and_eq_true, decide_eq_true_eq] at hok
    obtain ⟨h1, h2⟩ := bif_ok hr
    subst h1
    exact ost_ok X hx hZ hown eT h2 hP (hb hby hok.1) fun pc L S o P' q hP' => orun_ok X hx hZ hown eT hby t o pc L S P' pc' L' S' hok.2 q hP' hs
end OwnRun
theorem nb1 : nar .boolean (1 : Int32) = 1 := by decide
theorem nb0 : nar .boolean (0 : Int32) = 0 := by decide
theorem sb1 : some (Value.int (nar .boolean (1 : Int32))) = some (.int 1) := by rw [nb1]
theorem sb0 : some (Value.int (nar .boolean (0 : Int32))) = some (.int 0) := by rw [nb0]
section OwnGo
/-- where the run stands (the narrow frame): its heap is h; what was written lies in new cells -/
def Nw (Z : State) (n0 : Nat) (h : Heap) (p : Program) (l : Launch) (e : Env) (R : Room) (s : State) (m : MethodId) (args : Array Value) (below : List Frame) (meth : Method) (c : Code) (T : State) (cells slots : Nat) : Prop :=
  ∃ locs, Stand p l e R s m args below meth c T locs cells slots ∧ T.heap = h ∧ Fr n0 locs ∧ n0 ≤ h.size ∧ Z.Warmed39 s.vm
def Cx (Z : State) (own : String) (b : ByteArray) (ml : Nat) (p : Program) (m : MethodId) (c : Code) : Prop := p.tables.exec = Jvm.exec ∧ Z.vm.findClass own = some m.cls ∧ c.code = b ∧ c.maxLocals = ml
def Ld (p : Program) (e : Env) (below : List Frame) (T : State) (g : JFrame) (T' : State) (g' : JFrame) : Prop := ∀ target, Steps p.tables e below (T'.setTop g') target → Steps p.tables e below (T.setTop g) target
/-- the frame returns v -/
def Fn (p : Program) (e : Env) (below : List Frame) (m : MethodId) (T : State) (g : JFrame) (v : Option Value) : Prop :=
  ∀ fs : List Frame, (∀ (f : JFrame) (acts : List Action), f.method = m → f.locked = none → f.entered = [] → (doReturn e (T.setTop f) acts v).1 = T.setFrames fs) → Steps p.tables e below (T.setTop g) (T.setFrames fs)
variable {p : Program} {l : Launch} {e : Env} {R : Room} {s : State} {m : MethodId} {args : Array Value} {below : List Frame} {meth : Method} {c : Code} {T T1 T2 : State} {cells slots : Nat} {Z : State} {a0 : Array Value} {h h1 h2 : Heap} {own : String} {n0 : Nat} {b : ByteArray} {ml : Nat} {g g1 g2 : JFrame}
theorem Ld.refl : Ld p e below T g T g := fun _ k => k
theorem Ld.trans (A : Ld p e below T g T1 g1) (B : Ld p e below T1 g1 T2 g2) : Ld p e below T g T2 g2 := fun t k => A t (B t k)
theorem Ld.cast {g' : JFrame} (A : Ld p e below T g T1 g1) (q : g1 = g') : Ld p e below T g T1 g' := q ▸ A
theorem Nw.size (N : Nw Z n0 h p l e R s m args below meth c T cells slots) : n0 ≤ h.size := by obtain ⟨_, _, _, _, q, _⟩ := N; exact q
theorem Nw.mono {cells' slots' : Nat} (N : Nw Z n0 h p l e R s m args below meth c T cells slots) (q1 : cells ≤ cells') (q2 : slots ≤ slots') : Nw Z n0 h p l e R s m args below meth c T cells' slots' := by
  obtain ⟨L, X, r⟩ := N; exact ⟨L, X.mono q1 q2, r⟩
theorem Nw.old (N : Nw Z n0 h p l e R s m args below meth c T cells slots) (O : Old Z n0 s.heap) : Old Z n0 h := by
  obtain ⟨locs, X, eT, F, q, hZ⟩ := N
  subst eT
  obtain ⟨-, s2, -, -, -, s6⟩ := X.same
  refine ⟨O.1, Nat.le_trans O.2.1 s2, fun a c hc => ?_⟩
  obtain ⟨c', h1, h2, h3, h4⟩ := s6 a c (O.2.2 a c hc)
  have ha : a < n0 := O.1 ▸ (Array.getElem?_eq_some_iff.mp hc).1
  have e : c'.slots = c.slots := Array.ext_getElem? fun i => h4 i fun q => absurd (F _ q) (Nat.not_le.mpr ha)
  rw [e] at h2
  exact h1.trans (by rw [h2])
theorem cx_own (K : Cx Z own b ml p m c) (hZ : Z.Warmed39 s.vm) : s.vm.findClass own = some m.cls := by rw [hZ.alike.findClass]; exact K.2.1
theorem goRun (K : Cx Z own b ml p m c) (N : Nw Z n0 h p l e R s m args below meth c T cells slots) (a0 : Array Value) (t : OTr) (o : List Value) {pc : Nat} {L : Array Slot} {S : List Value} {P : Prop} {pc' : Nat} {L' : Array Slot} {S' : List Value}
    (ok : okB b t = true) (hr : orun Z h a0 own t o pc L S = some (P, pc', L', S')) (hP : P) : Ld p e below T (mkF m pc L S) T (mkF m pc' L' S') := fun _ k => by
  obtain ⟨_, X, eT, _, _, hZ⟩ := N
  exact orun_ok X K.1 hZ (cx_own K hZ) eT K.2.2.1 t o pc L S P pc' L' S' ok hr hP k
theorem goNew (K : Cx Z own b ml p m c) (N : Nw Z n0 h p l e R s m args below meth c T cells slots) {C : String} {index n : Nat} (w : (Jvm.Cond.classLink own index C).before a0 Z = true) (wi : (Jvm.Cond.instantiable C n).before a0 Z = true) (wz : (Jvm.Cond.initialized C).before a0 Z = true)
    {pc : Nat} {L : Array Slot} {S : List Value} (hd : decode b pc = .ok (.new index, 3)) (hc : cells + 1 ≤ R.cells) (hl : slots + n ≤ R.slots) :
    ∃ T' h' a, a = h.size ∧ Nw Z n0 h' p l e R s m args below meth c T' (cells + 1) (slots + n) ∧ Ext h h' ∧ Exa Z h' a C ∧ (∀ {O nm d : String} {ty : FieldType}, Laid Z a0 C O nm d → parseFieldDescriptor d = some ty → Fld Z h' a O nm d (defaultValue ty)) ∧ Ld p e below T (mkF m pc L S) T' (mkF m (pc + 3) L (.ref a :: S)) := by
  obtain ⟨Lc, X, eT, F, q, hZ⟩ := N
  obtain ⟨T', h', X', e', E, A, D, -, st⟩ := newO X K.1 hZ (cx_own K hZ) w wi wz eT (g := mkF m pc L S) rfl (hb K.2.2.1 hd) hc hl
  exact ⟨T', h', _, rfl, ⟨Lc, X', e', F, Nat.le_trans q E.1, hZ⟩, E, A, D, st⟩
theorem goGet (K : Cx Z own b ml p m c) (N : Nw Z n0 h p l e R s m args below meth c T cells slots) {O n d : String} {index : Nat} (w : (Jvm.Cond.fieldLink own index O n d).before a0 Z = true) {a : Addr} {v : Value} (F : Fld Z h a O n d v)
    {pc : Nat} {L : Array Slot} {S : List Value} (hd : decode b pc = .ok (.getfield index, 3)) : ∃ T', Nw Z n0 h p l e R s m args below meth c T' cells slots ∧ Ld p e below T (mkF m pc L (.ref a :: S)) T' (mkF m (pc + 3) L (v :: S)) := by
  obtain ⟨Lc, X, eT, r, q, hZ⟩ := N
  obtain ⟨T', X', e', st⟩ := getF X K.1 hZ (cx_own K hZ) (host := "") (Or.inl w) Via.refl eT F (g := mkF m pc L (.ref a :: S)) rfl rfl (hb K.2.2.1 hd)
  exact ⟨T', ⟨Lc, X', e', r, q, hZ⟩, st⟩
theorem goSta (K : Cx Z own b ml p m c) (N : Nw Z n0 h p l e R s m args below meth c T cells slots) {O n d : String} {index : Nat} (w : (Jvm.Cond.fieldLink own index O n d).before a0 Z = true) {v : Value} (F : Sta Z h O n d v)
    {pc : Nat} {L : Array Slot} {S : List Value} (hd : decode b pc = .ok (.getstatic index, 3)) : ∃ T', Nw Z n0 h p l e R s m args below meth c T' cells slots ∧ Ld p e below T (mkF m pc L S) T' (mkF m (pc + 3) L (v :: S)) := by
  obtain ⟨Lc, X, eT, r, q, hZ⟩ := N
  obtain ⟨T', X', e', st⟩ := getS (host := "") X K.1 hZ (cx_own K hZ) w Via.refl eT F (g := mkF m pc L S) rfl (hb K.2.2.1 hd)
  exact ⟨T', ⟨Lc, X', e', r, q, hZ⟩, st⟩
theorem goPut (K : Cx Z own b ml p m c) (N : Nw Z n0 h p l e R s m args below meth c T cells slots) {O n d C : String} {index kk : Nat} {ty : FieldType} (w : (Jvm.Cond.fieldLink own index O n d).before a0 Z = true) {a : Addr} {v old : Value} (F : Fld Z h a O n d old) (E : Exa Z h a C)
    (Ly : (Jvm.Cond.lays C O n d).before a0 Z = true ∨ ((Jvm.Cond.laysFinal C O n d).before a0 Z = true ∧ own = O ∧ meth.name = "<init>")) (wi : (Jvm.Cond.instantiable C kk).before a0 Z = true) (hty : parseFieldDescriptor d = some ty) (hn : narrow ty v = v) (hf : fits ty v = true) (ha : n0 ≤ a)
    {pc : Nat} {L : Array Slot} {S : List Value} (hd : decode b pc = .ok (.putfield index, 3)) :
    ∃ T' h', Nw Z n0 h' p l e R s m args below meth c T' cells slots ∧ Wr h h' a (Jvm.RoadKit.slotOf Z O n d) v ∧ Ld p e below T (mkF m pc L (v :: .ref a :: S)) T' (mkF m (pc + 3) L S) := by
  obtain ⟨Lc, X, eT, r, q, hZ⟩ := N
  obtain ⟨T', h', X', e', W, st⟩ := putF X K.1 hZ (cx_own K hZ) (host := "") (Or.inl w) Via.refl eT F E Ly wi hty hn hf (g := mkF m pc L (v :: .ref a :: S)) rfl rfl (hb K.2.2.1 hd)
  exact ⟨T', h', ⟨_, X', e', Fr.snoc X' r ha, by rw [W.size]; exact q, hZ⟩, W, st⟩
theorem goInit (K : Cx Z own b ml p m c) (N : Nw Z n0 h p l e R s m args below meth c T cells slots) {index : Nat} (w1 : (Jvm.Cond.methodLink own index ⟨"java/lang/Object", "<init>", "()V"⟩).before a0 Z = true) (w2 : (Jvm.Cond.instanceMethod ⟨"java/lang/Object", "<init>", "()V"⟩).before a0 Z = true) {ob : ByteArray} (w3 : (Jvm.Cond.code ⟨"java/lang/Object", "<init>", "()V"⟩ ob 1 none).before a0 Z = true) (ho : ob = ⟨#[0xb1]⟩)
    {a : Addr} {pc : Nat} {L : Array Slot} {S : List Value} (hsz : L.size = ml) (hd : decode b pc = .ok (.invokespecial index, 3)) (hf : 1 ≤ R.frames) {W : Nat} (hW : (S.map fun v => v.category).sum ≤ W) (hlo : W + 12 ≤ R.locals) :
    ∃ T', Nw Z n0 h p l e R s m args below meth c T' cells slots ∧ Ld p e below T (mkF m pc L (.ref a :: S)) T' (mkF m (pc + 3) L S) := by
  subst ho
  obtain ⟨Lc, X, eT, r, q, hZ⟩ := N
  obtain ⟨T', X', e', st⟩ := initO X K.1 hZ (cx_own K hZ) w1 w2 w3 eT (g := mkF m pc L (.ref a :: S)) rfl (by rw [K.2.2.2]; exact hsz) rfl (hb K.2.2.1 hd) hf (W := W) (by show 2 * 0 + _ ≤ _; omega) hlo
  exact ⟨T', ⟨Lc, X', e', r, q, hZ⟩, st⟩
theorem goNewP (K : Cx Z own b ml p m c) (N : Nw Z n0 h p l e R s m args below meth c T cells slots) {aty : ArrayType} (w : (Jvm.Cond.arrayClass (newarray.typeOf aty)).before a0 Z = true) {n : Int32} (hn : ¬ n < 0) {cap : Nat} (hcap : n.toNatClampNeg ≤ cap) (hbg : cap * 8 ≤ 536870912) (hc : cells + 1 ≤ R.cells) (hl : slots + cap ≤ R.slots)
    {pc : Nat} {L : Array Slot} {S : List Value} (hd : decode b pc = .ok (.newarray aty, 2)) :
    ∃ T' h' a cA, a = h.size ∧ Nw Z n0 h' p l e R s m args below meth c T' (cells + 1) (slots + cap) ∧ Ext h h' ∧ Arr Z h' a (newA cA (newarray.typeOf aty) n) (newarray.typeOf aty) ∧ Ld p e below T (mkF m pc L (.int n :: S)) T' (mkF m (pc + 2) L (.ref a :: S)) := by
  obtain ⟨Lc, X, eT, r, q, hZ⟩ := N
  obtain ⟨T', h', cA, X', e', E, A, st⟩ := newP X K.1 hZ w eT (g := mkF m pc L (.int n :: S)) rfl (hb K.2.2.1 hd) rfl hn hcap hbg hc hl
  exact ⟨T', h', _, cA, rfl, ⟨Lc, X', e', r, Nat.le_trans q E.1, hZ⟩, E, A, st⟩
theorem goStI (K : Cx Z own b ml p m c) (N : Nw Z n0 h p l e R s m args below meth c T cells slots) {a : Addr} {cl : Cell} (A : Arr Z h a cl .int) {j x : Int32} (hj : ¬ (j < 0 ∨ cl.slots.size ≤ j.toNatClampNeg)) (ha : n0 ≤ a) {pc : Nat} {L : Array Slot} {S : List Value} (hd : decode b pc = .ok (.iastore, 1)) :
    ∃ T' h', Nw Z n0 h' p l e R s m args below meth c T' cells slots ∧ Wr h h' a j.toNatClampNeg (.int x) ∧ Ld p e below T (mkF m pc L (.int x :: .int j :: .ref a :: S)) T' (mkF m (pc + 1) L S) := by
  obtain ⟨Lc, X, eT, r, q, hZ⟩ := N
  obtain ⟨T', h', X', e', W, st⟩ := stI X K.1 hZ eT A hj (g := mkF m pc L (.int x :: .int j :: .ref a :: S)) rfl rfl (hb K.2.2.1 hd)
  exact ⟨T', h', ⟨_, X', e', Fr.snoc X' r ha, by rw [W.size]; exact q, hZ⟩, W, st⟩
theorem goStJ (K : Cx Z own b ml p m c) (N : Nw Z n0 h p l e R s m args below meth c T cells slots) {a : Addr} {cl : Cell} (A : Arr Z h a cl .long) {j : Int32} {x : Int64} (hj : ¬ (j < 0 ∨ cl.slots.size ≤ j.toNatClampNeg)) (ha : n0 ≤ a) {pc : Nat} {L : Array Slot} {S : List Value} (hd : decode b pc = .ok (.lastore, 1)) :
    ∃ T' h', Nw Z n0 h' p l e R s m args below meth c T' cells slots ∧ Wr h h' a j.toNatClampNeg (.long x) ∧ Ld p e below T (mkF m pc L (.long x :: .int j :: .ref a :: S)) T' (mkF m (pc + 1) L S) := by
  obtain ⟨Lc, X, eT, r, q, hZ⟩ := N
  obtain ⟨T', h', X', e', W, st⟩ := stJ X K.1 hZ eT A hj (g := mkF m pc L (.long x :: .int j :: .ref a :: S)) rfl rfl (hb K.2.2.1 hd)
  exact ⟨T', h', ⟨_, X', e', Fr.snoc X' r ha, by rw [W.size]; exact q, hZ⟩, W, st⟩
theorem goStC (K : Cx Z own b ml p m c) (N : Nw Z n0 h p l e R s m args below meth c T cells slots) {a : Addr} {cl : Cell} (A : Arr Z h a cl .char) {j x : Int32} (hj : ¬ (j < 0 ∨ cl.slots.size ≤ j.toNatClampNeg)) (ha : n0 ≤ a) {pc : Nat} {L : Array Slot} {S : List Value} (hd : decode b pc = .ok (.castore, 1)) :
    ∃ T' h', Nw Z n0 h' p l e R s m args below meth c T' cells slots ∧ Wr h h' a j.toNatClampNeg (.int (nar .char x)) ∧ Ld p e below T (mkF m pc L (.int x :: .int j :: .ref a :: S)) T' (mkF m (pc + 1) L S) := by
  obtain ⟨Lc, X, eT, r, q, hZ⟩ := N
  obtain ⟨T', h', X', e', W, st⟩ := stC X K.1 hZ eT A hj (g := mkF m pc L (.int x :: .int j :: .ref a :: S)) rfl rfl (hb K.2.2.1 hd)
  exact ⟨T', h', ⟨_, X', e', Fr.snoc X' r ha, by rw [W.size]; exact q, hZ⟩, W, st⟩
theorem goStB (K : Cx Z own b ml p m c) (N : Nw Z n0 h p l e R s m args below meth c T cells slots) {a : Addr} {cl : Cell} (A : Arr Z h a cl .byte) {j x : Int32} (hj : ¬ (j < 0 ∨ cl.slots.size ≤ j.toNatClampNeg)) (ha : n0 ≤ a) {pc : Nat} {L : Array Slot} {S : List Value} (hd : decode b pc = .ok (.bastore, 1)) :
    ∃ T' h', Nw Z n0 h' p l e R s m args below meth c T' cells slots ∧ Wr h h' a j.toNatClampNeg (.int (nar .byte x)) ∧ Ld p e below T (mkF m pc L (.int x :: .int j :: .ref a :: S)) T' (mkF m (pc + 1) L S) := by
  obtain ⟨Lc, X, eT, r, q, hZ⟩ := N
  obtain ⟨T', h', X', e', W, st⟩ := stB X K.1 hZ eT A hj (g := mkF m pc L (.int x :: .int j :: .ref a :: S)) rfl rfl (hb K.2.2.1 hd)
  exact ⟨T', h', ⟨_, X', e', Fr.snoc X' r ha, by rw [W.size]; exact q, hZ⟩, W, st⟩
/-- what a body does: it returns v, leaves the heap h' with Q v h', writes new cells alone -/
def Con (l : Launch) (Z : State) (n0 : Nat) (y : MethodName) (bytes : ByteArray) (maxL : Nat) (ret : Option FieldType) (ws : List Jvm.Cond) (rm : Room) (as' : Array Value) (h : Heap) (Q : Option Value → Heap → Prop) : Prop :=
  n0 ≤ h.size → MetFree l y (head1 (Jvm.Cond.code y bytes maxL ret :: ws) rm) (fun a U => a = as' ∧ Z.Warmed39 U.vm ∧ U.heap = h) (fun _ _ _ _ _ => True) (fun _ U o U' => ∃ v L, o = .returned v ∧ (n0 ≤ U'.heap.size ∧ Fr n0 L ∧ Q v U'.heap) ∧ FrameEnd U o U' L rm.cells rm.slots)
theorem Con.of {y : MethodName} {bytes : ByteArray} {maxL : Nat} {ret : Option FieldType} {ws : List Jvm.Cond} {rm : Room} {as' : Array Value} {Q : Option Value → Heap → Prop} (pn : plainName y.cls = true) {L0 : Array Slot} (ef : ∀ m, entryFrame m as' maxL = mkF m 0 L0 [])
    (body : ∀ {p : Program} {e : Env} {s : State} {m : MethodId} {below : List Frame} {meth : Method} {c : Code} {T : State}, Cx Z y.cls bytes maxL p m c → meth.sig.returnType = ret → meth.name = y.name → Nw Z n0 h p l e rm s m as' below meth c T 0 0 →
      ∃ (v : Option Value) (T' : State) (g' : JFrame) (h' : Heap) (k n : Nat), Nw Z n0 h' p l e rm s m as' below meth c T' k n ∧ k ≤ rm.cells ∧ n ≤ rm.slots ∧ (ret = none → v = none) ∧ Q v h' ∧ Ld p e below T (mkF m 0 L0 []) T' g' ∧ Fn p e below m T' g' v) : Con l Z n0 y bytes maxL ret ws rm as' h Q := fun hn => by
  refine MetFree.of_bodySF (plainFor_of_name pn) hisR ?_
  intro p e s m args below meth c s₁ Bd hml0 hP hK
  obtain ⟨rfl, hZ, hh⟩ := hP
  have hown : s.vm.findClass y.cls = some m.cls := findClass_of_methodNamed Bd.named
  have X0 := Stand.of_body Bd
  have e0 : s₁.heap = h := by rw [← hh, Bd.state]; rfl
  obtain ⟨v, T', g', h', k, n, ⟨Lc, X, eT, F, q, -⟩, q1, q2, q3, hQ, hL, hF⟩ := body (T := s₁) ⟨Bd.exec, by rw [← hZ.alike.findClass]; exact hown, Bd.bytes, hml0⟩ Bd.returns (name_of_methodNamed Bd.named Bd.method).1 ⟨[], X0, e0, Fr.nil n0, hn, hZ⟩
  subst eT
  obtain ⟨fs, hr, hrun, hended, hW, hsame⟩ := X.leave (v := v) (fun q => q3 (by rw [← Bd.returns]; exact q))
  refine ⟨_, _, castTop (ef m) (hL _ (hF fs hr)), hrun, hended, v, _, rfl, ⟨q, F, hQ⟩, ⟨_, rfl⟩, hW, hsame.mono q1 q2⟩
theorem Con.ofH {y : MethodName} {bytes : ByteArray} {maxL : Nat} {ret : Option FieldType} {ws : List Jvm.Cond} {rm : Room} {as' : Array Value} {Q : Option Value → Heap → Prop} (pn : plainFor y = true) {L0 : Array Slot} (ef : ∀ m, entryFrame m as' maxL = mkF m 0 L0 [])
    (body : ∀ {p : Program} {e : Env} {s : State} {m : MethodId} {below : List Frame} {meth : Method} {c : Code} {T : State}, Cx Z y.cls bytes maxL p m c → meth.sig.returnType = ret → meth.name = y.name → Nw Z n0 h p l e rm s m as' below meth c T 0 0 → s.heap = h →
      ∃ (v : Option Value) (T' : State) (g' : JFrame) (h' : Heap) (k n : Nat), Nw Z n0 h' p l e rm s m as' below meth c T' k n ∧ k ≤ rm.cells ∧ n ≤ rm.slots ∧ (ret = none → v = none) ∧ Q v h' ∧ Ld p e below T (mkF m 0 L0 []) T' g' ∧ Fn p e below m T' g' v) : Con l Z n0 y bytes maxL ret ws rm as' h Q := fun hn => by
  refine MetFree.of_bodySF pn hisR ?_
  intro p e s m args below meth c s₁ Bd hml0 hP hK
  obtain ⟨rfl, hZ, hh⟩ := hP
  have hown : s.vm.findClass y.cls = some m.cls := findClass_of_methodNamed Bd.named
  have X0 := Stand.of_body Bd
  have e0 : s₁.heap = h := by rw [← hh, Bd.state]; rfl
  obtain ⟨v, T', g', h', k, n, ⟨Lc, X, eT, F, q, -⟩, q1, q2, q3, hQ, hL, hF⟩ := body (T := s₁) ⟨Bd.exec, by rw [← hZ.alike.findClass]; exact hown, Bd.bytes, hml0⟩ Bd.returns (name_of_methodNamed Bd.named Bd.method).1 ⟨[], X0, e0, Fr.nil n0, hn, hZ⟩ hh
  subst eT
  obtain ⟨fs, hr, hrun, hended, hW, hsame⟩ := X.leave (v := v) (fun q => q3 (by rw [← Bd.returns]; exact q))
  refine ⟨_, _, castTop (ef m) (hL _ (hF fs hr)), hrun, hended, v, _, rfl, ⟨q, F, hQ⟩, ⟨_, rfl⟩, hW, hsame.mono q1 q2⟩
theorem finI {L : Array Slot} {S : List Value} {z : Int32} {pc : Nat} (K : Cx Z own b ml p m c) (N : Nw Z n0 h p l e R s m args below meth c T cells slots) (hret : meth.sig.returnType = some .int) (hd : decode b pc = .ok (.ireturn, 1)) : Fn p e below m T (mkF m pc L (.int z :: S)) (some (.int z)) := fun fs hl => by
  obtain ⟨_, X, -⟩ := N
  exact retOut X K.1 (t := .int) (i := .ireturn) hret rfl (Or.inl ⟨rfl, Or.inl rfl, z, rfl⟩) (hb K.2.2.1 hd) hl
theorem finN {L : Array Slot} {S : List Value} {z : Int32} {t : FieldType} {pc : Nat} (K : Cx Z own b ml p m c) (N : Nw Z n0 h p l e R s m args below meth c T cells slots) (hret : meth.sig.returnType = some t) (ht : t = .boolean ∨ t = .byte ∨ t = .char ∨ t = .short) (hd : decode b pc = .ok (.ireturn, 1)) : Fn p e below m T (mkF m pc L (.int z :: S)) (some (.int (nar t z))) := fun fs hl => by
  obtain ⟨_, X, -⟩ := N
  exact retN X K.1 (t := t) hret ht (hb K.2.2.1 hd) hl
theorem finJ {L : Array Slot} {S : List Value} {z : Int64} {pc : Nat} (K : Cx Z own b ml p m c) (N : Nw Z n0 h p l e R s m args below meth c T cells slots) (hret : meth.sig.returnType = some .long) (hd : decode b pc = .ok (.lreturn, 1)) : Fn p e below m T (mkF m pc L (.long z :: S)) (some (.long z)) := fun fs hl => by
  obtain ⟨_, X, -⟩ := N
  exact retOut X K.1 (t := .long) (i := .lreturn) hret rfl (Or.inr (Or.inl ⟨rfl, rfl, z, rfl⟩)) (hb K.2.2.1 hd) hl
theorem finA {L : Array Slot} {S : List Value} {z : Value} {t : FieldType} {pc : Nat} (K : Cx Z own b ml p m c) (N : Nw Z n0 h p l e R s m args below meth c T cells slots) (hret : meth.sig.returnType = some t) (ht : t.isReference = true) (hn : narrow t z = z) (hz : z.isRef = true) (hd : decode b pc = .ok (.areturn, 1)) : Fn p e below m T (mkF m pc L (z :: S)) (some z) := fun fs hl => by
  obtain ⟨_, X, -⟩ := N
  exact retOut X K.1 (t := t) (i := .areturn) hret hn (Or.inr (Or.inr (Or.inr (Or.inr ⟨rfl, ht, hz⟩)))) (hb K.2.2.1 hd) hl
theorem finV {L : Array Slot} {pc : Nat} (K : Cx Z own b ml p m c) (N : Nw Z n0 h p l e R s m args below meth c T cells slots) (hret : meth.sig.returnType = none) (hd : decode b pc = .ok (.return_, 1)) : Fn p e below m T (mkF m pc L []) none := fun fs hl => by
  obtain ⟨_, X, -⟩ := N
  exact X.returnOut K.1 hret (hb K.2.2.1 hd) hl
section OwnCalls
variable {y : MethodName} {bytes : ByteArray} {maxL : Nat} {ret : Option FieldType} {rm : Room} {index : Nat} {argsL rest : List Value} {Q : Option Value → Heap → Prop} {pc : Nat} {L : Array Slot} {W : Nat} {ps : List FieldType} {rt : Option FieldType}
theorem goS (K : Cx Z own b ml p m c) (N : Nw Z n0 h p l e R s m args below meth c T cells slots)
    (w1 : (Jvm.Cond.methodLink own index y).before a0 Z = true) (w2 : (Jvm.Cond.static y).before a0 Z = true) (w3 : (Jvm.Cond.initialized y.cls).before a0 Z = true) (w4 : (Jvm.Cond.code y bytes maxL ret).before a0 Z = true)
    (hM : Con l Z n0 y bytes maxL ret [] rm argsL.toArray h Q) (hy : y.cls ≠ "java/lang/invoke/MethodHandle" ∧ y.cls ≠ "java/lang/invoke/VarHandle") (hf : rm.frames + 1 ≤ R.frames) (hl : W + (maxL + 11) + rm.locals ≤ R.locals) (hc : cells + rm.cells ≤ R.cells) (hs : slots + rm.slots ≤ R.slots)
    (hsz : L.size = ml) (hp : parseMethodDescriptor y.desc = some ⟨ps, rt⟩) (hlen : argsL.length = ps.length) (hW : (rest.map fun v => v.category).sum ≤ W) (hd : decode b pc = .ok (.invokestatic index, 3)) :
    ∃ v T' h', Nw Z n0 h' p l e R s m args below meth c T' (cells + rm.cells) (slots + rm.slots) ∧ Q v h' ∧ Ld p e below T (mkF m pc L (argsL.reverse ++ rest)) T' (mkF m (pc + 3) L (v.toList ++ rest)) := by
  obtain ⟨Lc, X, eT, r, q, hZ⟩ := N
  obtain ⟨v, _, ⟨T', L', k', n'⟩, -, X', ⟨Lc', hQ, l', y', z'⟩, st⟩ := Jvm.LawKit.callS X K.1 (y := y) (cx_own K hZ) (mvT hZ w1) (mvT hZ w2) (mvT hZ w3) (mvT hZ w4) hy (backOf (W := W) (Q := fun v h L => n0 ≤ h.size ∧ Fr n0 L ∧ Q v h) (hM q) hZ w4 w3 hf hl) (g := mkF m pc L (argsL.reverse ++ rest)) rfl (by rw [K.2.2.2]; exact hsz) (argsL := argsL) (rest := rest) (lenOf hp hlen) rfl (by show 2 * 0 + _ ≤ _; omega) (hb K.2.2.1 hd) (fun _ _ => ⟨rfl, eT, hc, hs⟩)
  dsimp only [Pt.U, Pt.locs, Pt.cells, Pt.slots] at X' l' y' z' st hQ
  subst l' y' z'
  exact ⟨v, T', T'.heap, ⟨_, X', rfl, Fr.app r hQ.2.1, hQ.1, hZ⟩, hQ.2.2, st⟩
theorem goSp (K : Cx Z own b ml p m c) (N : Nw Z n0 h p l e R s m args below meth c T cells slots) {a : Addr}
    (w1 : (Jvm.Cond.methodLink own index y).before a0 Z = true) (w2 : (Jvm.Cond.instanceMethod y).before a0 Z = true) (w3 : (Jvm.Cond.initialized y.cls).before a0 Z = true) (w4 : (Jvm.Cond.code y bytes maxL none).before a0 Z = true)
    (hM : Con l Z n0 y bytes maxL none [] rm (Value.ref a :: argsL).toArray h Q) (hi : y.name = "<init>") (hy : y.cls ≠ "java/lang/invoke/MethodHandle" ∧ y.cls ≠ "java/lang/invoke/VarHandle") (hf : rm.frames + 1 ≤ R.frames) (hl : W + (maxL + 11) + rm.locals ≤ R.locals) (hc : cells + rm.cells ≤ R.cells) (hs : slots + rm.slots ≤ R.slots)
    (hsz : L.size = ml) (hp : parseMethodDescriptor y.desc = some ⟨ps, rt⟩) (hlen : argsL.length = ps.length) (hW : (rest.map fun v => v.category).sum ≤ W) (hd : decode b pc = .ok (.invokespecial index, 3)) :
    ∃ v T' h', Nw Z n0 h' p l e R s m args below meth c T' (cells + rm.cells) (slots + rm.slots) ∧ Q v h' ∧ Ld p e below T (mkF m pc L (argsL.reverse ++ .ref a :: rest)) T' (mkF m (pc + 3) L (v.toList ++ rest)) := by
  obtain ⟨Lc, X, eT, r, q, hZ⟩ := N
  obtain ⟨v, _, ⟨T', L', k', n'⟩, -, X', ⟨Lc', hQ, l', y', z'⟩, st⟩ := X.specialBack K.1 (y := y) hi (cx_own K hZ) (mvT hZ w1) (mvT hZ w2) (mvT hZ w4) hy (backOf (W := W) (Q := fun v h L => n0 ≤ h.size ∧ Fr n0 L ∧ Q v h) (hM q) hZ w4 w3 hf hl) (g := mkF m pc L (argsL.reverse ++ .ref a :: rest)) rfl (by rw [K.2.2.2]; exact hsz) (Steps.refl _) (a := a) (argsL := argsL) (rest := rest) (lenOf hp hlen) rfl (by show 2 * 0 + _ ≤ _; omega) (hb K.2.2.1 hd) (fun _ _ => ⟨rfl, eT, hc, hs⟩)
  dsimp only [Pt.U, Pt.locs, Pt.cells, Pt.slots] at X' l' y' z' st hQ
  subst l' y' z'
  exact ⟨v, T', T'.heap, ⟨_, X', rfl, Fr.app r hQ.2.1, hQ.1, hZ⟩, hQ.2.2, fun t k => st.trans k⟩
theorem goVi (K : Cx Z own b ml p m c) (N : Nw Z n0 h p l e R s m args below meth c T cells slots) {a : Addr} {C : String} (E : Exa Z h a C)
    (w1 : (Jvm.Cond.methodLink own index y).before a0 Z = true) (w2 : (Jvm.Cond.declares y).before a0 Z = true) (w5 : (Jvm.Cond.selects C y y).before a0 Z = true) (w6 : (Jvm.Cond.instanceMethod y).before a0 Z = true) (w3 : (Jvm.Cond.initialized y.cls).before a0 Z = true) (w4 : (Jvm.Cond.code y bytes maxL ret).before a0 Z = true)
    (hM : Con l Z n0 y bytes maxL ret [] rm (Value.ref a :: argsL).toArray h Q) (hy : y.cls ≠ "java/lang/invoke/MethodHandle" ∧ y.cls ≠ "java/lang/invoke/VarHandle") (hf : rm.frames + 1 ≤ R.frames) (hl : W + (maxL + 11) + rm.locals ≤ R.locals) (hc : cells + rm.cells ≤ R.cells) (hs : slots + rm.slots ≤ R.slots)
    (hsz : L.size = ml) (hp : parseMethodDescriptor y.desc = some ⟨ps, rt⟩) (hlen : argsL.length = ps.length) (hW : (rest.map fun v => v.category).sum ≤ W) (hd : decode b pc = .ok (.invokevirtual index, 3)) :
    ∃ v T' h', Nw Z n0 h' p l e R s m args below meth c T' (cells + rm.cells) (slots + rm.slots) ∧ Q v h' ∧ Ld p e below T (mkF m pc L (argsL.reverse ++ .ref a :: rest)) T' (mkF m (pc + 3) L (v.toList ++ rest)) := by
  obtain ⟨Lc, X, eT, r, q, hZ⟩ := N
  obtain ⟨cB, kB, q1, q2, q3⟩ := isOf hZ eT E
  obtain ⟨v, _, ⟨T', L', k', n'⟩, -, X', ⟨Lc', hQ, l', y', z'⟩, st⟩ := X.virtualBack K.1 (y := y) (z := y) (cx_own K hZ) (mvT hZ w1) (mvT hZ w2) (notFace_of_selects (args := #[]) (mvT hZ w5)) (mvT hZ w5) (mvT hZ w6) hy (backOf (W := W) (Q := fun v h L => n0 ≤ h.size ∧ Fr n0 L ∧ Q v h) (hM q) hZ w4 w3 hf hl) q1 q3 (g := mkF m pc L (argsL.reverse ++ .ref a :: rest)) rfl (by rw [K.2.2.2]; exact hsz) (Steps.refl _) (argsL := argsL) (rest := rest) (lenOf hp hlen) rfl (by show 2 * 0 + _ ≤ _; omega) (hb K.2.2.1 hd) (fun _ _ => ⟨rfl, eT, hc, hs⟩)
  dsimp only [Pt.U, Pt.locs, Pt.cells, Pt.slots] at X' l' y' z' st hQ
  subst l' y' z'
  exact ⟨v, T', T'.heap, ⟨_, X', rfl, Fr.app r hQ.2.1, hQ.1, hZ⟩, hQ.2.2, fun t k => st.trans k⟩
end OwnCalls
end OwnGo
section OwnArr
variable {Z : State} {h h' : Heap} {a b : Addr} {ty : FieldType} {vs : List Value} {v : Value} {sl : Nat} {ws : List Addr}
/-- the array at a holds just vs -/
def Av (Z : State) (h : Heap) (a : Addr) (ty : FieldType) (vs : List Value) : Prop := ∃ c : Cell, Arr Z h a c ty ∧ c.slots.toList = vs ∧ vs.length < 2 ^ 31
theorem Av.lt (F : Av Z h a ty vs) : a < h.size := by obtain ⟨_, A, -⟩ := F; exact A.lt
theorem Av.ext (F : Av Z h a ty vs) (E : Ext h h') : Av Z h' a ty vs := by obtain ⟨c, A, r⟩ := F; exact ⟨c, A.ext E, r⟩
theorem Av.keep (F : Av Z h a ty vs) (K : Keep h h' ws) (q : a ∉ ws) : Av Z h' a ty vs := by obtain ⟨c, A, r⟩ := F; exact ⟨c, ⟨K.2.1 a c A.1 q, A.2⟩, r⟩
theorem Av.other (F : Av Z h a ty vs) (W : Wr h h' b sl v) (q : a ≠ b) : Av Z h' a ty vs := by obtain ⟨c, A, r⟩ := F; exact ⟨c, A.other W q, r⟩
theorem keep_ext (E : Ext h h') : Keep h h' ws := (Keep.refl h ws).ext E
theorem Av.new {k : ClassId} {z : Int32} {n : Nat} (A : Arr Z h a (newA k ty z) ty) (q : ¬ z < 0) (hn : z.toInt = n) : Av Z h a ty (List.replicate n (defaultValue ty)) := by
  have e : z.toNatClampNeg = n := by simp [Int32.toNatClampNeg, hn]
  refine ⟨_, A, by simp [newA, e], ?_⟩
  have := Int32.toInt_lt z
  simp only [List.length_replicate]; omega
theorem clamp_of {j : Int32} {i : Nat} (hj : j.toInt = i) : j.toNatClampNeg = i := by simp [Int32.toNatClampNeg, hj]
theorem not_neg_of {j : Int32} {i : Nat} (hj : j.toInt = i) : ¬ j < 0 := by rw [Int32.lt_iff_toInt_lt, hj]; show ¬ (i : Int) < 0; omega
theorem Av.inb {c : Cell} (e : c.slots.toList = vs) {j : Int32} {i : Nat} (hj : j.toInt = i) (hi : i < vs.length) : ¬ (j < 0 ∨ c.slots.size ≤ j.toNatClampNeg) := by
  rintro (q | q)
  · exact not_neg_of hj q
  · rw [clamp_of hj] at q; rw [← e, Array.length_toList] at hi; omega
theorem Av.rd (F : Av Z h a ty vs) {j : Int32} {i : Nat} (hj : j.toInt = i) (hv : vs[i]? = some v) : Rd Z h a ty j v := by
  obtain ⟨c, A, e, -⟩ := F
  refine ⟨c, A, Av.inb e hj (List.getElem?_eq_some_iff.mp hv).1, ?_⟩
  rw [clamp_of hj, ← hv, ← e, Array.getElem?_toList]
theorem Av.ln (F : Av Z h a ty vs) {n : Int32} (hn : n.toInt = vs.length) : Ln Z h a n := by
  obtain ⟨c, A, e, q⟩ := F
  refine ⟨c, ty, A, ?_⟩
  rw [← Array.length_toList, e]
  apply Int32.toInt_inj.mp
  rw [hn]; exact Int32.toInt_ofNat_of_lt q
theorem Av.set {c : Cell} (A : Arr Z h a c ty) (e : c.slots.toList = vs) (q : vs.length < 2 ^ 31) {j : Int32} {i : Nat} (hj : j.toInt = i) (W : Wr h h' a j.toNatClampNeg v) : Av Z h' a ty (vs.set i v) := by
  rw [clamp_of hj] at W
  refine ⟨_, A.same W, ?_, by simpa using q⟩
  simp [Cell.setSlot, e]
theorem Av.ne {a b : Addr} {ty' : FieldType} {us : List Value} (F : Av Z h a ty vs) (G : Av Z h b ty' us) (q : ty ≠ ty') : a ≠ b := fun e => by
  subst e
  obtain ⟨c, A, -⟩ := F
  obtain ⟨c', B, -⟩ := G
  cases A.1.symm.trans B.1
  obtain ⟨-, k, hk, comp, h1⟩ := A.2.1
  obtain ⟨-, k', hk', comp', h2⟩ := B.2.1
  cases hk.symm.trans hk'
  rw [h1] at h2; cases h2; exact q rfl
theorem Av.ne_exa {a0 : Array Value} {C : String} {k : Nat} (F : Av Z h a ty vs) (G : Exa Z h b C) (wi : (Jvm.Cond.instantiable C k).before a0 Z = true) : b ≠ a := by
  obtain ⟨c, A, -⟩ := F
  exact ne_arr G wi A
theorem n_ti {i : Nat} (q : i < 2147483648) : (Int32.ofNat i).toInt = i := Int32.toInt_ofNat_of_lt q
theorem n_one (i : Nat) : Int32.ofNat i + (1 : Int32) = Int32.ofNat (i + 1) := (Int32.ofNat_add i 1).symm
theorem n_lt {i j : Nat} (hi : i < 2147483648) (hj : j < 2147483648) : Int32.ofNat i < Int32.ofNat j ↔ i < j := by rw [Int32.lt_iff_toInt_lt, n_ti hi, n_ti hj]; omega
theorem n_eq {i j : Nat} (hi : i < 2147483648) (hj : j < 2147483648) : Int32.ofNat i = Int32.ofNat j ↔ i = j := by rw [← Int32.toInt_inj, n_ti hi, n_ti hj]; omega
end OwnArr
section OwnSto
variable {p : Program} {l : Launch} {e : Env} {R : Room} {s : State} {m : MethodId} {args : Array Value} {below : List Frame} {meth : Method} {c : Code} {T : State} {cells slots : Nat} {Z : State} {a0 : Array Value} {h : Heap} {own : String} {n0 : Nat} {b : ByteArray} {ml : Nat} {a : Addr} {vs : List Value} {j : Int32} {i : Nat} {pc : Nat} {L : Array Slot} {S : List Value}
theorem avStI (K : Cx Z own b ml p m c) (N : Nw Z n0 h p l e R s m args below meth c T cells slots) (F : Av Z h a .int vs) {x : Int32} (hj : j.toInt = i) (hi : i < vs.length) (ha : n0 ≤ a) (hd : decode b pc = .ok (.iastore, 1)) :
    ∃ T' h', Nw Z n0 h' p l e R s m args below meth c T' cells slots ∧ Keep h h' [a] ∧ Av Z h' a .int (vs.set i (.int x)) ∧ Ld p e below T (mkF m pc L (.int x :: .int j :: .ref a :: S)) T' (mkF m (pc + 1) L S) := by
  obtain ⟨cl, A, q1, q2⟩ := F
  obtain ⟨T', h', N', W, st⟩ := goStI K N A (Av.inb q1 hj hi) ha hd
  exact ⟨T', h', N', Keep.of_wr W, Av.set A q1 q2 hj W, st⟩
theorem avStJ (K : Cx Z own b ml p m c) (N : Nw Z n0 h p l e R s m args below meth c T cells slots) (F : Av Z h a .long vs) {x : Int64} (hj : j.toInt = i) (hi : i < vs.length) (ha : n0 ≤ a) (hd : decode b pc = .ok (.lastore, 1)) :
    ∃ T' h', Nw Z n0 h' p l e R s m args below meth c T' cells slots ∧ Keep h h' [a] ∧ Av Z h' a .long (vs.set i (.long x)) ∧ Ld p e below T (mkF m pc L (.long x :: .int j :: .ref a :: S)) T' (mkF m (pc + 1) L S) := by
  obtain ⟨cl, A, q1, q2⟩ := F
  obtain ⟨T', h', N', W, st⟩ := goStJ K N A (Av.inb q1 hj hi) ha hd
  exact ⟨T', h', N', Keep.of_wr W, Av.set A q1 q2 hj W, st⟩
theorem avStC (K : Cx Z own b ml p m c) (N : Nw Z n0 h p l e R s m args below meth c T cells slots) (F : Av Z h a .char vs) {x : Int32} (hj : j.toInt = i) (hi : i < vs.length) (ha : n0 ≤ a) (hd : decode b pc = .ok (.castore, 1)) :
    ∃ T' h', Nw Z n0 h' p l e R s m args below meth c T' cells slots ∧ Keep h h' [a] ∧ Av Z h' a .char (vs.set i (.int (nar .char x))) ∧ Ld p e below T (mkF m pc L (.int x :: .int j :: .ref a :: S)) T' (mkF m (pc + 1) L S) := by
  obtain ⟨cl, A, q1, q2⟩ := F
  obtain ⟨T', h', N', W, st⟩ := goStC K N A (Av.inb q1 hj hi) ha hd
  exact ⟨T', h', N', Keep.of_wr W, Av.set A q1 q2 hj W, st⟩
theorem avStB (K : Cx Z own b ml p m c) (N : Nw Z n0 h p l e R s m args below meth c T cells slots) (F : Av Z h a .byte vs) {x : Int32} (hj : j.toInt = i) (hi : i < vs.length) (ha : n0 ≤ a) (hd : decode b pc = .ok (.bastore, 1)) :
    ∃ T' h', Nw Z n0 h' p l e R s m args below meth c T' cells slots ∧ Keep h h' [a] ∧ Av Z h' a .byte (vs.set i (.int (nar .byte x))) ∧ Ld p e below T (mkF m pc L (.int x :: .int j :: .ref a :: S)) T' (mkF m (pc + 1) L S) := by
  obtain ⟨cl, A, q1, q2⟩ := F
  obtain ⟨T', h', N', W, st⟩ := goStB K N A (Av.inb q1 hj hi) ha hd
  exact ⟨T', h', N', Keep.of_wr W, Av.set A q1 q2 hj W, st⟩
end OwnSto

theorem tw {a0 : Array Value} {Z : State} (hw : ∀ d ∈ tables_1, d.before a0 Z = true) (k : Nat) {d : Jvm.Cond} (q : tables_1[k]? = some d) : d.before a0 Z = true := hw d (List.mem_of_getElem? q)
variable {p : Program} {l : Launch} {e : Env} {R : Room} {s : State} {m : MethodId} {args : Array Value} {below : List Frame} {meth : Method} {c : Code} {T : State} {cells slots : Nat} {Z : State} {a0 : Array Value} {h : Heap} {n0 : Nat}
def SF (Z : State) (z : Int32) (fm : Value) : Prop := (Sta Z Z.heap "java/lang/String" "COMPACT_STRINGS" "Z" (.int z)) ∧ (¬ z = 0) ∧ (Sta Z Z.heap "jdk/internal/util/Preconditions" "SIOOBE_FORMATTER" "Ljava/util/function/BiFunction;" fm) ∧ (fm.isRef = true) ∧ (Sta Z Z.heap "java/lang/StringUTF16" "$assertionsDisabled" "Z" (.int 1)) ∧ (Sta Z Z.heap "java/lang/StringUTF16" "HI_BYTE_SHIFT" "I" (.int 0)) ∧ (Sta Z Z.heap "java/lang/StringUTF16" "LO_BYTE_SHIFT" "I" (.int 8))
section OwnStr
def lo8 (c : Int32) : Int32 := c.toInt8.toInt32
def hi8 (c : Int32) : Int32 := (c >>> (8 : Int32)).toInt8.toInt32
def u16 (cs : List Int32) : List Int32 := cs.flatMap fun c => [lo8 c, hi8 c]
def Ch (c : Int32) : Prop := 0 ≤ c.toInt ∧ c.toInt ≤ 65535
theorem u16_len (cs : List Int32) : (u16 cs).length = 2 * cs.length := by
  induction cs with
  | nil => rfl
  | cons c cs ih => simp only [u16, List.flatMap_cons, List.length_append, List.length_cons, List.length_nil] at ih ⊢; omega
theorem u16_cons (c : Int32) (cs : List Int32) : u16 (c :: cs) = lo8 c :: hi8 c :: u16 cs := rfl
theorem u16_lo : ∀ (cs : List Int32) (i : Nat) (c : Int32), cs[i]? = some c → (u16 cs)[2 * i]? = some (lo8 c) ∧ (u16 cs)[2 * i + 1]? = some (hi8 c)
  | [], i, c, h => by simp at h
  | d :: cs, 0, c, h => by simp at h; subst h; exact ⟨rfl, rfl⟩
  | d :: cs, i + 1, c, h => by
    have := u16_lo cs i c (by simpa using h)
    rw [u16_cons, show 2 * (i + 1) = 2 * i + 2 by omega, show 2 * i + 2 + 1 = 2 * i + 1 + 2 by omega]
    simpa using this
theorem nn_nat {x : Int32} (h0 : 0 ≤ x.toInt) : (x.toBitVec.toNat : Int) = x.toInt := by
  have : x.toInt = x.toBitVec.toInt := rfl
  rw [this] at h0 ⊢
  rw [BitVec.toInt_eq_toNat_cond] at h0 ⊢
  split at h0 <;> rename_i q
  · simp [q]
  · have := x.toBitVec.isLt; omega
theorem lo8_and (x : Int32) : (lo8 x &&& (255 : Int32)).toBitVec.toNat = x.toBitVec.toNat % 256 := by
  show (((x.toBitVec.signExtend 8).signExtend 32) &&& 255#32).toNat = _
  rw [BitVec.signExtend_eq_setWidth_of_le _ (show 8 ≤ 32 by decide)]
  have e : ((x.toBitVec.setWidth 8).signExtend 32) &&& 255#32 = (x.toBitVec.setWidth 8).setWidth 32 := by
    apply BitVec.eq_of_getLsbD_eq
    intro i hi
    rw [BitVec.getLsbD_and, BitVec.getLsbD_signExtend, BitVec.getLsbD_setWidth]
    have h255 : ∀ i, (255#32).getLsbD i = decide (i < 8) := by
      intro i
      by_cases q : i < 8
      · have : i = 0 ∨ i = 1 ∨ i = 2 ∨ i = 3 ∨ i = 4 ∨ i = 5 ∨ i = 6 ∨ i = 7 := by omega
        rcases this with rfl | rfl | rfl | rfl | rfl | rfl | rfl | rfl <;> rfl
      · rw [decide_eq_false q, BitVec.getLsbD]
        exact Nat.testBit_lt_two_pow (Nat.lt_of_lt_of_le (show 255 < 2 ^ 8 by decide) (Nat.pow_le_pow_right (by decide) (by omega)))
    rw [h255]
    by_cases q : i < 8
    · simp [q, hi]
    · simp [q, hi]
  rw [e, BitVec.toNat_setWidth, BitVec.toNat_setWidth]
  omega
theorem toC_small {x : Int32} (h : x.toBitVec.toNat < 65536) : x.toUInt32.toUInt16.toUInt32.toInt32 = x := by
  apply Int32.toBitVec_inj.mp
  apply BitVec.eq_of_toNat_eq
  show ((x.toBitVec.setWidth 16).setWidth 32).toNat = _
  rw [BitVec.toNat_setWidth, BitVec.toNat_setWidth]
  omega
theorem ch_lt {c : Int32} (h : Ch c) : c.toBitVec.toNat < 65536 := by have := nn_nat h.1; have := h.2; omega
theorem latin_back {c : Int32} (h : Ch c) (h2 : c.toInt ≤ 255) : (lo8 c &&& (255 : Int32)).toUInt32.toUInt16.toUInt32.toInt32 = c := by
  have e := lo8_and c
  have n1 := nn_nat h.1
  have e2 : lo8 c &&& (255 : Int32) = c := by
    apply Int32.toBitVec_inj.mp
    apply BitVec.eq_of_toNat_eq
    rw [e]; omega
  rw [e2]; exact toC_small (ch_lt h)
theorem shr8 {c : Int32} (h : Ch c) : (c >>> (8 : Int32)).toBitVec.toNat = c.toBitVec.toNat / 256 := by
  have n1 := ch_lt h
  show (c.toBitVec.sshiftRight' ((8#32).smod 32)).toNat = _
  have e : c.toBitVec.msb = false := by rw [BitVec.msb_eq_decide]; simp; omega
  rw [show (8#32).smod 32 = 8#32 from by decide, BitVec.sshiftRight_eq', BitVec.sshiftRight_eq_of_msb_false e]
  rw [BitVec.toNat_ushiftRight, show (8#32).toNat = 8 from rfl, Nat.shiftRight_eq_div_pow]
theorem utf_back {c : Int32} (h : Ch c) : (((lo8 c &&& (255 : Int32)) <<< ((0 : Int32) &&& 31)) ||| ((hi8 c &&& (255 : Int32)) <<< ((8 : Int32) &&& 31))).toUInt32.toUInt16.toUInt32.toInt32 = c := by
  have n1 := ch_lt h
  have a1 := lo8_and c
  have a2 : (hi8 c &&& (255 : Int32)).toBitVec.toNat = c.toBitVec.toNat / 256 := by
    have := lo8_and (c >>> (8 : Int32))
    rw [shr8 h] at this
    show (lo8 (c >>> (8 : Int32)) &&& (255 : Int32)).toBitVec.toNat = _
    rw [this]; omega
  have e : ((lo8 c &&& (255 : Int32)) <<< ((0 : Int32) &&& 31)) ||| ((hi8 c &&& (255 : Int32)) <<< ((8 : Int32) &&& 31)) = c := by
    apply Int32.toBitVec_inj.mp
    apply BitVec.eq_of_toNat_eq
    show (((lo8 c &&& (255 : Int32)).toBitVec <<< (((0 : Int32) &&& 31).toBitVec.smod 32)) ||| ((hi8 c &&& (255 : Int32)).toBitVec <<< (((8 : Int32) &&& 31).toBitVec.smod 32))).toNat = _
    rw [show ((0 : Int32) &&& 31).toBitVec.smod 32 = 0#32 from by decide, show ((8 : Int32) &&& 31).toBitVec.smod 32 = 8#32 from by decide]
    rw [BitVec.toNat_or, BitVec.shiftLeft_eq', BitVec.shiftLeft_eq', BitVec.toNat_shiftLeft, BitVec.toNat_shiftLeft, a1, a2, show (0#32).toNat = 0 from rfl, show (8#32).toNat = 8 from rfl, Nat.shiftLeft_zero, Nat.shiftLeft_eq]
    rw [Nat.mod_eq_of_lt (show c.toBitVec.toNat % 256 < 2 ^ 32 by omega), Nat.mod_eq_of_lt (show c.toBitVec.toNat / 256 * 2 ^ 8 < 2 ^ 32 by omega), Nat.or_comm, Nat.mul_comm, ← Nat.two_pow_add_eq_or_of_lt (by omega)]
    omega
  rw [e]; exact toC_small n1
theorem ch_nar (x : Int32) : Ch (nar .char x) := by
  have e : (nar .char x).toBitVec.toNat < 65536 := by
    show ((x.toBitVec.setWidth 16).setWidth 32).toNat < _
    rw [BitVec.toNat_setWidth, BitVec.toNat_setWidth]; omega
  have e2 : (nar .char x).toInt = (nar .char x).toBitVec.toNat := by
    show (nar .char x).toBitVec.toInt = _
    rw [BitVec.toInt_eq_toNat_cond, if_pos (by omega)]
  constructor <;> omega
theorem nar_ch {c : Int32} (h : Ch c) : nar .char c = c := toC_small (ch_lt h)
theorem nar_lo (x : Int32) : nar .byte x.toInt8.toInt32 = lo8 x := by simp [nar, lo8]
theorem sh0 (c : Int32) : c >>> ((0 : Int32) &&& 31) = c := by
  apply Int32.toBitVec_inj.mp
  show c.toBitVec.sshiftRight' (((0 : Int32) &&& 31).toBitVec.smod 32) = _
  rw [show ((0 : Int32) &&& 31).toBitVec.smod 32 = 0#32 from by decide]; simp
theorem sh8 (c : Int32) : c >>> ((8 : Int32) &&& 31) = c >>> (8 : Int32) := rfl
/-- the String at x, its bytes at t, spells cs -/
def Stv (Z : State) (h : Heap) (x t : Addr) (cs : List Int32) : Prop :=
  Exa Z h x "java/lang/String" ∧ (∀ c ∈ cs, Ch c) ∧ cs.length ≤ 4000 ∧ Fld Z h x "java/lang/String" "value" "[B" (.ref t) ∧
    ((Fld Z h x "java/lang/String" "coder" "B" (.int 0) ∧ (∀ c ∈ cs, c.toInt ≤ 255) ∧ Av Z h t .byte ((cs.map lo8).map Value.int)) ∨ (Fld Z h x "java/lang/String" "coder" "B" (.int 1) ∧ Av Z h t .byte ((u16 cs).map Value.int)))
variable {Z : State} {h h' : Heap} {x t : Addr} {cs : List Int32} {ws : List Addr}
theorem Stv.keep (F : Stv Z h x t cs) (K : Keep h h' ws) (q1 : x ∉ ws) (q2 : t ∉ ws) : Stv Z h' x t cs := by
  obtain ⟨a, b, c, d, f⟩ := F
  refine ⟨a.keep K, b, c, d.keep K q1, ?_⟩
  rcases f with ⟨f1, f2, f3⟩ | ⟨f1, f3⟩
  · exact Or.inl ⟨f1.keep K q1, f2, f3.keep K q2⟩
  · exact Or.inr ⟨f1.keep K q1, f3.keep K q2⟩
theorem Stv.ext (F : Stv Z h x t cs) (K : Ext h h') : Stv Z h' x t cs := F.keep (ws := []) (keep_ext K) nin0 nin0
end OwnStr

theorem n_shr1 {n : Nat} (q : n < 2147483648) : (Int32.ofNat n >>> ((1 : Int32) &&& 31)) = Int32.ofNat (n / 2) := by
  have e : (Int32.ofNat n).toBitVec = BitVec.ofNat 32 n := rfl
  apply Int32.toBitVec_inj.mp
  apply BitVec.eq_of_toNat_eq
  show ((Int32.ofNat n).toBitVec.sshiftRight' (((1 : Int32) &&& 31).toBitVec.smod 32)).toNat = (BitVec.ofNat 32 (n / 2)).toNat
  have m : (Int32.ofNat n).toBitVec.msb = false := by rw [e, BitVec.msb_eq_decide]; simp; omega
  rw [show ((1 : Int32) &&& 31).toBitVec.smod 32 = 1#32 from by decide, BitVec.sshiftRight_eq', BitVec.sshiftRight_eq_of_msb_false m, BitVec.toNat_ushiftRight, e, show (1#32).toNat = 1 from rfl, Nat.shiftRight_eq_div_pow, BitVec.toNat_ofNat, BitVec.toNat_ofNat]
  omega
theorem n_shl1 {n : Nat} (q : n < 1073741824) : (Int32.ofNat n <<< ((1 : Int32) &&& 31)) = Int32.ofNat (2 * n) := by
  rw [show (2 * n) = n + n by omega, Int32.ofNat_add]
  generalize Int32.ofNat n = z
  apply Int32.toBitVec_inj.mp
  show z.toBitVec <<< (((1 : Int32) &&& 31).toBitVec.smod 32) = z.toBitVec + z.toBitVec
  rw [show ((1 : Int32) &&& 31).toBitVec.smod 32 = 1#32 from by decide, BitVec.shiftLeft_eq']
  apply BitVec.eq_of_toNat_eq
  rw [BitVec.toNat_shiftLeft, BitVec.toNat_add, show (1#32).toNat = 1 from rfl, Nat.shiftLeft_eq]
  congr 1; omega
theorem n_shr0 (x : Int32) : x >>> ((0 : Int32) &&& 31) = x := sh0 x
theorem gti {xs : List Int32} {i : Nat} {c : Int32} (q : xs[i]? = some c) : (xs.map Value.int)[i]? = some (.int c) := by simp [q]
theorem pn0 : plainName "jdk/internal/util/Preconditions" = true := by first | (simp [plainName, overriddenIn]; done) | decide +kernel
theorem pd0 : parseMethodDescriptor "(IILjava/util/function/BiFunction;)I" = some ⟨[.int, .int, .object "java/util/function/BiFunction"], some (.int)⟩ := by decide +kernel
theorem pn1 : plainName "java/lang/String" = true := by first | (simp [plainName, overriddenIn]; done) | decide +kernel
theorem pd1 : parseMethodDescriptor "(II)V" = some ⟨[.int, .int], none⟩ := by decide +kernel
theorem pn2 : plainName "java/lang/StringLatin1" = true := by first | (simp [plainName, overriddenIn]; done) | decide +kernel
theorem pd2 : parseMethodDescriptor "([BI)C" = some ⟨[.array .byte, .int], some (.char)⟩ := by decide +kernel
theorem pd3 : parseMethodDescriptor "()Z" = some ⟨[], some (.boolean)⟩ := by decide +kernel
theorem pd4 : parseMethodDescriptor "(I)C" = some ⟨[.int], some (.char)⟩ := by decide +kernel
theorem lt_in {i n : Nat} (q : i < n) (r : n < 2147483648) : Int32.ofNat i < Int32.ofNat n := (n_lt (by omega) r).mpr q
set_option maxHeartbeats 1000000 in
theorem con_pcin (i n : Nat) (hi : i < n) (hn : n < 2147483648) : Con l Z n0 ⟨"jdk/internal/util/Preconditions", "checkIndex", "(IILjava/util/function/BiFunction;)I"⟩ jdk_41_method_11_code 3 (some (.int)) [] ({ frames := 0, cells := 0, slots := 0, locals := 0 } : Room) #[.int (Int32.ofNat i), .int (Int32.ofNat n), .null] h (fun v h' => v = some (.int (Int32.ofNat i)) ∧ h = h') := by
  refine Con.ofH (plainFor_of_name pn0) (L0 := #[.val (.int (Int32.ofNat i)), .val (.int (Int32.ofNat n)), .val (.null)]) (fun m => by first | (simp [entryFrame, mkF, argsToLocals, Value.category]; done) | rfl) ?_
  intro p e s m below meth c T K hret hnm N hs
  have g1 : Ld p e below T (mkF m 0 #[.val (.int (Int32.ofNat i)), .val (.int (Int32.ofNat n)), .val (.null)] []) T (mkF m 17 #[.val (.int (Int32.ofNat i)), .val (.int (Int32.ofNat n)), .val (.null)] [(.int (Int32.ofNat i))]) := goRun K N #[] [(0, .iload_n 0, 1), (1, .ifCond .lt 8, 3), (4, .iload_n 0, 1), (5, .iload_n 1, 1), (6, .if_icmp .lt 10, 3), (16, .iload_n 0, 1)] [.null, .ref 0] (P := (¬ (Int32.ofNat i) < (0 : Int32)) ∧ ((Int32.ofNat i) < (Int32.ofNat n)) ∧ True) (by decide +kernel) rfl ⟨(not_neg_of (n_ti (by omega))), (lt_in hi hn), trivial⟩
  exact ⟨_, T, _, h, _, _, N, by decide, by decide, fun q => (nomatch q), ⟨rfl, rfl⟩, g1, finI K N hret (by decide +kernel)⟩
set_option maxHeartbeats 1000000 in
theorem con_pcir (fa : Addr) (i n : Nat) (hi : i < n) (hn : n < 2147483648) : Con l Z n0 ⟨"jdk/internal/util/Preconditions", "checkIndex", "(IILjava/util/function/BiFunction;)I"⟩ jdk_41_method_11_code 3 (some (.int)) [] ({ frames := 0, cells := 0, slots := 0, locals := 0 } : Room) #[.int (Int32.ofNat i), .int (Int32.ofNat n), .ref fa] h (fun v h' => v = some (.int (Int32.ofNat i)) ∧ h = h') := by
  refine Con.ofH (plainFor_of_name pn0) (L0 := #[.val (.int (Int32.ofNat i)), .val (.int (Int32.ofNat n)), .val (.ref fa)]) (fun m => by first | (simp [entryFrame, mkF, argsToLocals, Value.category]; done) | rfl) ?_
  intro p e s m below meth c T K hret hnm N hs
  have g1 : Ld p e below T (mkF m 0 #[.val (.int (Int32.ofNat i)), .val (.int (Int32.ofNat n)), .val (.ref fa)] []) T (mkF m 17 #[.val (.int (Int32.ofNat i)), .val (.int (Int32.ofNat n)), .val (.ref fa)] [(.int (Int32.ofNat i))]) := goRun K N #[] [(0, .iload_n 0, 1), (1, .ifCond .lt 8, 3), (4, .iload_n 0, 1), (5, .iload_n 1, 1), (6, .if_icmp .lt 10, 3), (16, .iload_n 0, 1)] [.null, .ref 0] (P := (¬ (Int32.ofNat i) < (0 : Int32)) ∧ ((Int32.ofNat i) < (Int32.ofNat n)) ∧ True) (by decide +kernel) rfl ⟨(not_neg_of (n_ti (by omega))), (lt_in hi hn), trivial⟩
  exact ⟨_, T, _, h, _, _, N, by decide, by decide, fun q => (nomatch q), ⟨rfl, rfl⟩, g1, finI K N hret (by decide +kernel)⟩
set_option maxHeartbeats 1000000 in
theorem con_ci (hw : ∀ d ∈ tables_1, d.before a0 Z = true) {z : Int32} {fm : Value} (sf : SF Z z fm) (i n : Nat) (hi : i < n) (hn : n < 2147483648) (O : Old Z n0 h) : Con l Z n0 ⟨"java/lang/String", "checkIndex", "(II)V"⟩ jdk_42_method_155_code 2 none [] ({ frames := 1, cells := 0, slots := 0, locals := 14 } : Room) #[.int (Int32.ofNat i), .int (Int32.ofNat n)] h (fun v h' => v = none ∧ h = h') := by
  refine Con.ofH (plainFor_of_name pn1) (L0 := #[.val (.int (Int32.ofNat i)), .val (.int (Int32.ofNat n))]) (fun m => by first | (simp [entryFrame, mkF, argsToLocals, Value.category]; done) | rfl) ?_
  intro p e s m below meth c T K hret hnm N hs
  have O0 : Old Z n0 s.heap := by rw [hs]; exact O
  obtain ⟨fm', hfm⟩ : ∃ y, y = fm := ⟨_, rfl⟩
  have g1 : Ld p e below T (mkF m 0 #[.val (.int (Int32.ofNat i)), .val (.int (Int32.ofNat n))] []) T (mkF m 2 #[.val (.int (Int32.ofNat i)), .val (.int (Int32.ofNat n))] [(.int (Int32.ofNat n)), (.int (Int32.ofNat i))]) := goRun K N #[] [(0, .iload_n 0, 1), (1, .iload_n 1, 1)] [] (P := True) (by decide +kernel) rfl trivial
  rcases ref_cases (sf.2.2.2.1) with hfe | ⟨fa, hfe⟩
  · have hst := sf.2.2.1.ext (N.old O0).2
    rw [hfe] at hst
    obtain ⟨T2, N2, g2⟩ := goSta K N (tw hw 70 rfl) hst (pc := 2) (L := #[.val (.int (Int32.ofNat i)), .val (.int (Int32.ofNat n))]) (S := [(.int (Int32.ofNat n)), (.int (Int32.ofNat i))]) (by decide +kernel)
    obtain ⟨v3, T3, _, N3, ⟨rfl, rfl⟩, g3⟩ := goS K N2 (tw hw 72 rfl) (tw hw 73 rfl) (tw hw 71 rfl) (tw hw 74 rfl) (con_pcin i n hi hn) (argsL := [(.int (Int32.ofNat i)), (.int (Int32.ofNat n)), (.null)]) (W := 0) (rest := []) (by decide) (by decide) (by decide) (by decide) (by decide) (L := #[.val (.int (Int32.ofNat i)), .val (.int (Int32.ofNat n))]) rfl pd0 rfl (Nat.le_of_eq rfl) (pc := 5) (by decide +kernel)
    have g4 : Ld p e below T3 (mkF m 8 #[.val (.int (Int32.ofNat i)), .val (.int (Int32.ofNat n))] [(.int (Int32.ofNat i))]) T3 (mkF m 9 #[.val (.int (Int32.ofNat i)), .val (.int (Int32.ofNat n))] []) := goRun K N3 #[] [(8, .pop, 1)] [] (P := True) (by decide +kernel) rfl trivial
    exact ⟨none, T3, _, h, _, _, N3, by decide, by decide, fun _ => rfl, ⟨rfl, rfl⟩, g1.trans (g2.trans (g3.trans g4)), finV K N3 hret (by decide +kernel)⟩
  · have hst := sf.2.2.1.ext (N.old O0).2
    rw [hfe] at hst
    obtain ⟨T2, N2, g2⟩ := goSta K N (tw hw 70 rfl) hst (pc := 2) (L := #[.val (.int (Int32.ofNat i)), .val (.int (Int32.ofNat n))]) (S := [(.int (Int32.ofNat n)), (.int (Int32.ofNat i))]) (by decide +kernel)
    obtain ⟨v3, T3, _, N3, ⟨rfl, rfl⟩, g3⟩ := goS K N2 (tw hw 72 rfl) (tw hw 73 rfl) (tw hw 71 rfl) (tw hw 74 rfl) (con_pcir fa i n hi hn) (argsL := [(.int (Int32.ofNat i)), (.int (Int32.ofNat n)), (.ref fa)]) (W := 0) (rest := []) (by decide) (by decide) (by decide) (by decide) (by decide) (L := #[.val (.int (Int32.ofNat i)), .val (.int (Int32.ofNat n))]) rfl pd0 rfl (Nat.le_of_eq rfl) (pc := 5) (by decide +kernel)
    have g4 : Ld p e below T3 (mkF m 8 #[.val (.int (Int32.ofNat i)), .val (.int (Int32.ofNat n))] [(.int (Int32.ofNat i))]) T3 (mkF m 9 #[.val (.int (Int32.ofNat i)), .val (.int (Int32.ofNat n))] []) := goRun K N3 #[] [(8, .pop, 1)] [] (P := True) (by decide +kernel) rfl trivial
    exact ⟨none, T3, _, h, _, _, N3, by decide, by decide, fun _ => rfl, ⟨rfl, rfl⟩, g1.trans (g2.trans (g3.trans g4)), finV K N3 hret (by decide +kernel)⟩
set_option maxHeartbeats 1000000 in
theorem con_lca (hw : ∀ d ∈ tables_1, d.before a0 Z = true) {z : Int32} {fm : Value} (sf : SF Z z fm) {t : Addr} {cs : List Int32} (F : Av Z h t .byte ((cs.map lo8).map Value.int)) (hl : cs.length < 100000) {i : Nat} {cc : Int32} (hc : cs[i]? = some cc) (h1 : Ch cc) (h2 : cc.toInt ≤ 255) (O : Old Z n0 h) : Con l Z n0 ⟨"java/lang/StringLatin1", "charAt", "([BI)C"⟩ jdk_43_method_2_code 2 (some (.char)) [] ({ frames := 2, cells := 0, slots := 0, locals := 27 } : Room) #[.ref t, .int (Int32.ofNat i)] h (fun v h' => v = some (.int cc) ∧ h = h') := by
  refine Con.ofH (plainFor_of_name pn2) (L0 := #[.val (.ref t), .val (.int (Int32.ofNat i))]) (fun m => by first | (simp [entryFrame, mkF, argsToLocals, Value.category]; done) | rfl) ?_
  intro p e s m below meth c T K hret hnm N hs
  have O0 : Old Z n0 s.heap := by rw [hs]; exact O
  have hi : i < cs.length := (List.getElem?_eq_some_iff.mp hc).1
  have g1 : Ld p e below T (mkF m 0 #[.val (.ref t), .val (.int (Int32.ofNat i))] []) T (mkF m 3 #[.val (.ref t), .val (.int (Int32.ofNat i))] [(.int (Int32.ofNat cs.length)), (.int (Int32.ofNat i))]) := goRun K N #[] [(0, .iload_n 1, 1), (1, .aload_n 0, 1), (2, .arraylength, 1)] [.int (Int32.ofNat cs.length)] (P := (Ln Z h t (Int32.ofNat cs.length)) ∧ True) (by decide +kernel) rfl ⟨(F.ln (by rw [n_ti (by omega)]; simp)), trivial⟩
  obtain ⟨v2, T2, _, N2, ⟨rfl, rfl⟩, g2⟩ := goS K N (tw hw 67 rfl) (tw hw 68 rfl) (tw hw 8 rfl) (tw hw 69 rfl) (con_ci hw sf i cs.length hi (by omega) O) (argsL := [(.int (Int32.ofNat i)), (.int (Int32.ofNat cs.length))]) (W := 0) (rest := []) (by decide) (by decide) (by decide) (by decide) (by decide) (L := #[.val (.ref t), .val (.int (Int32.ofNat i))]) rfl pd1 rfl (Nat.le_of_eq rfl) (pc := 3) (by decide +kernel)
  have g3 : Ld p e below T2 (mkF m 6 #[.val (.ref t), .val (.int (Int32.ofNat i))] []) T2 (mkF m 14 #[.val (.ref t), .val (.int (Int32.ofNat i))] [(.int (((lo8 cc) &&& (255 : Int32)).toUInt32.toUInt16.toUInt32.toInt32))]) := goRun K N2 #[] [(6, .aload_n 0, 1), (7, .iload_n 1, 1), (8, .baload, 1), (9, .sipush 255, 3), (12, .iand, 1), (13, .i2c, 1)] [.int (lo8 cc)] (P := (Rd Z h t .byte (Int32.ofNat i) (.int (lo8 cc))) ∧ True) (by decide +kernel) rfl ⟨(F.rd (n_ti (by omega)) (gti (by simp [hc]))), trivial⟩
  rw [latin_back h1 h2] at g3
  exact ⟨_, T2, _, h, _, _, N2, by decide, by decide, fun q => (nomatch q), ⟨by rw [nar_ch h1], rfl⟩, g1.trans (g2.trans g3), finN K N2 hret (Or.inr (Or.inr (Or.inl rfl))) (by decide +kernel)⟩
set_option maxHeartbeats 1000000 in
theorem con_il0 (hw : ∀ d ∈ tables_1, d.before a0 Z = true) {z : Int32} {fm : Value} (sf : SF Z z fm) {a : Addr} (F : Fld Z h a "java/lang/String" "coder" "B" (.int 0)) (O : Old Z n0 h) : Con l Z n0 ⟨"java/lang/String", "isLatin1", "()Z"⟩ jdk_42_method_154_code 1 (some (.boolean)) [] ({ frames := 0, cells := 0, slots := 0, locals := 0 } : Room) #[.ref a] h (fun v h' => v = some (.int 1) ∧ h = h') := by
  refine Con.ofH (plainFor_of_name pn1) (L0 := #[.val (.ref a)]) (fun m => by first | (simp [entryFrame, mkF, argsToLocals, Value.category]; done) | rfl) ?_
  intro p e s m below meth c T K hret hnm N hs
  have O0 : Old Z n0 s.heap := by rw [hs]; exact O
  obtain ⟨T1, N1, g1⟩ := goSta K N (tw hw 19 rfl) (sf.1.ext (N.old O0).2) (pc := 0) (L := #[.val (.ref a)]) (S := []) (by decide +kernel)
  have g2 : Ld p e below T1 (mkF m 3 #[.val (.ref a)] [(.int z)]) T1 (mkF m 7 #[.val (.ref a)] [(.ref a)]) := goRun K N1 #[] [(3, .ifCond .eq 14, 3), (6, .aload_n 0, 1)] [.null] (P := (¬ z = (0 : Int32)) ∧ True) (by decide +kernel) rfl ⟨sf.2.1, trivial⟩
  obtain ⟨T3, N3, g3⟩ := goGet K N1 (tw hw 31 rfl) F (pc := 7) (L := #[.val (.ref a)]) (S := []) (by decide +kernel)
  have g4 : Ld p e below T3 (mkF m 10 #[.val (.ref a)] [(.int (0 : Int32))]) T3 (mkF m 18 #[.val (.ref a)] [(.int (1 : Int32))]) := goRun K N3 #[] [(10, .ifCond .ne 7, 3), (13, .iconst 1, 1), (14, .goto 4, 3)] [.null] (P := ((0 : Int32) = (0 : Int32)) ∧ True) (by decide +kernel) rfl ⟨rfl, trivial⟩
  exact ⟨_, T3, _, h, _, _, N3, by decide, by decide, fun q => (nomatch q), ⟨sb1, rfl⟩, g1.trans (g2.trans (g3.trans g4)), finN K N3 hret (Or.inl rfl) (by decide +kernel)⟩
set_option maxHeartbeats 1000000 in
theorem con_il1 (hw : ∀ d ∈ tables_1, d.before a0 Z = true) {z : Int32} {fm : Value} (sf : SF Z z fm) {a : Addr} (F : Fld Z h a "java/lang/String" "coder" "B" (.int 1)) (O : Old Z n0 h) : Con l Z n0 ⟨"java/lang/String", "isLatin1", "()Z"⟩ jdk_42_method_154_code 1 (some (.boolean)) [] ({ frames := 0, cells := 0, slots := 0, locals := 0 } : Room) #[.ref a] h (fun v h' => v = some (.int 0) ∧ h = h') := by
  refine Con.ofH (plainFor_of_name pn1) (L0 := #[.val (.ref a)]) (fun m => by first | (simp [entryFrame, mkF, argsToLocals, Value.category]; done) | rfl) ?_
  intro p e s m below meth c T K hret hnm N hs
  have O0 : Old Z n0 s.heap := by rw [hs]; exact O
  obtain ⟨T1, N1, g1⟩ := goSta K N (tw hw 19 rfl) (sf.1.ext (N.old O0).2) (pc := 0) (L := #[.val (.ref a)]) (S := []) (by decide +kernel)
  have g2 : Ld p e below T1 (mkF m 3 #[.val (.ref a)] [(.int z)]) T1 (mkF m 7 #[.val (.ref a)] [(.ref a)]) := goRun K N1 #[] [(3, .ifCond .eq 14, 3), (6, .aload_n 0, 1)] [.null] (P := (¬ z = (0 : Int32)) ∧ True) (by decide +kernel) rfl ⟨sf.2.1, trivial⟩
  obtain ⟨T3, N3, g3⟩ := goGet K N1 (tw hw 31 rfl) F (pc := 7) (L := #[.val (.ref a)]) (S := []) (by decide +kernel)
  have g4 : Ld p e below T3 (mkF m 10 #[.val (.ref a)] [(.int (1 : Int32))]) T3 (mkF m 18 #[.val (.ref a)] [(.int (0 : Int32))]) := goRun K N3 #[] [(10, .ifCond .ne 7, 3), (17, .iconst 0, 1)] [.ref 0] (P := (¬ (1 : Int32) = (0 : Int32)) ∧ True) (by decide +kernel) rfl ⟨(by decide), trivial⟩
  exact ⟨_, T3, _, h, _, _, N3, by decide, by decide, fun q => (nomatch q), ⟨sb0, rfl⟩, g1.trans (g2.trans (g3.trans g4)), finN K N3 hret (Or.inl rfl) (by decide +kernel)⟩
theorem pn3 : plainName "java/lang/StringUTF16" = true := by first | (simp [plainName, overriddenIn]; done) | decide +kernel
theorem pd5 : parseMethodDescriptor "([B)I" = some ⟨[.array .byte], some (.int)⟩ := by decide +kernel
set_option maxHeartbeats 1000000 in
theorem con_ul {t : Addr} {vs : List Value} {n : Nat} (F : Av Z h t .byte vs) (hl : vs.length = 2 * n) (hn : n < 100000) : Con l Z n0 ⟨"java/lang/StringUTF16", "length", "([B)I"⟩ jdk_52_method_6_code 1 (some (.int)) [] ({ frames := 0, cells := 0, slots := 0, locals := 0 } : Room) #[.ref t] h (fun v h' => v = some (.int (Int32.ofNat n)) ∧ h = h') := by
  refine Con.ofH (plainFor_of_name pn3) (L0 := #[.val (.ref t)]) (fun m => by first | (simp [entryFrame, mkF, argsToLocals, Value.category]; done) | rfl) ?_
  intro p e s m below meth c T K hret hnm N hs
  have g1 : Ld p e below T (mkF m 0 #[.val (.ref t)] []) T (mkF m 4 #[.val (.ref t)] [(.int ((Int32.ofNat (2 * n)) >>> ((1 : Int32) &&& 31)))]) := goRun K N #[] [(0, .aload_n 0, 1), (1, .arraylength, 1), (2, .iconst 1, 1), (3, .ishr, 1)] [.int (Int32.ofNat (2 * n))] (P := (Ln Z h t (Int32.ofNat (2 * n))) ∧ True) (by decide +kernel) rfl ⟨(F.ln (by rw [n_ti (by omega), hl])), trivial⟩
  rw [n_shr1 (by omega), show 2 * n / 2 = n by omega] at g1
  exact ⟨_, T, _, h, _, _, N, by decide, by decide, fun q => (nomatch q), ⟨rfl, rfl⟩, g1, finI K N hret (by decide +kernel)⟩
set_option maxHeartbeats 1000000 in
theorem con_gc (hw : ∀ d ∈ tables_1, d.before a0 Z = true) {z : Int32} {fm : Value} (sf : SF Z z fm) {t : Addr} {cs : List Int32} (F : Av Z h t .byte ((u16 cs).map Value.int)) (hl : cs.length < 100000) {i : Nat} {cc : Int32} (hc : cs[i]? = some cc) (h1 : Ch cc) (O : Old Z n0 h) : Con l Z n0 ⟨"java/lang/StringUTF16", "getChar", "([BI)C"⟩ jdk_52_method_5_code 2 (some (.char)) [] ({ frames := 0, cells := 0, slots := 0, locals := 0 } : Room) #[.ref t, .int (Int32.ofNat i)] h (fun v h' => v = some (.int cc) ∧ h = h') := by
  refine Con.ofH (plainFor_of_name pn3) (L0 := #[.val (.ref t), .val (.int (Int32.ofNat i))]) (fun m => by first | (simp [entryFrame, mkF, argsToLocals, Value.category]; done) | rfl) ?_
  intro p e s m below meth c T K hret hnm N hs
  have O0 : Old Z n0 s.heap := by rw [hs]; exact O
  have hi : i < cs.length := (List.getElem?_eq_some_iff.mp hc).1
  obtain ⟨u1, u2⟩ := u16_lo cs i cc hc
  obtain ⟨T1, N1, g1⟩ := goSta K N (tw hw 88 rfl) (sf.2.2.2.2.1.ext (N.old O0).2) (pc := 0) (L := #[.val (.ref t), .val (.int (Int32.ofNat i))]) (S := []) (by decide +kernel)
  have g2 : Ld p e below T1 (mkF m 3 #[.val (.ref t), .val (.int (Int32.ofNat i))] [(.int (1 : Int32))]) T1 (mkF m 32 #[.val (.ref t), .val (.int ((Int32.ofNat i) <<< ((1 : Int32) &&& 31)))] []) := goRun K N1 #[] [(3, .ifCond .ne 25, 3), (28, .iload_n 1, 1), (29, .iconst 1, 1), (30, .ishl, 1), (31, .istore_n 1, 1)] [.ref 0] (P := (¬ (1 : Int32) = (0 : Int32)) ∧ True) (by decide +kernel) rfl ⟨(by decide), trivial⟩
  rw [n_shl1 (by omega)] at g2
  have g3 : Ld p e below T1 (mkF m 32 #[.val (.ref t), .val (.int (Int32.ofNat (2 * i)))] []) T1 (mkF m 42 #[.val (.ref t), .val (.int ((Int32.ofNat (2 * i)) + (1 : Int32)))] [(.int ((lo8 cc) &&& (255 : Int32)))]) := goRun K N1 #[] [(32, .aload_n 0, 1), (33, .iload_n 1, 1), (34, .iinc 1 1, 3), (37, .baload, 1), (38, .sipush 255, 3), (41, .iand, 1)] [.int (lo8 cc)] (P := (Rd Z h t .byte (Int32.ofNat (2 * i)) (.int (lo8 cc))) ∧ True) (by decide +kernel) rfl ⟨(F.rd (n_ti (by omega)) (gti u1)), trivial⟩
  rw [n_one] at g3
  obtain ⟨T4, N4, g4⟩ := goSta K N1 (tw hw 89 rfl) (sf.2.2.2.2.2.1.ext (N1.old O0).2) (pc := 42) (L := #[.val (.ref t), .val (.int (Int32.ofNat (2 * i + 1)))]) (S := [(.int ((lo8 cc) &&& (255 : Int32)))]) (by decide +kernel)
  have g5 : Ld p e below T4 (mkF m 45 #[.val (.ref t), .val (.int (Int32.ofNat (2 * i + 1)))] [(.int (0 : Int32)), (.int ((lo8 cc) &&& (255 : Int32)))]) T4 (mkF m 53 #[.val (.ref t), .val (.int (Int32.ofNat (2 * i + 1)))] [(.int ((hi8 cc) &&& (255 : Int32))), (.int (((lo8 cc) &&& (255 : Int32)) <<< ((0 : Int32) &&& 31)))]) := goRun K N4 #[] [(45, .ishl, 1), (46, .aload_n 0, 1), (47, .iload_n 1, 1), (48, .baload, 1), (49, .sipush 255, 3), (52, .iand, 1)] [.int (hi8 cc)] (P := (Rd Z h t .byte (Int32.ofNat (2 * i + 1)) (.int (hi8 cc))) ∧ True) (by decide +kernel) rfl ⟨(F.rd (n_ti (by omega)) (gti u2)), trivial⟩
  obtain ⟨T6, N6, g6⟩ := goSta K N4 (tw hw 90 rfl) (sf.2.2.2.2.2.2.ext (N4.old O0).2) (pc := 53) (L := #[.val (.ref t), .val (.int (Int32.ofNat (2 * i + 1)))]) (S := [(.int ((hi8 cc) &&& (255 : Int32))), (.int (((lo8 cc) &&& (255 : Int32)) <<< ((0 : Int32) &&& 31)))]) (by decide +kernel)
  have g7 : Ld p e below T6 (mkF m 56 #[.val (.ref t), .val (.int (Int32.ofNat (2 * i + 1)))] [(.int (8 : Int32)), (.int ((hi8 cc) &&& (255 : Int32))), (.int (((lo8 cc) &&& (255 : Int32)) <<< ((0 : Int32) &&& 31)))]) T6 (mkF m 59 #[.val (.ref t), .val (.int (Int32.ofNat (2 * i + 1)))] [(.int (((((lo8 cc) &&& (255 : Int32)) <<< ((0 : Int32) &&& 31)) ||| (((hi8 cc) &&& (255 : Int32)) <<< ((8 : Int32) &&& 31))).toUInt32.toUInt16.toUInt32.toInt32))]) := goRun K N6 #[] [(56, .ishl, 1), (57, .ior, 1), (58, .i2c, 1)] [] (P := True) (by decide +kernel) rfl trivial
  rw [utf_back h1] at g7
  exact ⟨_, T6, _, h, _, _, N6, by decide, by decide, fun q => (nomatch q), ⟨by rw [nar_ch h1], rfl⟩, g1.trans (g2.trans (g3.trans (g4.trans (g5.trans (g6.trans g7))))), finN K N6 hret (Or.inr (Or.inr (Or.inl rfl))) (by decide +kernel)⟩
theorem pd6 : parseMethodDescriptor "(I[B)V" = some ⟨[.int, .array .byte], none⟩ := by decide +kernel
set_option maxHeartbeats 1000000 in
theorem con_uci (hw : ∀ d ∈ tables_1, d.before a0 Z = true) {z : Int32} {fm : Value} (sf : SF Z z fm) {t : Addr} {vs : List Value} {n : Nat} (F : Av Z h t .byte vs) (hl : vs.length = 2 * n) (hn : n < 100000) (i : Nat) (hi : i < n) (O : Old Z n0 h) : Con l Z n0 ⟨"java/lang/StringUTF16", "checkIndex", "(I[B)V"⟩ jdk_52_method_91_code 2 none [] ({ frames := 2, cells := 0, slots := 0, locals := 27 } : Room) #[.int (Int32.ofNat i), .ref t] h (fun v h' => v = none ∧ h = h') := by
  refine Con.ofH (plainFor_of_name pn3) (L0 := #[.val (.int (Int32.ofNat i)), .val (.ref t)]) (fun m => by first | (simp [entryFrame, mkF, argsToLocals, Value.category]; done) | rfl) ?_
  intro p e s m below meth c T K hret hnm N hs
  have O0 : Old Z n0 s.heap := by rw [hs]; exact O
  have g1 : Ld p e below T (mkF m 0 #[.val (.int (Int32.ofNat i)), .val (.ref t)] []) T (mkF m 2 #[.val (.int (Int32.ofNat i)), .val (.ref t)] [(.ref t), (.int (Int32.ofNat i))]) := goRun K N #[] [(0, .iload_n 0, 1), (1, .aload_n 1, 1)] [] (P := True) (by decide +kernel) rfl trivial
  obtain ⟨v2, T2, _, N2, ⟨rfl, rfl⟩, g2⟩ := goS K N (tw hw 100 rfl) (tw hw 101 rfl) (tw hw 22 rfl) (tw hw 102 rfl) (con_ul F hl hn) (argsL := [(.ref t)]) (W := 1) (rest := [(.int (Int32.ofNat i))]) (by decide) (by decide) (by decide) (by decide) (by decide) (L := #[.val (.int (Int32.ofNat i)), .val (.ref t)]) rfl pd5 rfl (Nat.le_of_eq rfl) (pc := 2) (by decide +kernel)
  obtain ⟨v3, T3, _, N3, ⟨rfl, rfl⟩, g3⟩ := goS K N2 (tw hw 103 rfl) (tw hw 68 rfl) (tw hw 8 rfl) (tw hw 69 rfl) (con_ci hw sf i n hi (by omega) O) (argsL := [(.int (Int32.ofNat i)), (.int (Int32.ofNat n))]) (W := 0) (rest := []) (by decide) (by decide) (by decide) (by decide) (by decide) (L := #[.val (.int (Int32.ofNat i)), .val (.ref t)]) rfl pd1 rfl (Nat.le_of_eq rfl) (pc := 5) (by decide +kernel)
  exact ⟨none, T3, _, h, _, _, N3, by decide, by decide, fun _ => rfl, ⟨rfl, rfl⟩, g1.trans (g2.trans g3), finV K N3 hret (by decide +kernel)⟩
set_option maxHeartbeats 1000000 in
theorem con_uca (hw : ∀ d ∈ tables_1, d.before a0 Z = true) {z : Int32} {fm : Value} (sf : SF Z z fm) {t : Addr} {cs : List Int32} (F : Av Z h t .byte ((u16 cs).map Value.int)) (hl : cs.length < 100000) {i : Nat} {cc : Int32} (hc : cs[i]? = some cc) (h1 : Ch cc) (O : Old Z n0 h) : Con l Z n0 ⟨"java/lang/StringUTF16", "charAt", "([BI)C"⟩ jdk_52_method_83_code 2 (some (.char)) [] ({ frames := 3, cells := 0, slots := 0, locals := 40 } : Room) #[.ref t, .int (Int32.ofNat i)] h (fun v h' => v = some (.int cc) ∧ h = h') := by
  refine Con.ofH (plainFor_of_name pn3) (L0 := #[.val (.ref t), .val (.int (Int32.ofNat i))]) (fun m => by first | (simp [entryFrame, mkF, argsToLocals, Value.category]; done) | rfl) ?_
  intro p e s m below meth c T K hret hnm N hs
  have O0 : Old Z n0 s.heap := by rw [hs]; exact O
  have hi : i < cs.length := (List.getElem?_eq_some_iff.mp hc).1
  have g1 : Ld p e below T (mkF m 0 #[.val (.ref t), .val (.int (Int32.ofNat i))] []) T (mkF m 2 #[.val (.ref t), .val (.int (Int32.ofNat i))] [(.ref t), (.int (Int32.ofNat i))]) := goRun K N #[] [(0, .iload_n 1, 1), (1, .aload_n 0, 1)] [] (P := True) (by decide +kernel) rfl trivial
  obtain ⟨v2, T2, _, N2, ⟨rfl, rfl⟩, g2⟩ := goS K N (tw hw 97 rfl) (tw hw 98 rfl) (tw hw 22 rfl) (tw hw 99 rfl) (con_uci hw sf F (by rw [List.length_map, u16_len]) hl i hi O) (argsL := [(.int (Int32.ofNat i)), (.ref t)]) (W := 0) (rest := []) (by decide) (by decide) (by decide) (by decide) (by decide) (L := #[.val (.ref t), .val (.int (Int32.ofNat i))]) rfl pd6 rfl (Nat.le_of_eq rfl) (pc := 2) (by decide +kernel)
  have g3 : Ld p e below T2 (mkF m 5 #[.val (.ref t), .val (.int (Int32.ofNat i))] []) T2 (mkF m 7 #[.val (.ref t), .val (.int (Int32.ofNat i))] [(.int (Int32.ofNat i)), (.ref t)]) := goRun K N2 #[] [(5, .aload_n 0, 1), (6, .iload_n 1, 1)] [] (P := True) (by decide +kernel) rfl trivial
  obtain ⟨v4, T4, _, N4, ⟨rfl, rfl⟩, g4⟩ := goS K N2 (tw hw 91 rfl) (tw hw 92 rfl) (tw hw 22 rfl) (tw hw 93 rfl) (con_gc hw sf F hl hc h1 O) (argsL := [(.ref t), (.int (Int32.ofNat i))]) (W := 0) (rest := []) (by decide) (by decide) (by decide) (by decide) (by decide) (L := #[.val (.ref t), .val (.int (Int32.ofNat i))]) rfl pd2 rfl (Nat.le_of_eq rfl) (pc := 7) (by decide +kernel)
  exact ⟨_, T4, _, h, _, _, N4, by decide, by decide, fun q => (nomatch q), ⟨by rw [nar_ch h1], rfl⟩, g1.trans (g2.trans (g3.trans g4)), finN K N4 hret (Or.inr (Or.inr (Or.inl rfl))) (by decide +kernel)⟩
set_option maxHeartbeats 1000000 in
theorem con_ca (hw : ∀ d ∈ tables_1, d.before a0 Z = true) {z : Int32} {fm : Value} (sf : SF Z z fm) {a t : Addr} {cs : List Int32} (F : Stv Z h a t cs) {i : Nat} {cc : Int32} (hc : cs[i]? = some cc) (O : Old Z n0 h) : Con l Z n0 ⟨"java/lang/String", "charAt", "(I)C"⟩ jdk_42_method_56_code 2 (some (.char)) [] ({ frames := 4, cells := 0, slots := 0, locals := 53 } : Room) #[.ref a, .int (Int32.ofNat i)] h (fun v h' => v = some (.int cc) ∧ h = h') := by
  refine Con.ofH (plainFor_of_name pn1) (L0 := #[.val (.ref a), .val (.int (Int32.ofNat i))]) (fun m => by first | (simp [entryFrame, mkF, argsToLocals, Value.category]; done) | rfl) ?_
  intro p e s m below meth c T K hret hnm N hs
  have O0 : Old Z n0 s.heap := by rw [hs]; exact O
  obtain ⟨X, f1, f2, f3, f4⟩ := F
  have h1 : Ch cc := f1 _ (List.mem_of_getElem? hc)
  have g1 : Ld p e below T (mkF m 0 #[.val (.ref a), .val (.int (Int32.ofNat i))] []) T (mkF m 1 #[.val (.ref a), .val (.int (Int32.ofNat i))] [(.ref a)]) := goRun K N #[] [(0, .aload_n 0, 1)] [] (P := True) (by decide +kernel) rfl trivial
  rcases f4 with ⟨f5, f6, f7⟩ | ⟨f5, f7⟩
  · obtain ⟨v2, T2, _, N2, ⟨rfl, rfl⟩, g2⟩ := goVi K N (a := a) X (tw hw 58 rfl) (tw hw 59 rfl) (tw hw 61 rfl) (tw hw 60 rfl) (tw hw 8 rfl) (tw hw 62 rfl) (con_il0 hw sf f5 O) (argsL := []) (W := 0) (rest := []) (by decide) (by decide) (by decide) (by decide) (by decide) (L := #[.val (.ref a), .val (.int (Int32.ofNat i))]) rfl pd3 rfl (Nat.le_of_eq rfl) (pc := 1) (by decide +kernel)
    have g3 : Ld p e below T2 (mkF m 4 #[.val (.ref a), .val (.int (Int32.ofNat i))] [(.int (1 : Int32))]) T2 (mkF m 8 #[.val (.ref a), .val (.int (Int32.ofNat i))] [(.ref a)]) := goRun K N2 #[] [(4, .ifCond .eq 12, 3), (7, .aload_n 0, 1)] [.null] (P := (¬ (1 : Int32) = (0 : Int32)) ∧ True) (by decide +kernel) rfl ⟨(by decide), trivial⟩
    obtain ⟨T4, N4, g4⟩ := goGet K N2 (tw hw 33 rfl) f3 (pc := 8) (L := #[.val (.ref a), .val (.int (Int32.ofNat i))]) (S := []) (by decide +kernel)
    have g5 : Ld p e below T4 (mkF m 11 #[.val (.ref a), .val (.int (Int32.ofNat i))] [(.ref t)]) T4 (mkF m 12 #[.val (.ref a), .val (.int (Int32.ofNat i))] [(.int (Int32.ofNat i)), (.ref t)]) := goRun K N4 #[] [(11, .iload_n 1, 1)] [] (P := True) (by decide +kernel) rfl trivial
    obtain ⟨v6, T6, _, N6, ⟨rfl, rfl⟩, g6⟩ := goS K N4 (tw hw 63 rfl) (tw hw 64 rfl) (tw hw 65 rfl) (tw hw 66 rfl) (con_lca hw sf f7 (by omega) hc h1 (f6 _ (List.mem_of_getElem? hc)) O) (argsL := [(.ref t), (.int (Int32.ofNat i))]) (W := 0) (rest := []) (by decide) (by decide) (by decide) (by decide) (by decide) (L := #[.val (.ref a), .val (.int (Int32.ofNat i))]) rfl pd2 rfl (Nat.le_of_eq rfl) (pc := 12) (by decide +kernel)
    exact ⟨_, T6, _, h, _, _, N6, by decide, by decide, fun q => (nomatch q), ⟨by rw [nar_ch h1], rfl⟩, g1.trans (g2.trans (g3.trans (g4.trans (g5.trans g6)))), finN K N6 hret (Or.inr (Or.inr (Or.inl rfl))) (by decide +kernel)⟩
  · obtain ⟨v2, T2, _, N2, ⟨rfl, rfl⟩, g2⟩ := goVi K N (a := a) X (tw hw 58 rfl) (tw hw 59 rfl) (tw hw 61 rfl) (tw hw 60 rfl) (tw hw 8 rfl) (tw hw 62 rfl) (con_il1 hw sf f5 O) (argsL := []) (W := 0) (rest := []) (by decide) (by decide) (by decide) (by decide) (by decide) (L := #[.val (.ref a), .val (.int (Int32.ofNat i))]) rfl pd3 rfl (Nat.le_of_eq rfl) (pc := 1) (by decide +kernel)
    have g3 : Ld p e below T2 (mkF m 4 #[.val (.ref a), .val (.int (Int32.ofNat i))] [(.int (0 : Int32))]) T2 (mkF m 17 #[.val (.ref a), .val (.int (Int32.ofNat i))] [(.ref a)]) := goRun K N2 #[] [(4, .ifCond .eq 12, 3), (16, .aload_n 0, 1)] [.ref 0] (P := ((0 : Int32) = (0 : Int32)) ∧ True) (by decide +kernel) rfl ⟨rfl, trivial⟩
    obtain ⟨T4, N4, g4⟩ := goGet K N2 (tw hw 33 rfl) f3 (pc := 17) (L := #[.val (.ref a), .val (.int (Int32.ofNat i))]) (S := []) (by decide +kernel)
    have g5 : Ld p e below T4 (mkF m 20 #[.val (.ref a), .val (.int (Int32.ofNat i))] [(.ref t)]) T4 (mkF m 21 #[.val (.ref a), .val (.int (Int32.ofNat i))] [(.int (Int32.ofNat i)), (.ref t)]) := goRun K N4 #[] [(20, .iload_n 1, 1)] [] (P := True) (by decide +kernel) rfl trivial
    obtain ⟨v6, T6, _, N6, ⟨rfl, rfl⟩, g6⟩ := goS K N4 (tw hw 94 rfl) (tw hw 95 rfl) (tw hw 22 rfl) (tw hw 96 rfl) (con_uca hw sf f7 (by omega) hc h1 O) (argsL := [(.ref t), (.int (Int32.ofNat i))]) (W := 0) (rest := []) (by decide) (by decide) (by decide) (by decide) (by decide) (L := #[.val (.ref a), .val (.int (Int32.ofNat i))]) rfl pd2 rfl (Nat.le_of_eq rfl) (pc := 21) (by decide +kernel)
    exact ⟨_, T6, _, h, _, _, N6, by decide, by decide, fun q => (nomatch q), ⟨by rw [nar_ch h1], rfl⟩, g1.trans (g2.trans (g3.trans (g4.trans (g5.trans g6)))), finN K N6 hret (Or.inr (Or.inr (Or.inl rfl))) (by decide +kernel)⟩
theorem take_succ_of {α : Type} {cs : List α} {i : Nat} {c : α} (q : cs[i]? = some c) : cs.take (i + 1) = cs.take i ++ [c] := by
  rw [List.take_add_one, q]; rfl
theorem u16_app (a b : List Int32) : u16 (a ++ b) = u16 a ++ u16 b := by simp [u16]
def wv (cs : List Int32) (i : Nat) : List Value := (u16 (cs.take i)).map Value.int ++ List.replicate (2 * (cs.length - i)) (.int 0)
theorem wv_len {cs : List Int32} {i : Nat} (q : i ≤ cs.length) : (wv cs i).length = 2 * cs.length := by
  simp only [wv, List.length_append, List.length_map, u16_len, List.length_take, List.length_replicate]; omega
theorem wv_0 (cs : List Int32) : wv cs 0 = List.replicate (2 * cs.length) (.int 0) := by simp [wv, u16]
theorem wv_n (cs : List Int32) : wv cs cs.length = (u16 cs).map Value.int := by simp [wv]
theorem set2 {α : Type} (A R : List α) (z1 z2 x y : α) {k : Nat} (hk : k = A.length) : ((A ++ z1 :: z2 :: R).set k x).set (k + 1) y = A ++ x :: y :: R := by
  subst hk; simp
theorem set1 {α : Type} (A R : List α) (z x : α) {k : Nat} (hk : k = A.length) : (A ++ z :: R).set k x = A ++ x :: R := by
  subst hk; simp
theorem wv_set {cs : List Int32} {i : Nat} {c : Int32} (q : cs[i]? = some c) : ((wv cs i).set (2 * i) (.int (lo8 c))).set (2 * i + 1) (.int (hi8 c)) = wv cs (i + 1) := by
  have hi : i < cs.length := (List.getElem?_eq_some_iff.mp q).1
  unfold wv
  rw [show 2 * (cs.length - i) = (2 * (cs.length - (i + 1))) + 1 + 1 by omega, List.replicate_succ, List.replicate_succ]
  rw [set2 _ _ _ _ _ _ (by rw [List.length_map, u16_len, List.length_take]; omega), take_succ_of q, u16_app]
  simp [u16]
def bv (cs : List Int32) (i : Nat) : List Value := ((cs.take i).map lo8).map Value.int ++ List.replicate (cs.length - i) (.int 0)
theorem bv_len {cs : List Int32} {i : Nat} (q : i ≤ cs.length) : (bv cs i).length = cs.length := by
  simp only [bv, List.length_append, List.length_map, List.length_take, List.length_replicate]; omega
theorem bv_0 (cs : List Int32) : bv cs 0 = List.replicate cs.length (.int 0) := by simp [bv]
theorem bv_n (cs : List Int32) : bv cs cs.length = (cs.map lo8).map Value.int := by simp [bv]
theorem bv_set {cs : List Int32} {i : Nat} {c : Int32} (q : cs[i]? = some c) : (bv cs i).set i (.int (lo8 c)) = bv cs (i + 1) := by
  have hi : i < cs.length := (List.getElem?_eq_some_iff.mp q).1
  unfold bv
  rw [show cs.length - i = (cs.length - (i + 1)) + 1 by omega, List.replicate_succ, take_succ_of q]
  rw [set1 _ _ _ _ (by simp; omega)]
  simp
theorem ushr_0 (n : Nat) : XT.ushr (Int32.ofNat n - Int32.ofNat n) (31 : Int32) = 0 := by rw [Int32.sub_self]; decide
theorem ushr_1 {n : Nat} (q : 0 < n) (r : n < 1073741824) : XT.ushr (Int32.ofNat n - Int32.ofNat (2 * n)) (31 : Int32) = 1 := by
  apply Int32.toBitVec_inj.mp
  apply BitVec.eq_of_toNat_eq
  show (((BitVec.ofNat 32 n) - (BitVec.ofNat 32 (2 * n))) >>> (((31 : Int32) &&& 31).toBitVec.toNat)).toNat = 1
  rw [show ((31 : Int32) &&& 31).toBitVec.toNat = 31 from by decide, BitVec.toNat_ushiftRight, BitVec.toNat_sub, BitVec.toNat_ofNat, BitVec.toNat_ofNat, Nat.shiftRight_eq_div_pow]
  omega
theorem gt255 {c : Int32} (h : ¬ c.toInt ≤ 255) : ¬ ¬ (255 : Int32) < c := fun z => z (by rw [Int32.lt_iff_toInt_lt, show (255 : Int32).toInt = 255 from rfl]; omega)
theorem le255 {c : Int32} (h : c.toInt ≤ 255) : ¬ (255 : Int32) < c := by rw [Int32.lt_iff_toInt_lt, show (255 : Int32).toInt = 255 from rfl]; omega
theorem pd7 : parseMethodDescriptor "([CI[BII)I" = some ⟨[.array .char, .int, .array .byte, .int, .int], some (.int)⟩ := by decide +kernel
theorem pd8 : parseMethodDescriptor "([CII)[B" = some ⟨[.array .char, .int, .int], some (.array .byte)⟩ := by decide +kernel
theorem pd9 : parseMethodDescriptor "([BI)B" = some ⟨[.array .byte, .int], some (.byte)⟩ := by decide +kernel
theorem pd10 : parseMethodDescriptor "([CIILjava/lang/Void;)V" = some ⟨[.array .char, .int, .int, .object "java/lang/Void"], none⟩ := by decide +kernel
theorem pd11 : parseMethodDescriptor "([C)V" = some ⟨[.array .char], none⟩ := by decide +kernel
theorem pd12 : parseMethodDescriptor "(I)I" = some ⟨[.int], some (.int)⟩ := by decide +kernel
theorem pd13 : parseMethodDescriptor "(I)[B" = some ⟨[.int], some (.array .byte)⟩ := by decide +kernel
theorem pd14 : parseMethodDescriptor "([BII)V" = some ⟨[.array .byte, .int, .int], none⟩ := by decide +kernel
set_option maxHeartbeats 1000000 in
theorem con_nbl (hw : ∀ d ∈ tables_1, d.before a0 Z = true) (n : Nat) (hn : n < 100000) : Con l Z n0 ⟨"java/lang/StringUTF16", "newBytesLength", "(I)I"⟩ jdk_52_method_3_code 1 (some (.int)) [] ({ frames := 0, cells := 0, slots := 0, locals := 0 } : Room) #[.int (Int32.ofNat n)] h (fun v h' => v = some (.int (Int32.ofNat (2 * n))) ∧ h = h') := by
  refine Con.ofH (plainFor_of_name pn3) (L0 := #[.val (.int (Int32.ofNat n))]) (fun m => by first | (simp [entryFrame, mkF, argsToLocals, Value.category]; done) | rfl) ?_
  intro p e s m below meth c T K hret hnm N hs
  have g1 : Ld p e below T (mkF m 0 #[.val (.int (Int32.ofNat n))] []) T (mkF m 58 #[.val (.int (Int32.ofNat n))] [(.int ((Int32.ofNat n) <<< ((1 : Int32) &&& 31)))]) := goRun K N a0 [(0, .iload_n 0, 1), (1, .ifCond .ge 11, 3), (12, .iload_n 0, 1), (13, .ldc 20, 2), (15, .if_icmp .lt 40, 3), (55, .iload_n 0, 1), (56, .iconst 1, 1), (57, .ishl, 1)] [.ref 0, .int (1073741823 : Int32), .ref 0] (P := (¬ (Int32.ofNat n) < (0 : Int32)) ∧ ((Jvm.Cond.constant "java/lang/StringUTF16" 20 (1073741823 : Int32)).before a0 Z = true) ∧ ((Int32.ofNat n) < (1073741823 : Int32)) ∧ True) (by decide +kernel) rfl ⟨(not_neg_of (n_ti (by omega))), (tw hw 84 rfl), ((n_lt (i := n) (j := 1073741823) (by omega) (by omega)).mpr (by omega)), trivial⟩
  rw [n_shl1 (by omega)] at g1
  exact ⟨_, T, _, h, _, _, N, by decide, by decide, fun q => (nomatch q), ⟨rfl, rfl⟩, g1, finI K N hret (by decide +kernel)⟩
set_option maxHeartbeats 1000000 in
theorem con_nbf (hw : ∀ d ∈ tables_1, d.before a0 Z = true) (n : Nat) (hn : n ≤ 4) : Con l Z n0 ⟨"java/lang/StringUTF16", "newBytesFor", "(I)[B"⟩ jdk_52_method_2_code 1 (some (.array .byte)) [] ({ frames := 1, cells := 1, slots := 8, locals := 12 } : Room) #[.int (Int32.ofNat n)] h (fun v h' => ∃ t, v = some (.ref t) ∧ t = h.size ∧ Ext h h' ∧ Av Z h' t .byte (List.replicate (2 * n) (.int 0))) := by
  refine Con.ofH (plainFor_of_name pn3) (L0 := #[.val (.int (Int32.ofNat n))]) (fun m => by first | (simp [entryFrame, mkF, argsToLocals, Value.category]; done) | rfl) ?_
  intro p e s m below meth c T K hret hnm N hs
  have g1 : Ld p e below T (mkF m 0 #[.val (.int (Int32.ofNat n))] []) T (mkF m 1 #[.val (.int (Int32.ofNat n))] [(.int (Int32.ofNat n))]) := goRun K N #[] [(0, .iload_n 0, 1)] [] (P := True) (by decide +kernel) rfl trivial
  obtain ⟨v2, T2, _, N2, ⟨rfl, rfl⟩, g2⟩ := goS K N (tw hw 81 rfl) (tw hw 82 rfl) (tw hw 22 rfl) (tw hw 83 rfl) (con_nbl hw n (by omega)) (argsL := [(.int (Int32.ofNat n))]) (W := 0) (rest := []) (by decide) (by decide) (by decide) (by decide) (by decide) (L := #[.val (.int (Int32.ofNat n))]) rfl pd12 rfl (Nat.le_of_eq rfl) (pc := 1) (by decide +kernel)
  have hn1 : (Int32.ofNat (2 * n)).toInt = ((2 * n : Nat) : Int) := n_ti (by omega)
  obtain ⟨T3, h3, a3, cA3, ea3, N3, E3, A3, g3⟩ := goNewP K N2 (aty := .byte) (tw hw 24 rfl) (n := Int32.ofNat (2 * n)) (not_neg_of hn1) (cap := 8) (by rw [clamp_of hn1]; omega) (by decide) (by decide) (by decide) (pc := 4) (L := #[.val (.int (Int32.ofNat n))]) (S := []) (by decide +kernel)
  have A3 := Av.new A3 (not_neg_of hn1) hn1
  have ha3 : n0 ≤ a3 := ea3 ▸ N2.size
  exact ⟨_, T3, _, h3, _, _, N3, by decide, by decide, fun q => (nomatch q), ⟨_, rfl, ea3, E3, A3⟩, g1.trans (g2.trans g3), finA K N3 hret rfl rfl rfl (by decide +kernel)⟩
set_option maxHeartbeats 1000000 in
theorem con_pc (hw : ∀ d ∈ tables_1, d.before a0 Z = true) {z : Int32} {fm : Value} (sf : SF Z z fm) {t : Addr} {vs : List Value} {n : Nat} (F : Av Z h t .byte vs) (hl : vs.length = 2 * n) (hn : n < 100000) {i : Nat} (hi : i < n) (cc : Int32) (ha : n0 ≤ t) (O : Old Z n0 h) : Con l Z n0 ⟨"java/lang/StringUTF16", "putChar", "([BII)V"⟩ jdk_52_method_4_code 3 none [] ({ frames := 0, cells := 0, slots := 0, locals := 0 } : Room) #[.ref t, .int (Int32.ofNat i), .int cc] h (fun v h' => v = none ∧ Keep h h' [t] ∧ Av Z h' t .byte ((vs.set (2 * i) (.int (lo8 cc))).set (2 * i + 1) (.int (hi8 cc)))) := by
  refine Con.ofH (plainFor_of_name pn3) (L0 := #[.val (.ref t), .val (.int (Int32.ofNat i)), .val (.int cc)]) (fun m => by first | (simp [entryFrame, mkF, argsToLocals, Value.category]; done) | rfl) ?_
  intro p e s m below meth c T K hret hnm N hs
  have O0 : Old Z n0 s.heap := by rw [hs]; exact O
  obtain ⟨T1, N1, g1⟩ := goSta K N (tw hw 88 rfl) (sf.2.2.2.2.1.ext (N.old O0).2) (pc := 0) (L := #[.val (.ref t), .val (.int (Int32.ofNat i)), .val (.int cc)]) (S := []) (by decide +kernel)
  have g2 : Ld p e below T1 (mkF m 3 #[.val (.ref t), .val (.int (Int32.ofNat i)), .val (.int cc)] [(.int (1 : Int32))]) T1 (mkF m 32 #[.val (.ref t), .val (.int ((Int32.ofNat i) <<< ((1 : Int32) &&& 31))), .val (.int cc)] []) := goRun K N1 #[] [(3, .ifCond .ne 25, 3), (28, .iload_n 1, 1), (29, .iconst 1, 1), (30, .ishl, 1), (31, .istore_n 1, 1)] [.ref 0] (P := (¬ (1 : Int32) = (0 : Int32)) ∧ True) (by decide +kernel) rfl ⟨(by decide), trivial⟩
  rw [n_shl1 (by omega)] at g2
  have g3 : Ld p e below T1 (mkF m 32 #[.val (.ref t), .val (.int (Int32.ofNat (2 * i))), .val (.int cc)] []) T1 (mkF m 38 #[.val (.ref t), .val (.int ((Int32.ofNat (2 * i)) + (1 : Int32))), .val (.int cc)] [(.int cc), (.int (Int32.ofNat (2 * i))), (.ref t)]) := goRun K N1 #[] [(32, .aload_n 0, 1), (33, .iload_n 1, 1), (34, .iinc 1 1, 3), (37, .iload_n 2, 1)] [] (P := True) (by decide +kernel) rfl trivial
  rw [n_one] at g3
  obtain ⟨T4, N4, g4⟩ := goSta K N1 (tw hw 89 rfl) (sf.2.2.2.2.2.1.ext (N1.old O0).2) (pc := 38) (L := #[.val (.ref t), .val (.int (Int32.ofNat (2 * i + 1))), .val (.int cc)]) (S := [(.int cc), (.int (Int32.ofNat (2 * i))), (.ref t)]) (by decide +kernel)
  have g5 : Ld p e below T4 (mkF m 41 #[.val (.ref t), .val (.int (Int32.ofNat (2 * i + 1))), .val (.int cc)] [(.int (0 : Int32)), (.int cc), (.int (Int32.ofNat (2 * i))), (.ref t)]) T4 (mkF m 43 #[.val (.ref t), .val (.int (Int32.ofNat (2 * i + 1))), .val (.int cc)] [(.int ((cc >>> ((0 : Int32) &&& 31)).toInt8.toInt32)), (.int (Int32.ofNat (2 * i))), (.ref t)]) := goRun K N4 #[] [(41, .ishr, 1), (42, .i2b, 1)] [] (P := True) (by decide +kernel) rfl trivial
  rw [sh0] at g5
  obtain ⟨T6, h6, N6, K6, A6, g6⟩ := avStB K N4 F (j := Int32.ofNat (2 * i)) (i := 2 * i) (x := cc.toInt8.toInt32) (n_ti (by omega)) (by omega) ha (pc := 43) (L := #[.val (.ref t), .val (.int (Int32.ofNat (2 * i + 1))), .val (.int cc)]) (S := []) (by decide +kernel)
  rw [nar_lo] at A6
  have g7 : Ld p e below T6 (mkF m 44 #[.val (.ref t), .val (.int (Int32.ofNat (2 * i + 1))), .val (.int cc)] []) T6 (mkF m 47 #[.val (.ref t), .val (.int (Int32.ofNat (2 * i + 1))), .val (.int cc)] [(.int cc), (.int (Int32.ofNat (2 * i + 1))), (.ref t)]) := goRun K N6 #[] [(44, .aload_n 0, 1), (45, .iload_n 1, 1), (46, .iload_n 2, 1)] [] (P := True) (by decide +kernel) rfl trivial
  obtain ⟨T8, N8, g8⟩ := goSta K N6 (tw hw 90 rfl) (sf.2.2.2.2.2.2.ext (N6.old O0).2) (pc := 47) (L := #[.val (.ref t), .val (.int (Int32.ofNat (2 * i + 1))), .val (.int cc)]) (S := [(.int cc), (.int (Int32.ofNat (2 * i + 1))), (.ref t)]) (by decide +kernel)
  have g9 : Ld p e below T8 (mkF m 50 #[.val (.ref t), .val (.int (Int32.ofNat (2 * i + 1))), .val (.int cc)] [(.int (8 : Int32)), (.int cc), (.int (Int32.ofNat (2 * i + 1))), (.ref t)]) T8 (mkF m 52 #[.val (.ref t), .val (.int (Int32.ofNat (2 * i + 1))), .val (.int cc)] [(.int ((cc >>> ((8 : Int32) &&& 31)).toInt8.toInt32)), (.int (Int32.ofNat (2 * i + 1))), (.ref t)]) := goRun K N8 #[] [(50, .ishr, 1), (51, .i2b, 1)] [] (P := True) (by decide +kernel) rfl trivial
  rw [sh8] at g9
  obtain ⟨T10, h10, N10, K10, A10, g10⟩ := avStB K N8 A6 (j := Int32.ofNat (2 * i + 1)) (i := 2 * i + 1) (x := (cc >>> (8 : Int32)).toInt8.toInt32) (n_ti (by omega)) (by simp; omega) ha (pc := 52) (L := #[.val (.ref t), .val (.int (Int32.ofNat (2 * i + 1))), .val (.int cc)]) (S := []) (by decide +kernel)
  rw [nar_lo] at A10
  exact ⟨none, T10, _, h10, _, _, N10, by decide, by decide, fun _ => rfl, ⟨rfl, K6.trans K10 (fun y hy => Or.inl hy), A10⟩, g1.trans (g2.trans (g3.trans (g4.trans (g5.trans (g6.trans (g7.trans (g8.trans (g9.trans g10)))))))), finV K N10 hret (by decide +kernel)⟩
set_option maxHeartbeats 1000000 in
theorem tb_loop (hw : ∀ d ∈ tables_1, d.before a0 Z = true) {z : Int32} {fm : Value} (sf : SF Z z fm) (K : Cx Z "java/lang/StringUTF16" jdk_52_method_14_code 5 p m c) {ca t : Addr} {cs : List Int32} (hl : cs.length ≤ 4000) (ha : n0 ≤ t) (hRf : 2 ≤ R.frames) (hRl : 40 ≤ R.locals) (hRc : cells ≤ R.cells) (hRs : slots ≤ R.slots) (O0 : Old Z n0 s.heap) : ∀ (k i : Nat) (T : State) (h : Heap), i + k = cs.length → Nw Z n0 h p l e R s m args below meth c T cells slots → Av Z h ca .char (cs.map Value.int) → Av Z h t .byte (wv cs i) →
    ∃ T' h', Nw Z n0 h' p l e R s m args below meth c T' cells slots ∧ Keep h h' [t] ∧ Av Z h' t .byte (wv cs cs.length) ∧ Ld p e below T (mkF m 8 #[.val (.ref ca), .val (.int (Int32.ofNat i)), .val (.int (Int32.ofNat cs.length)), .val (.ref t), .val (.int (Int32.ofNat i))] []) T' (mkF m 32 #[.val (.ref ca), .val (.int (Int32.ofNat cs.length)), .val (.int (Int32.ofNat cs.length)), .val (.ref t), .val (.int (Int32.ofNat cs.length))] []) := by
  intro k
  induction k with
  | zero =>
    intro i T h hi N C A
    have g1 : Ld p e below T (mkF m 8 #[.val (.ref ca), .val (.int (Int32.ofNat i)), .val (.int (Int32.ofNat cs.length)), .val (.ref t), .val (.int (Int32.ofNat i))] []) T (mkF m 32 #[.val (.ref ca), .val (.int (Int32.ofNat i)), .val (.int (Int32.ofNat cs.length)), .val (.ref t), .val (.int (Int32.ofNat i))] []) := goRun K N #[] [(8, .iload 4, 2), (10, .iload_n 2, 1), (11, .if_icmp .ge 21, 3)] [.ref 0] (P := (¬ (Int32.ofNat i) < (Int32.ofNat cs.length)) ∧ True) (by decide +kernel) rfl ⟨(by rw [n_lt (by omega) (by omega)]; omega), trivial⟩
    obtain rfl : i = cs.length := by omega
    exact ⟨T, h, N, Keep.refl _ _, A, g1⟩
  | succ k ih =>
    intro i T h hi N C A
    obtain ⟨cc, hc⟩ : ∃ cc, cs[i]? = some cc := ⟨cs[i]'(by omega), List.getElem?_eq_getElem (by omega)⟩
    have g1 : Ld p e below T (mkF m 8 #[.val (.ref ca), .val (.int (Int32.ofNat i)), .val (.int (Int32.ofNat cs.length)), .val (.ref t), .val (.int (Int32.ofNat i))] []) T (mkF m 20 #[.val (.ref ca), .val (.int (Int32.ofNat i)), .val (.int (Int32.ofNat cs.length)), .val (.ref t), .val (.int (Int32.ofNat i))] [(.int cc), (.int (Int32.ofNat i)), (.ref t)]) := goRun K N #[] [(8, .iload 4, 2), (10, .iload_n 2, 1), (11, .if_icmp .ge 21, 3), (14, .aload_n 3, 1), (15, .iload 4, 2), (17, .aload_n 0, 1), (18, .iload_n 1, 1), (19, .caload, 1)] [.null, .int cc] (P := ((Int32.ofNat i) < (Int32.ofNat cs.length)) ∧ (Rd Z h ca .char (Int32.ofNat i) (.int cc)) ∧ True) (by decide +kernel) rfl ⟨((n_lt (by omega) (by omega)).mpr (by omega)), (C.rd (n_ti (by omega)) (gti hc)), trivial⟩
    obtain ⟨v2, T2, h2, N2, ⟨rfl, K1, A1⟩, g2⟩ := goS K N (tw hw 85 rfl) (tw hw 86 rfl) (tw hw 22 rfl) (tw hw 87 rfl) (con_pc hw sf A (wv_len (by omega)) (by omega) (i := i) (by omega) cc ha (N.old O0)) (argsL := [(.ref t), (.int (Int32.ofNat i)), (.int cc)]) (W := 0) (rest := []) (by decide) (Nat.le_trans (by decide) hRf) (Nat.le_trans (by decide) hRl) (by simpa using hRc) (by simpa using hRs) (L := #[.val (.ref ca), .val (.int (Int32.ofNat i)), .val (.int (Int32.ofNat cs.length)), .val (.ref t), .val (.int (Int32.ofNat i))]) rfl pd14 rfl (Nat.le_of_eq rfl) (pc := 20) (by decide +kernel)
    rw [wv_set hc] at A1
    have g3 : Ld p e below T2 (mkF m 23 #[.val (.ref ca), .val (.int (Int32.ofNat i)), .val (.int (Int32.ofNat cs.length)), .val (.ref t), .val (.int (Int32.ofNat i))] []) T2 (mkF m 8 #[.val (.ref ca), .val (.int ((Int32.ofNat i) + (1 : Int32))), .val (.int (Int32.ofNat cs.length)), .val (.ref t), .val (.int ((Int32.ofNat i) + (1 : Int32)))] []) := goRun K N2 #[] [(23, .iinc 1 1, 3), (26, .iinc 4 1, 3), (29, .goto (-21), 3)] [] (P := True) (by decide +kernel) rfl trivial
    rw [n_one] at g3
    have ne : ca ≠ t := C.ne A (by decide)
    obtain ⟨T9, h9, N9, K9, A9, g9⟩ := ih (i + 1) T2 h2 (by omega) N2 (C.keep K1 (ninS ne nin0)) A1
    exact ⟨T9, h9, N9, K1.trans K9 (fun y hy => Or.inl hy), A9, g1.trans (g2.trans (g3.trans g9))⟩
set_option maxHeartbeats 1000000 in
theorem con_tb (hw : ∀ d ∈ tables_1, d.before a0 Z = true) {z : Int32} {fm : Value} (sf : SF Z z fm) {ca : Addr} {cs : List Int32} (C : Av Z h ca .char (cs.map Value.int)) (hl : cs.length ≤ 4) (O : Old Z n0 h) : Con l Z n0 ⟨"java/lang/StringUTF16", "toBytes", "([CII)[B"⟩ jdk_52_method_14_code 5 (some (.array .byte)) [] ({ frames := 2, cells := 1, slots := 8, locals := 40 } : Room) #[.ref ca, .int (0 : Int32), .int (Int32.ofNat cs.length)] h (fun v h' => ∃ t, v = some (.ref t) ∧ h.size ≤ t ∧ Keep h h' [] ∧ Av Z h' t .byte ((u16 cs).map Value.int)) := by
  refine Con.ofH (plainFor_of_name pn3) (L0 := #[.val (.ref ca), .val (.int (0 : Int32)), .val (.int (Int32.ofNat cs.length)), .unset, .unset]) (fun m => by first | (simp [entryFrame, mkF, argsToLocals, Value.category]; done) | rfl) ?_
  intro p e s m below meth c T K hret hnm N hs
  have O0 : Old Z n0 s.heap := by rw [hs]; exact O
  have g1 : Ld p e below T (mkF m 0 #[.val (.ref ca), .val (.int (0 : Int32)), .val (.int (Int32.ofNat cs.length)), .unset, .unset] []) T (mkF m 1 #[.val (.ref ca), .val (.int (0 : Int32)), .val (.int (Int32.ofNat cs.length)), .unset, .unset] [(.int (Int32.ofNat cs.length))]) := goRun K N #[] [(0, .iload_n 2, 1)] [] (P := True) (by decide +kernel) rfl trivial
  obtain ⟨v2, T2, h2, N2, ⟨t, rfl, et, E1, A1⟩, g2⟩ := goS K N (tw hw 78 rfl) (tw hw 79 rfl) (tw hw 22 rfl) (tw hw 80 rfl) (con_nbf hw cs.length (by omega)) (argsL := [(.int (Int32.ofNat cs.length))]) (W := 0) (rest := []) (by decide) (by decide) (by decide) (by decide) (by decide) (L := #[.val (.ref ca), .val (.int (0 : Int32)), .val (.int (Int32.ofNat cs.length)), .unset, .unset]) rfl pd13 rfl (Nat.le_of_eq rfl) (pc := 1) (by decide +kernel)
  have ht : n0 ≤ t := et ▸ N.size
  rw [← wv_0] at A1
  have g3 : Ld p e below T2 (mkF m 4 #[.val (.ref ca), .val (.int (0 : Int32)), .val (.int (Int32.ofNat cs.length)), .unset, .unset] [(.ref t)]) T2 (mkF m 8 #[.val (.ref ca), .val (.int (0 : Int32)), .val (.int (Int32.ofNat cs.length)), .val (.ref t), .val (.int (0 : Int32))] []) := goRun K N2 #[] [(4, .astore_n 3, 1), (5, .iconst 0, 1), (6, .istore 4, 2)] [] (P := True) (by decide +kernel) rfl trivial
  obtain ⟨T9, h9, N9, K9, A9, g9⟩ := tb_loop hw sf K (ca := ca) (by omega) ht (by decide) (by decide) (by decide) (by decide) O0 cs.length 0 T2 h2 (by omega) N2 (C.ext E1) A1
  rw [wv_n] at A9
  have g21 : Ld p e below T9 (mkF m 32 #[.val (.ref ca), .val (.int (Int32.ofNat cs.length)), .val (.int (Int32.ofNat cs.length)), .val (.ref t), .val (.int (Int32.ofNat cs.length))] []) T9 (mkF m 33 #[.val (.ref ca), .val (.int (Int32.ofNat cs.length)), .val (.int (Int32.ofNat cs.length)), .val (.ref t), .val (.int (Int32.ofNat cs.length))] [(.ref t)]) := goRun K N9 #[] [(32, .aload_n 3, 1)] [] (P := True) (by decide +kernel) rfl trivial
  exact ⟨_, T9, _, h9, _, _, N9, by decide, by decide, fun q => (nomatch q), ⟨t, rfl, Nat.le_of_eq et.symm, (keep_ext E1).trans K9 (allS (Or.inr (Nat.le_of_eq et.symm)) all0), A9⟩, g1.trans (g2.trans (g3.trans (g9.trans g21))), finA K N9 hret rfl rfl rfl (by decide +kernel)⟩
def One (q : Slot) : Prop := q = .unset ∨ ∃ i, q = .val (.int i)
/-- what compress leaves: all fits, or place k does not -/
def cmQ (Z : State) (h h' : Heap) (ba : Addr) (cs : List Int32) (v : Option Value) : Prop := Keep h h' [ba] ∧ ((v = some (.int (Int32.ofNat cs.length)) ∧ (∀ c ∈ cs, c.toInt ≤ 255) ∧ Av Z h' ba .byte ((cs.map lo8).map Value.int)) ∨ ∃ (k : Nat) (cc : Int32), v = some (.int (Int32.ofNat k)) ∧ cs[k]? = some cc ∧ ¬ cc.toInt ≤ 255)
set_option maxHeartbeats 1000000 in
theorem cm_loop (K : Cx Z "java/lang/StringUTF16" jdk_52_method_21_code 7 p m c) {ca ba : Addr} {cs : List Int32} (hl : cs.length ≤ 4000) (ha : n0 ≤ ba) (hret : meth.sig.returnType = some .int) : ∀ (k i : Nat) (q6 : Slot) (T : State) (h : Heap), i + k = cs.length → One q6 → Nw Z n0 h p l e R s m args below meth c T cells slots → Av Z h ca .char (cs.map Value.int) → Av Z h ba .byte (bv cs i) → (∀ c ∈ cs.take i, c.toInt ≤ 255) →
    ∃ v T' h' g', Nw Z n0 h' p l e R s m args below meth c T' cells slots ∧ cmQ Z h h' ba cs v ∧ Ld p e below T (mkF m 3 #[.val (.ref ca), .val (.int (Int32.ofNat i)), .val (.ref ba), .val (.int (Int32.ofNat i)), .val (.int (Int32.ofNat cs.length)), .val (.int (Int32.ofNat i)), q6] []) T' g' ∧ Fn p e below m T' g' v := by
  intro k
  induction k with
  | zero =>
    intro i q6 T h hi h6 N C A hs
    have g1 : Ld p e below T (mkF m 3 #[.val (.ref ca), .val (.int (Int32.ofNat i)), .val (.ref ba), .val (.int (Int32.ofNat i)), .val (.int (Int32.ofNat cs.length)), .val (.int (Int32.ofNat i)), q6] []) T (mkF m 46 #[.val (.ref ca), .val (.int (Int32.ofNat i)), .val (.ref ba), .val (.int (Int32.ofNat i)), .val (.int (Int32.ofNat cs.length)), .val (.int (Int32.ofNat i)), q6] [(.int (Int32.ofNat cs.length))]) := goRun K N #[] [(3, .iload 5, 2), (5, .iload 4, 2), (7, .if_icmp .ge 37, 3), (44, .iload 4, 2)] [.ref 0] (P := (¬ (Int32.ofNat i) < (Int32.ofNat cs.length)) ∧ True) (by decide +kernel) rfl ⟨(by rw [n_lt (by omega) (by omega)]; omega), trivial⟩
    obtain rfl : i = cs.length := by omega
    rw [bv_n] at A
    rw [List.take_length] at hs
    exact ⟨_, T, h, _, N, ⟨Keep.refl _ _, Or.inl ⟨rfl, hs, A⟩⟩, g1, finI K N hret (by decide +kernel)⟩
  | succ k ih =>
    intro i q6 T h hi h6 N C A hs
    obtain ⟨cc, hc⟩ : ∃ cc, cs[i]? = some cc := ⟨cs[i]'(by omega), List.getElem?_eq_getElem (by omega)⟩
    have hrd : Rd Z h ca .char (Int32.ofNat i) (.int cc) := C.rd (n_ti (by omega)) (gti hc)
    have hlt : Int32.ofNat i < Int32.ofNat cs.length := (n_lt (by omega) (by omega)).mpr (by omega)
    by_cases hg : cc.toInt ≤ 255
    · rcases h6 with rfl | ⟨i6, rfl⟩
      · have g1 : Ld p e below T (mkF m 3 #[.val (.ref ca), .val (.int (Int32.ofNat i)), .val (.ref ba), .val (.int (Int32.ofNat i)), .val (.int (Int32.ofNat cs.length)), .val (.int (Int32.ofNat i)), .unset] []) T (mkF m 31 #[.val (.ref ca), .val (.int (Int32.ofNat i)), .val (.ref ba), .val (.int (Int32.ofNat i)), .val (.int (Int32.ofNat cs.length)), .val (.int (Int32.ofNat i)), .val (.int cc)] [(.int cc.toInt8.toInt32), (.int (Int32.ofNat i)), (.ref ba)]) := goRun K N #[] [(3, .iload 5, 2), (5, .iload 4, 2), (7, .if_icmp .ge 37, 3), (10, .aload_n 0, 1), (11, .iload_n 1, 1), (12, .caload, 1), (13, .istore 6, 2), (15, .iload 6, 2), (17, .sipush 255, 3), (20, .if_icmp .le 6, 3), (26, .aload_n 2, 1), (27, .iload_n 3, 1), (28, .iload 6, 2), (30, .i2b, 1)] [.null, .int cc, .ref 0] (P := ((Int32.ofNat i) < (Int32.ofNat cs.length)) ∧ (Rd Z h ca .char (Int32.ofNat i) (.int cc)) ∧ (¬ (255 : Int32) < cc) ∧ True) (by decide +kernel) rfl ⟨hlt, hrd, (le255 hg), trivial⟩
        obtain ⟨T2, h2, N2, K2, A2, g2⟩ := avStB K N A (j := Int32.ofNat i) (i := i) (x := cc.toInt8.toInt32) (n_ti (by omega)) (by rw [bv_len (by omega)]; omega) ha (pc := 31) (L := #[.val (.ref ca), .val (.int (Int32.ofNat i)), .val (.ref ba), .val (.int (Int32.ofNat i)), .val (.int (Int32.ofNat cs.length)), .val (.int (Int32.ofNat i)), .val (.int cc)]) (S := []) (by decide +kernel)
        rw [nar_lo, bv_set hc] at A2
        have g3 : Ld p e below T2 (mkF m 32 #[.val (.ref ca), .val (.int (Int32.ofNat i)), .val (.ref ba), .val (.int (Int32.ofNat i)), .val (.int (Int32.ofNat cs.length)), .val (.int (Int32.ofNat i)), .val (.int cc)] []) T2 (mkF m 3 #[.val (.ref ca), .val (.int ((Int32.ofNat i) + (1 : Int32))), .val (.ref ba), .val (.int ((Int32.ofNat i) + (1 : Int32))), .val (.int (Int32.ofNat cs.length)), .val (.int ((Int32.ofNat i) + (1 : Int32))), .val (.int cc)] []) := goRun K N2 #[] [(32, .iinc 1 1, 3), (35, .iinc 3 1, 3), (38, .iinc 5 1, 3), (41, .goto (-38), 3)] [] (P := True) (by decide +kernel) rfl trivial
        rw [n_one] at g3
        obtain ⟨v, T9, h9, g', N9, ⟨K9, q9⟩, g9, f9⟩ := ih (i + 1) _ T2 h2 (by omega) (Or.inr ⟨_, rfl⟩) N2 (C.keep K2 (ninS (C.ne A (by decide)) nin0)) A2 (fun c hc' => by
          rw [take_succ_of hc] at hc'
          rcases List.mem_append.mp hc' with z | z
          · exact hs c z
          · rw [List.mem_singleton.mp z]; exact hg)
        exact ⟨v, T9, h9, g', N9, ⟨K2.trans K9 (fun y hy => Or.inl hy), q9⟩, g1.trans (g2.trans (g3.trans g9)), f9⟩
      · have g1 : Ld p e below T (mkF m 3 #[.val (.ref ca), .val (.int (Int32.ofNat i)), .val (.ref ba), .val (.int (Int32.ofNat i)), .val (.int (Int32.ofNat cs.length)), .val (.int (Int32.ofNat i)), .val (.int i6)] []) T (mkF m 31 #[.val (.ref ca), .val (.int (Int32.ofNat i)), .val (.ref ba), .val (.int (Int32.ofNat i)), .val (.int (Int32.ofNat cs.length)), .val (.int (Int32.ofNat i)), .val (.int cc)] [(.int cc.toInt8.toInt32), (.int (Int32.ofNat i)), (.ref ba)]) := goRun K N #[] [(3, .iload 5, 2), (5, .iload 4, 2), (7, .if_icmp .ge 37, 3), (10, .aload_n 0, 1), (11, .iload_n 1, 1), (12, .caload, 1), (13, .istore 6, 2), (15, .iload 6, 2), (17, .sipush 255, 3), (20, .if_icmp .le 6, 3), (26, .aload_n 2, 1), (27, .iload_n 3, 1), (28, .iload 6, 2), (30, .i2b, 1)] [.null, .int cc, .ref 0] (P := ((Int32.ofNat i) < (Int32.ofNat cs.length)) ∧ (Rd Z h ca .char (Int32.ofNat i) (.int cc)) ∧ (¬ (255 : Int32) < cc) ∧ True) (by decide +kernel) rfl ⟨hlt, hrd, (le255 hg), trivial⟩
        obtain ⟨T2, h2, N2, K2, A2, g2⟩ := avStB K N A (j := Int32.ofNat i) (i := i) (x := cc.toInt8.toInt32) (n_ti (by omega)) (by rw [bv_len (by omega)]; omega) ha (pc := 31) (L := #[.val (.ref ca), .val (.int (Int32.ofNat i)), .val (.ref ba), .val (.int (Int32.ofNat i)), .val (.int (Int32.ofNat cs.length)), .val (.int (Int32.ofNat i)), .val (.int cc)]) (S := []) (by decide +kernel)
        rw [nar_lo, bv_set hc] at A2
        have g3 : Ld p e below T2 (mkF m 32 #[.val (.ref ca), .val (.int (Int32.ofNat i)), .val (.ref ba), .val (.int (Int32.ofNat i)), .val (.int (Int32.ofNat cs.length)), .val (.int (Int32.ofNat i)), .val (.int cc)] []) T2 (mkF m 3 #[.val (.ref ca), .val (.int ((Int32.ofNat i) + (1 : Int32))), .val (.ref ba), .val (.int ((Int32.ofNat i) + (1 : Int32))), .val (.int (Int32.ofNat cs.length)), .val (.int ((Int32.ofNat i) + (1 : Int32))), .val (.int cc)] []) := goRun K N2 #[] [(32, .iinc 1 1, 3), (35, .iinc 3 1, 3), (38, .iinc 5 1, 3), (41, .goto (-38), 3)] [] (P := True) (by decide +kernel) rfl trivial
        rw [n_one] at g3
        obtain ⟨v, T9, h9, g', N9, ⟨K9, q9⟩, g9, f9⟩ := ih (i + 1) _ T2 h2 (by omega) (Or.inr ⟨_, rfl⟩) N2 (C.keep K2 (ninS (C.ne A (by decide)) nin0)) A2 (fun c hc' => by
          rw [take_succ_of hc] at hc'
          rcases List.mem_append.mp hc' with z | z
          · exact hs c z
          · rw [List.mem_singleton.mp z]; exact hg)
        exact ⟨v, T9, h9, g', N9, ⟨K2.trans K9 (fun y hy => Or.inl hy), q9⟩, g1.trans (g2.trans (g3.trans g9)), f9⟩
    · rcases h6 with rfl | ⟨i6, rfl⟩
      · have g1 : Ld p e below T (mkF m 3 #[.val (.ref ca), .val (.int (Int32.ofNat i)), .val (.ref ba), .val (.int (Int32.ofNat i)), .val (.int (Int32.ofNat cs.length)), .val (.int (Int32.ofNat i)), .unset] []) T (mkF m 25 #[.val (.ref ca), .val (.int (Int32.ofNat i)), .val (.ref ba), .val (.int (Int32.ofNat i)), .val (.int (Int32.ofNat cs.length)), .val (.int (Int32.ofNat i)), .val (.int cc)] [(.int (Int32.ofNat i))]) := goRun K N #[] [(3, .iload 5, 2), (5, .iload 4, 2), (7, .if_icmp .ge 37, 3), (10, .aload_n 0, 1), (11, .iload_n 1, 1), (12, .caload, 1), (13, .istore 6, 2), (15, .iload 6, 2), (17, .sipush 255, 3), (20, .if_icmp .le 6, 3), (23, .iload 5, 2)] [.null, .int cc, .null] (P := ((Int32.ofNat i) < (Int32.ofNat cs.length)) ∧ (Rd Z h ca .char (Int32.ofNat i) (.int cc)) ∧ ((255 : Int32) < cc) ∧ True) (by decide +kernel) rfl ⟨hlt, hrd, (Decidable.not_not.mp (gt255 hg)), trivial⟩
        exact ⟨_, T, h, _, N, ⟨Keep.refl _ _, Or.inr ⟨i, cc, rfl, hc, hg⟩⟩, g1, finI K N hret (by decide +kernel)⟩
      · have g1 : Ld p e below T (mkF m 3 #[.val (.ref ca), .val (.int (Int32.ofNat i)), .val (.ref ba), .val (.int (Int32.ofNat i)), .val (.int (Int32.ofNat cs.length)), .val (.int (Int32.ofNat i)), .val (.int i6)] []) T (mkF m 25 #[.val (.ref ca), .val (.int (Int32.ofNat i)), .val (.ref ba), .val (.int (Int32.ofNat i)), .val (.int (Int32.ofNat cs.length)), .val (.int (Int32.ofNat i)), .val (.int cc)] [(.int (Int32.ofNat i))]) := goRun K N #[] [(3, .iload 5, 2), (5, .iload 4, 2), (7, .if_icmp .ge 37, 3), (10, .aload_n 0, 1), (11, .iload_n 1, 1), (12, .caload, 1), (13, .istore 6, 2), (15, .iload 6, 2), (17, .sipush 255, 3), (20, .if_icmp .le 6, 3), (23, .iload 5, 2)] [.null, .int cc, .null] (P := ((Int32.ofNat i) < (Int32.ofNat cs.length)) ∧ (Rd Z h ca .char (Int32.ofNat i) (.int cc)) ∧ ((255 : Int32) < cc) ∧ True) (by decide +kernel) rfl ⟨hlt, hrd, (Decidable.not_not.mp (gt255 hg)), trivial⟩
        exact ⟨_, T, h, _, N, ⟨Keep.refl _ _, Or.inr ⟨i, cc, rfl, hc, hg⟩⟩, g1, finI K N hret (by decide +kernel)⟩
set_option maxHeartbeats 1000000 in
theorem con_cm {ca ba : Addr} {cs : List Int32} (C : Av Z h ca .char (cs.map Value.int)) (A : Av Z h ba .byte (List.replicate cs.length (.int 0))) (hl : cs.length ≤ 4000) (ha : n0 ≤ ba) : Con l Z n0 ⟨"java/lang/StringUTF16", "compress", "([CI[BII)I"⟩ jdk_52_method_21_code 7 (some (.int)) [] ({ frames := 0, cells := 0, slots := 0, locals := 0 } : Room) #[.ref ca, .int (0 : Int32), .ref ba, .int (0 : Int32), .int (Int32.ofNat cs.length)] h (fun v h' => cmQ Z h h' ba cs v) := by
  refine Con.ofH (plainFor_of_name pn3) (L0 := #[.val (.ref ca), .val (.int (0 : Int32)), .val (.ref ba), .val (.int (0 : Int32)), .val (.int (Int32.ofNat cs.length)), .unset, .unset]) (fun m => by first | (simp [entryFrame, mkF, argsToLocals, Value.category]; done) | rfl) ?_
  intro p e s m below meth c T K hret hnm N hs
  have g1 : Ld p e below T (mkF m 0 #[.val (.ref ca), .val (.int (0 : Int32)), .val (.ref ba), .val (.int (0 : Int32)), .val (.int (Int32.ofNat cs.length)), .unset, .unset] []) T (mkF m 3 #[.val (.ref ca), .val (.int (0 : Int32)), .val (.ref ba), .val (.int (0 : Int32)), .val (.int (Int32.ofNat cs.length)), .val (.int (0 : Int32)), .unset] []) := goRun K N #[] [(0, .iconst 0, 1), (1, .istore 5, 2)] [] (P := True) (by decide +kernel) rfl trivial
  obtain ⟨v, T9, h9, g', N9, q9, g9, f9⟩ := cm_loop K hl ha hret cs.length 0 _ T h (by omega) (Or.inl rfl) N C (by rw [bv_0]; exact A) (fun c hc => by simp at hc)
  exact ⟨v, T9, g', h9, _, _, N9, by decide, by decide, fun q => (nomatch q), q9, g1.trans g9, f9⟩
set_option maxHeartbeats 1000000 in
theorem con_cp (hw : ∀ d ∈ tables_1, d.before a0 Z = true) {z : Int32} {fm : Value} (sf : SF Z z fm) {ca : Addr} {cs : List Int32} (C : Av Z h ca .char (cs.map Value.int)) (hl : cs.length ≤ 4) (hch : ∀ c ∈ cs, Ch c) (O : Old Z n0 h) : Con l Z n0 ⟨"java/lang/StringUTF16", "compress", "([CII)[B"⟩ jdk_52_method_16_code 6 (some (.array .byte)) [] ({ frames := 3, cells := 2, slots := 12, locals := 56 } : Room) #[.ref ca, .int (0 : Int32), .int (Int32.ofNat cs.length)] h (fun v h' => ∃ t, v = some (.ref t) ∧ h.size ≤ t ∧ Keep h h' [] ∧ (((∀ c ∈ cs, c.toInt ≤ 255) ∧ Av Z h' t .byte ((cs.map lo8).map Value.int)) ∨ ((∃ c ∈ cs, ¬ c.toInt ≤ 255) ∧ Av Z h' t .byte ((u16 cs).map Value.int)))) := by
  refine Con.ofH (plainFor_of_name pn3) (L0 := #[.val (.ref ca), .val (.int (0 : Int32)), .val (.int (Int32.ofNat cs.length)), .unset, .unset, .unset]) (fun m => by first | (simp [entryFrame, mkF, argsToLocals, Value.category]; done) | rfl) ?_
  intro p e s m below meth c T K hret hnm N hs
  have O0 : Old Z n0 s.heap := by rw [hs]; exact O
  have hn1 : (Int32.ofNat cs.length).toInt = ((cs.length : Nat) : Int) := n_ti (by omega)
  have g1 : Ld p e below T (mkF m 0 #[.val (.ref ca), .val (.int (0 : Int32)), .val (.int (Int32.ofNat cs.length)), .unset, .unset, .unset] []) T (mkF m 1 #[.val (.ref ca), .val (.int (0 : Int32)), .val (.int (Int32.ofNat cs.length)), .unset, .unset, .unset] [(.int (Int32.ofNat cs.length))]) := goRun K N #[] [(0, .iload_n 2, 1)] [] (P := True) (by decide +kernel) rfl trivial
  obtain ⟨T2, h2, a2, cA2, ea2, N2, E2, A2, g2⟩ := goNewP K N (aty := .byte) (tw hw 24 rfl) (n := Int32.ofNat cs.length) (not_neg_of hn1) (cap := 4) (by rw [clamp_of hn1]; omega) (by decide) (by decide) (by decide) (pc := 1) (L := #[.val (.ref ca), .val (.int (0 : Int32)), .val (.int (Int32.ofNat cs.length)), .unset, .unset, .unset]) (S := []) (by decide +kernel)
  have A2 := Av.new A2 (not_neg_of hn1) hn1
  have ha2 : n0 ≤ a2 := ea2 ▸ N.size
  have g3 : Ld p e below T2 (mkF m 3 #[.val (.ref ca), .val (.int (0 : Int32)), .val (.int (Int32.ofNat cs.length)), .unset, .unset, .unset] [(.ref a2)]) T2 (mkF m 9 #[.val (.ref ca), .val (.int (0 : Int32)), .val (.int (Int32.ofNat cs.length)), .val (.ref a2), .unset, .unset] [(.int (Int32.ofNat cs.length)), (.int (0 : Int32)), (.ref a2), (.int (0 : Int32)), (.ref ca)]) := goRun K N2 #[] [(3, .astore_n 3, 1), (4, .aload_n 0, 1), (5, .iload_n 1, 1), (6, .aload_n 3, 1), (7, .iconst 0, 1), (8, .iload_n 2, 1)] [] (P := True) (by decide +kernel) rfl trivial
  obtain ⟨v4, T4, h4, N4, ⟨K1, q1⟩, g4⟩ := goS K N2 (tw hw 25 rfl) (tw hw 26 rfl) (tw hw 22 rfl) (tw hw 27 rfl) (con_cm (C.ext E2) A2 (by omega) ha2) (argsL := [(.ref ca), (.int (0 : Int32)), (.ref a2), (.int (0 : Int32)), (.int (Int32.ofNat cs.length))]) (W := 0) (rest := []) (by decide) (by decide) (by decide) (by decide) (by decide) (L := #[.val (.ref ca), .val (.int (0 : Int32)), .val (.int (Int32.ofNat cs.length)), .val (.ref a2), .unset, .unset]) rfl pd7 rfl (Nat.le_of_eq rfl) (pc := 9) (by decide +kernel)
  have KK := (keep_ext (ws := []) E2).trans K1 (allS (Or.inr (Nat.le_of_eq ea2.symm)) all0)
  obtain ⟨rfl, hall, A1⟩ | ⟨j, cc, rfl, hj, hgt⟩ := q1
  · have g5 : Ld p e below T4 (mkF m 12 #[.val (.ref ca), .val (.int (0 : Int32)), .val (.int (Int32.ofNat cs.length)), .val (.ref a2), .unset, .unset] [(.int (Int32.ofNat cs.length))]) T4 (mkF m 58 #[.val (.ref ca), .val (.int (0 : Int32)), .val (.int (Int32.ofNat cs.length)), .val (.ref a2), .val (.int (Int32.ofNat cs.length)), .unset] [(.ref a2)]) := goRun K N4 #[] [(12, .istore 4, 2), (14, .iload 4, 2), (16, .iload_n 2, 1), (17, .if_icmp .eq 40, 3), (57, .aload_n 3, 1)] [.ref 0] (P := ((Int32.ofNat cs.length) = (Int32.ofNat cs.length)) ∧ True) (by decide +kernel) rfl ⟨rfl, trivial⟩
    exact ⟨_, T4, _, h4, _, _, N4, by decide, by decide, fun q => (nomatch q), ⟨_, rfl, Nat.le_of_eq ea2.symm, KK, Or.inl ⟨hall, A1⟩⟩, g1.trans (g2.trans (g3.trans (g4.trans g5))), finA K N4 hret rfl rfl rfl (by decide +kernel)⟩
  · have hj2 : j < cs.length := (List.getElem?_eq_some_iff.mp hj).1
    have g5 : Ld p e below T4 (mkF m 12 #[.val (.ref ca), .val (.int (0 : Int32)), .val (.int (Int32.ofNat cs.length)), .val (.ref a2), .unset, .unset] [(.int (Int32.ofNat j))]) T4 (mkF m 23 #[.val (.ref ca), .val (.int (0 : Int32)), .val (.int (Int32.ofNat cs.length)), .val (.ref a2), .val (.int (Int32.ofNat j)), .unset] [(.int (Int32.ofNat cs.length)), (.int (0 : Int32)), (.ref ca)]) := goRun K N4 #[] [(12, .istore 4, 2), (14, .iload 4, 2), (16, .iload_n 2, 1), (17, .if_icmp .eq 40, 3), (20, .aload_n 0, 1), (21, .iload_n 1, 1), (22, .iload_n 2, 1)] [.null] (P := (¬ (Int32.ofNat j) = (Int32.ofNat cs.length)) ∧ True) (by decide +kernel) rfl ⟨(by rw [n_eq (by omega) (by omega)]; omega), trivial⟩
    obtain ⟨v6, T6, h6, N6, ⟨t2, rfl, ht2, K2, A2⟩, g6⟩ := goS K N4 (tw hw 75 rfl) (tw hw 76 rfl) (tw hw 22 rfl) (tw hw 77 rfl) (con_tb hw sf ((C.ext E2).keep K1 (ninS (ea2 ▸ Nat.ne_of_lt C.lt) nin0)) hl (N4.old O0)) (argsL := [(.ref ca), (.int (0 : Int32)), (.int (Int32.ofNat cs.length))]) (W := 0) (rest := []) (by decide) (by decide) (by decide) (by decide) (by decide) (L := #[.val (.ref ca), .val (.int (0 : Int32)), .val (.int (Int32.ofNat cs.length)), .val (.ref a2), .val (.int (Int32.ofNat j)), .unset]) rfl pd8 rfl (Nat.le_of_eq rfl) (pc := 23) (by decide +kernel)
    have g7 : Ld p e below T6 (mkF m 26 #[.val (.ref ca), .val (.int (0 : Int32)), .val (.int (Int32.ofNat cs.length)), .val (.ref a2), .val (.int (Int32.ofNat j)), .unset] [(.ref t2)]) T6 (mkF m 32 #[.val (.ref ca), .val (.int (0 : Int32)), .val (.int (Int32.ofNat cs.length)), .val (.ref a2), .val (.int (Int32.ofNat j)), .val (.ref t2)] [(.int (Int32.ofNat j)), (.ref t2)]) := goRun K N6 #[] [(26, .astore 5, 2), (28, .aload 5, 2), (30, .iload 4, 2)] [] (P := True) (by decide +kernel) rfl trivial
    obtain ⟨v8, T8, _, N8, ⟨rfl, rfl⟩, g8⟩ := goS K N6 (tw hw 91 rfl) (tw hw 92 rfl) (tw hw 22 rfl) (tw hw 93 rfl) (con_gc hw sf A2 (by omega) hj (hch _ (List.mem_of_getElem? hj)) (N6.old O0)) (argsL := [(.ref t2), (.int (Int32.ofNat j))]) (W := 0) (rest := []) (by decide) (by decide) (by decide) (by decide) (by decide) (L := #[.val (.ref ca), .val (.int (0 : Int32)), .val (.int (Int32.ofNat cs.length)), .val (.ref a2), .val (.int (Int32.ofNat j)), .val (.ref t2)]) rfl pd2 rfl (Nat.le_of_eq rfl) (pc := 32) (by decide +kernel)
    have g9 : Ld p e below T8 (mkF m 35 #[.val (.ref ca), .val (.int (0 : Int32)), .val (.int (Int32.ofNat cs.length)), .val (.ref a2), .val (.int (Int32.ofNat j)), .val (.ref t2)] [(.int cc)]) T8 (mkF m 56 #[.val (.ref ca), .val (.int (0 : Int32)), .val (.int (Int32.ofNat cs.length)), .val (.ref a2), .val (.int (Int32.ofNat j)), .val (.ref t2)] [(.ref t2)]) := goRun K N8 #[] [(35, .sipush 255, 3), (38, .if_icmp .gt 16, 3), (54, .aload 5, 2)] [.ref 0] (P := ((255 : Int32) < cc) ∧ True) (by decide +kernel) rfl ⟨(Decidable.not_not.mp (gt255 hgt)), trivial⟩
    exact ⟨_, T8, _, h6, _, _, N8, by decide, by decide, fun q => (nomatch q), ⟨_, rfl, Nat.le_trans KK.1 ht2, KK.trans K2 all0, Or.inr ⟨⟨cc, List.mem_of_getElem? hj, hgt⟩, A2⟩⟩, g1.trans (g2.trans (g3.trans (g4.trans (g5.trans (g6.trans (g7.trans (g8.trans g9))))))), finA K N8 hret rfl rfl rfl (by decide +kernel)⟩
theorem nar8_0 : nar .byte ((0 : Int32).toInt8.toInt32) = 0 := by decide
theorem nar8_1 : nar .byte ((1 : Int32).toInt8.toInt32) = 1 := by decide
set_option maxHeartbeats 1000000 in
theorem con_cf0 {t : Addr} {vs : List Value} {n : Nat} (F : Av Z h t .byte vs) (hl : vs.length = n) (hn : n < 100000) : Con l Z n0 ⟨"java/lang/StringUTF16", "coderFromArrayLen", "([BI)B"⟩ jdk_52_method_15_code 2 (some (.byte)) [] ({ frames := 0, cells := 0, slots := 0, locals := 0 } : Room) #[.ref t, .int (Int32.ofNat n)] h (fun v h' => v = some (.int 0) ∧ h = h') := by
  refine Con.ofH (plainFor_of_name pn3) (L0 := #[.val (.ref t), .val (.int (Int32.ofNat n))]) (fun m => by first | (simp [entryFrame, mkF, argsToLocals, Value.category]; done) | rfl) ?_
  intro p e s m below meth c T K hret hnm N hs
  have g1 : Ld p e below T (mkF m 0 #[.val (.ref t), .val (.int (Int32.ofNat n))] []) T (mkF m 8 #[.val (.ref t), .val (.int (Int32.ofNat n))] [(.int ((XT.ushr ((Int32.ofNat n) - (Int32.ofNat (n))) (31 : Int32)).toInt8.toInt32))]) := goRun K N #[] [(0, .iload_n 1, 1), (1, .aload_n 0, 1), (2, .arraylength, 1), (3, .isub, 1), (4, .bipush 31, 2), (6, .iushr, 1), (7, .i2b, 1)] [.int (Int32.ofNat (n))] (P := (Ln Z h t (Int32.ofNat (n))) ∧ True) (by decide +kernel) rfl ⟨(F.ln (by rw [n_ti (by omega), hl])), trivial⟩
  rw [ushr_0] at g1
  exact ⟨_, T, _, h, _, _, N, by decide, by decide, fun q => (nomatch q), ⟨by rw [nar8_0], rfl⟩, g1, finN K N hret (Or.inr (Or.inl rfl)) (by decide +kernel)⟩
set_option maxHeartbeats 1000000 in
theorem con_cf1 {t : Addr} {vs : List Value} {n : Nat} (F : Av Z h t .byte vs) (hl : vs.length = 2 * n) (hn : n < 100000) (hn0 : 0 < n) : Con l Z n0 ⟨"java/lang/StringUTF16", "coderFromArrayLen", "([BI)B"⟩ jdk_52_method_15_code 2 (some (.byte)) [] ({ frames := 0, cells := 0, slots := 0, locals := 0 } : Room) #[.ref t, .int (Int32.ofNat n)] h (fun v h' => v = some (.int 1) ∧ h = h') := by
  refine Con.ofH (plainFor_of_name pn3) (L0 := #[.val (.ref t), .val (.int (Int32.ofNat n))]) (fun m => by first | (simp [entryFrame, mkF, argsToLocals, Value.category]; done) | rfl) ?_
  intro p e s m below meth c T K hret hnm N hs
  have g1 : Ld p e below T (mkF m 0 #[.val (.ref t), .val (.int (Int32.ofNat n))] []) T (mkF m 8 #[.val (.ref t), .val (.int (Int32.ofNat n))] [(.int ((XT.ushr ((Int32.ofNat n) - (Int32.ofNat (2 * n))) (31 : Int32)).toInt8.toInt32))]) := goRun K N #[] [(0, .iload_n 1, 1), (1, .aload_n 0, 1), (2, .arraylength, 1), (3, .isub, 1), (4, .bipush 31, 2), (6, .iushr, 1), (7, .i2b, 1)] [.int (Int32.ofNat (2 * n))] (P := (Ln Z h t (Int32.ofNat (2 * n))) ∧ True) (by decide +kernel) rfl ⟨(F.ln (by rw [n_ti (by omega), hl])), trivial⟩
  rw [ushr_1 hn0 (by omega)] at g1
  exact ⟨_, T, _, h, _, _, N, by decide, by decide, fun q => (nomatch q), ⟨by rw [nar8_1], rfl⟩, g1, finN K N hret (Or.inr (Or.inl rfl)) (by decide +kernel)⟩
set_option maxHeartbeats 1000000 in
theorem con_s4 (hw : ∀ d ∈ tables_1, d.before a0 Z = true) {z : Int32} {fm : Value} (sf : SF Z z fm) {a ca : Addr} {cs : List Int32} (X : Exa Z h a "java/lang/String") (V : Fld Z h a "java/lang/String" "value" "[B" .null) (D : Fld Z h a "java/lang/String" "coder" "B" (.int 0)) (C : Av Z h ca .char (cs.map Value.int)) (hl : cs.length ≤ 4) (hl0 : 0 < cs.length) (hch : ∀ c ∈ cs, Ch c) (ha : n0 ≤ a) (O : Old Z n0 h) : Con l Z n0 ⟨"java/lang/String", "<init>", "([CIILjava/lang/Void;)V"⟩ jdk_42_method_149_code 6 none [] ({ frames := 4, cells := 2, slots := 12, locals := 73 } : Room) #[.ref a, .ref ca, .int (0 : Int32), .int (Int32.ofNat cs.length), .null] h (fun v h' => v = none ∧ Keep h h' [a] ∧ ∃ t, h.size ≤ t ∧ Stv Z h' a t cs) := by
  refine Con.ofH (plainFor_of_name pn1) (L0 := #[.val (.ref a), .val (.ref ca), .val (.int (0 : Int32)), .val (.int (Int32.ofNat cs.length)), .val (.null), .unset]) (fun m => by first | (simp [entryFrame, mkF, argsToLocals, Value.category]; done) | rfl) ?_
  intro p e s m below meth c T K hret hnm N hs
  have O0 : Old Z n0 s.heap := by rw [hs]; exact O
  have s12 := slot_ne (Or.inr (tw hw 34 rfl) : Laid Z a0 "java/lang/String" "java/lang/String" "value" "[B") (Or.inr (tw hw 32 rfl) : Laid Z a0 "java/lang/String" "java/lang/String" "coder" "B") (by decide) (t := .array .byte) (t' := .byte) (by decide) (by decide)
  have g1 : Ld p e below T (mkF m 0 #[.val (.ref a), .val (.ref ca), .val (.int (0 : Int32)), .val (.int (Int32.ofNat cs.length)), .val (.null), .unset] []) T (mkF m 1 #[.val (.ref a), .val (.ref ca), .val (.int (0 : Int32)), .val (.int (Int32.ofNat cs.length)), .val (.null), .unset] [(.ref a)]) := goRun K N #[] [(0, .aload_n 0, 1)] [] (P := True) (by decide +kernel) rfl trivial
  obtain ⟨T2, N2, g2⟩ := goInit K N (tw hw 16 rfl) (tw hw 17 rfl) (tw hw 18 rfl) rfl (a := a) (pc := 1) (L := #[.val (.ref a), .val (.ref ca), .val (.int (0 : Int32)), .val (.int (Int32.ofNat cs.length)), .val (.null), .unset]) (S := []) rfl (by decide +kernel) (by decide) (W := 0) (Nat.le_of_eq rfl) (by decide)
  have g3 : Ld p e below T2 (mkF m 4 #[.val (.ref a), .val (.ref ca), .val (.int (0 : Int32)), .val (.int (Int32.ofNat cs.length)), .val (.null), .unset] []) T2 (mkF m 27 #[.val (.ref a), .val (.ref ca), .val (.int (0 : Int32)), .val (.int (Int32.ofNat cs.length)), .val (.null), .unset] []) := goRun K N2 #[] [(4, .iload_n 3, 1), (5, .ifCond .ne 22, 3)] [.ref 0] (P := (¬ (Int32.ofNat cs.length) = (0 : Int32)) ∧ True) (by decide +kernel) rfl ⟨(by show ¬ Int32.ofNat cs.length = Int32.ofNat 0; rw [n_eq (by omega) (by omega)]; omega), trivial⟩
  obtain ⟨T4, N4, g4⟩ := goSta K N2 (tw hw 19 rfl) (sf.1.ext (N2.old O0).2) (pc := 27) (L := #[.val (.ref a), .val (.ref ca), .val (.int (0 : Int32)), .val (.int (Int32.ofNat cs.length)), .val (.null), .unset]) (S := []) (by decide +kernel)
  have g5 : Ld p e below T4 (mkF m 30 #[.val (.ref a), .val (.ref ca), .val (.int (0 : Int32)), .val (.int (Int32.ofNat cs.length)), .val (.null), .unset] [(.int z)]) T4 (mkF m 36 #[.val (.ref a), .val (.ref ca), .val (.int (0 : Int32)), .val (.int (Int32.ofNat cs.length)), .val (.null), .unset] [(.int (Int32.ofNat cs.length)), (.int (0 : Int32)), (.ref ca)]) := goRun K N4 #[] [(30, .ifCond .eq 28, 3), (33, .aload_n 1, 1), (34, .iload_n 2, 1), (35, .iload_n 3, 1)] [.null] (P := (¬ z = (0 : Int32)) ∧ True) (by decide +kernel) rfl ⟨sf.2.1, trivial⟩
  obtain ⟨v6, T6, h6, N6, ⟨t, rfl, ht, K1, q1⟩, g6⟩ := goS K N4 (tw hw 20 rfl) (tw hw 21 rfl) (tw hw 22 rfl) (tw hw 23 rfl) (con_cp hw sf C hl hch O) (argsL := [(.ref ca), (.int (0 : Int32)), (.int (Int32.ofNat cs.length))]) (W := 0) (rest := []) (by decide) (by decide) (by decide) (by decide) (by decide) (L := #[.val (.ref a), .val (.ref ca), .val (.int (0 : Int32)), .val (.int (Int32.ofNat cs.length)), .val (.null), .unset]) rfl pd8 rfl (Nat.le_of_eq rfl) (pc := 36) (by decide +kernel)
  have na : a ≠ t := Nat.ne_of_lt (Nat.lt_of_lt_of_le X.lt ht)
  have g7 : Ld p e below T6 (mkF m 39 #[.val (.ref a), .val (.ref ca), .val (.int (0 : Int32)), .val (.int (Int32.ofNat cs.length)), .val (.null), .unset] [(.ref t)]) T6 (mkF m 45 #[.val (.ref a), .val (.ref ca), .val (.int (0 : Int32)), .val (.int (Int32.ofNat cs.length)), .val (.null), .val (.ref t)] [(.int (Int32.ofNat cs.length)), (.ref t), (.ref a)]) := goRun K N6 #[] [(39, .astore 5, 2), (41, .aload_n 0, 1), (42, .aload 5, 2), (44, .iload_n 3, 1)] [] (P := True) (by decide +kernel) rfl trivial
  rcases q1 with ⟨hall, A1⟩ | ⟨-, A1⟩
  · obtain ⟨v8, T8, _, N8, ⟨rfl, rfl⟩, g8⟩ := goS K N6 (tw hw 28 rfl) (tw hw 29 rfl) (tw hw 22 rfl) (tw hw 30 rfl) (con_cf0 A1 (by simp) (by omega)) (argsL := [(.ref t), (.int (Int32.ofNat cs.length))]) (W := 1) (rest := [(.ref a)]) (by decide) (by decide) (by decide) (by decide) (by decide) (L := #[.val (.ref a), .val (.ref ca), .val (.int (0 : Int32)), .val (.int (Int32.ofNat cs.length)), .val (.null), .val (.ref t)]) rfl pd9 rfl (Nat.le_of_eq rfl) (pc := 45) (by decide +kernel)
    obtain ⟨T9, h9, N9, W9, g9⟩ := goPut K N8 (C := "java/lang/String") (tw hw 31 rfl) (D.keep K1 nin0) (X.keep K1) (Or.inr ⟨(tw hw 32 rfl), rfl, hnm⟩) (tw hw 7 rfl) (ty := .byte) (v := .int (0 : Int32)) (by decide) rfl rfl ha (pc := 48) (L := #[.val (.ref a), .val (.ref ca), .val (.int (0 : Int32)), .val (.int (Int32.ofNat cs.length)), .val (.null), .val (.ref t)]) (S := []) (by decide +kernel)
    have g10 : Ld p e below T9 (mkF m 51 #[.val (.ref a), .val (.ref ca), .val (.int (0 : Int32)), .val (.int (Int32.ofNat cs.length)), .val (.null), .val (.ref t)] []) T9 (mkF m 54 #[.val (.ref a), .val (.ref ca), .val (.int (0 : Int32)), .val (.int (Int32.ofNat cs.length)), .val (.null), .val (.ref t)] [(.ref t), (.ref a)]) := goRun K N9 #[] [(51, .aload_n 0, 1), (52, .aload 5, 2)] [] (P := True) (by decide +kernel) rfl trivial
    obtain ⟨T11, h11, N11, W11, g11⟩ := goPut K N9 (C := "java/lang/String") (tw hw 33 rfl) ((V.keep K1 nin0).other W9 (Or.inr s12)) ((X.keep K1).wr W9) (Or.inr ⟨(tw hw 34 rfl), rfl, hnm⟩) (tw hw 7 rfl) (ty := .array .byte) (v := .ref t) (by decide) rfl rfl ha (pc := 54) (L := #[.val (.ref a), .val (.ref ca), .val (.int (0 : Int32)), .val (.int (Int32.ofNat cs.length)), .val (.null), .val (.ref t)]) (S := []) (by decide +kernel)
    have KK : Keep h h11 [a] := (((Keep.refl h [a]).trans K1 all0).wr W9 (Or.inl (List.mem_cons_self ..))).wr W11 (Or.inl (List.mem_cons_self ..))
    exact ⟨none, T11, _, h11, _, _, N11, by decide, by decide, fun _ => rfl, ⟨rfl, KK, t, ht, ((X.keep K1).wr W9).wr W11, hch, by omega, ((V.keep K1 nin0).other W9 (Or.inr s12)).same W11, Or.inl ⟨((D.keep K1 nin0).same W9).other W11 (Or.inr (Ne.symm s12)), hall, (A1.other W9 (Ne.symm na)).other W11 (Ne.symm na)⟩⟩, g1.trans (g2.trans (g3.trans (g4.trans (g5.trans (g6.trans (g7.trans (g8.trans (g9.trans (g10.trans g11))))))))), finV K N11 hret (by decide +kernel)⟩
  · obtain ⟨v8, T8, _, N8, ⟨rfl, rfl⟩, g8⟩ := goS K N6 (tw hw 28 rfl) (tw hw 29 rfl) (tw hw 22 rfl) (tw hw 30 rfl) (con_cf1 A1 (by rw [List.length_map, u16_len]) (by omega) hl0) (argsL := [(.ref t), (.int (Int32.ofNat cs.length))]) (W := 1) (rest := [(.ref a)]) (by decide) (by decide) (by decide) (by decide) (by decide) (L := #[.val (.ref a), .val (.ref ca), .val (.int (0 : Int32)), .val (.int (Int32.ofNat cs.length)), .val (.null), .val (.ref t)]) rfl pd9 rfl (Nat.le_of_eq rfl) (pc := 45) (by decide +kernel)
    obtain ⟨T9, h9, N9, W9, g9⟩ := goPut K N8 (C := "java/lang/String") (tw hw 31 rfl) (D.keep K1 nin0) (X.keep K1) (Or.inr ⟨(tw hw 32 rfl), rfl, hnm⟩) (tw hw 7 rfl) (ty := .byte) (v := .int (1 : Int32)) (by decide) rfl rfl ha (pc := 48) (L := #[.val (.ref a), .val (.ref ca), .val (.int (0 : Int32)), .val (.int (Int32.ofNat cs.length)), .val (.null), .val (.ref t)]) (S := []) (by decide +kernel)
    have g10 : Ld p e below T9 (mkF m 51 #[.val (.ref a), .val (.ref ca), .val (.int (0 : Int32)), .val (.int (Int32.ofNat cs.length)), .val (.null), .val (.ref t)] []) T9 (mkF m 54 #[.val (.ref a), .val (.ref ca), .val (.int (0 : Int32)), .val (.int (Int32.ofNat cs.length)), .val (.null), .val (.ref t)] [(.ref t), (.ref a)]) := goRun K N9 #[] [(51, .aload_n 0, 1), (52, .aload 5, 2)] [] (P := True) (by decide +kernel) rfl trivial
    obtain ⟨T11, h11, N11, W11, g11⟩ := goPut K N9 (C := "java/lang/String") (tw hw 33 rfl) ((V.keep K1 nin0).other W9 (Or.inr s12)) ((X.keep K1).wr W9) (Or.inr ⟨(tw hw 34 rfl), rfl, hnm⟩) (tw hw 7 rfl) (ty := .array .byte) (v := .ref t) (by decide) rfl rfl ha (pc := 54) (L := #[.val (.ref a), .val (.ref ca), .val (.int (0 : Int32)), .val (.int (Int32.ofNat cs.length)), .val (.null), .val (.ref t)]) (S := []) (by decide +kernel)
    have KK : Keep h h11 [a] := (((Keep.refl h [a]).trans K1 all0).wr W9 (Or.inl (List.mem_cons_self ..))).wr W11 (Or.inl (List.mem_cons_self ..))
    exact ⟨none, T11, _, h11, _, _, N11, by decide, by decide, fun _ => rfl, ⟨rfl, KK, t, ht, ((X.keep K1).wr W9).wr W11, hch, by omega, ((V.keep K1 nin0).other W9 (Or.inr s12)).same W11, Or.inr ⟨((D.keep K1 nin0).same W9).other W11 (Or.inr (Ne.symm s12)), (A1.other W9 (Ne.symm na)).other W11 (Ne.symm na)⟩⟩, g1.trans (g2.trans (g3.trans (g4.trans (g5.trans (g6.trans (g7.trans (g8.trans (g9.trans (g10.trans g11))))))))), finV K N11 hret (by decide +kernel)⟩
set_option maxHeartbeats 1000000 in
theorem con_si (hw : ∀ d ∈ tables_1, d.before a0 Z = true) {z : Int32} {fm : Value} (sf : SF Z z fm) {a ca : Addr} {cs : List Int32} (X : Exa Z h a "java/lang/String") (V : Fld Z h a "java/lang/String" "value" "[B" .null) (D : Fld Z h a "java/lang/String" "coder" "B" (.int 0)) (C : Av Z h ca .char (cs.map Value.int)) (hl : cs.length ≤ 4) (hl0 : 0 < cs.length) (hch : ∀ c ∈ cs, Ch c) (ha : n0 ≤ a) (O : Old Z n0 h) : Con l Z n0 ⟨"java/lang/String", "<init>", "([C)V"⟩ jdk_42_method_3_code 2 none [] ({ frames := 5, cells := 2, slots := 12, locals := 90 } : Room) #[.ref a, .ref ca] h (fun v h' => v = none ∧ Keep h h' [a] ∧ ∃ t, h.size ≤ t ∧ Stv Z h' a t cs) := by
  refine Con.ofH (plainFor_of_name pn1) (L0 := #[.val (.ref a), .val (.ref ca)]) (fun m => by first | (simp [entryFrame, mkF, argsToLocals, Value.category]; done) | rfl) ?_
  intro p e s m below meth c T K hret hnm N hs
  have O0 : Old Z n0 s.heap := by rw [hs]; exact O
  have g1 : Ld p e below T (mkF m 0 #[.val (.ref a), .val (.ref ca)] []) T (mkF m 6 #[.val (.ref a), .val (.ref ca)] [(.null), (.int (Int32.ofNat cs.length)), (.int (0 : Int32)), (.ref ca), (.ref a)]) := goRun K N #[] [(0, .aload_n 0, 1), (1, .aload_n 1, 1), (2, .iconst 0, 1), (3, .aload_n 1, 1), (4, .arraylength, 1), (5, .aconst_null, 1)] [.int (Int32.ofNat cs.length)] (P := (Ln Z h ca (Int32.ofNat cs.length)) ∧ True) (by decide +kernel) rfl ⟨(C.ln (by rw [n_ti (by omega), List.length_map])), trivial⟩
  obtain ⟨v2, T2, h2, N2, ⟨rfl, K1, t, ht, F1⟩, g2⟩ := goSp K N (a := a) (tw hw 12 rfl) (tw hw 13 rfl) (tw hw 8 rfl) (tw hw 15 rfl) (con_s4 hw sf X V D C hl hl0 hch ha O) rfl (by decide) (argsL := [(.ref ca), (.int (0 : Int32)), (.int (Int32.ofNat cs.length)), (.null)]) (W := 0) (rest := []) (by decide) (by decide) (by decide) (by decide) (L := #[.val (.ref a), .val (.ref ca)]) rfl pd10 rfl (Nat.le_of_eq rfl) (pc := 6) (by decide +kernel)
  exact ⟨none, T2, _, h2, _, _, N2, by decide, by decide, fun _ => rfl, ⟨rfl, K1, t, ht, F1⟩, g1.trans g2, finV K N2 hret (by decide +kernel)⟩
theorem pn4 : plainName "com/example/covenantry/covenantry/IsoDateDigitsPinLaw" = true := by first | (simp [plainName, overriddenIn]; done) | decide +kernel
theorem pd15 : parseMethodDescriptor "(C)I" = some ⟨[.char], some (.int)⟩ := by decide +kernel
theorem pd16 : parseMethodDescriptor "(IIII)I" = some ⟨[.int, .int, .int, .int], some (.int)⟩ := by decide +kernel
theorem pn5 : plainName "com/example/covenantry/covenantry/IsoDate" = true := by first | (simp [plainName, overriddenIn]; done) | decide +kernel
theorem pd17 : parseMethodDescriptor "(Ljava/lang/String;II)I" = some ⟨[.object "java/lang/String", .int, .int], some (.int)⟩ := by decide +kernel
theorem pd18 : parseMethodDescriptor "(II)I" = some ⟨[.int, .int], some (.int)⟩ := by decide +kernel
theorem pd19 : parseMethodDescriptor "(IIIII)Z" = some ⟨[.int, .int, .int, .int, .int], some (.boolean)⟩ := by decide +kernel
section OwnInt
theorem oi_add (a b : Int) : Int32.ofInt a + Int32.ofInt b = Int32.ofInt (a + b) := (Int32.ofInt_add a b).symm
theorem oi_mul (a b : Int) : Int32.ofInt a * Int32.ofInt b = Int32.ofInt (a * b) := (Int32.ofInt_mul a b).symm
theorem oi_self (c : Int32) : Int32.ofInt c.toInt = c := Int32.ofInt_toInt c
theorem oi_sub (a b : Int) : Int32.ofInt (a - b) = Int32.ofInt a - Int32.ofInt b := Int32.ofInt_sub a b
theorem oi_ti {a : Int} (h1 : -2147483648 ≤ a) (h2 : a < 2147483648) : (Int32.ofInt a).toInt = a := by
  have e : Int32.size = 4294967296 := rfl
  rw [Int32.toInt_ofInt, e]; exact Int.bmod_eq_of_le (by omega) (by omega)
theorem i_lt {a b : Int32} (h : a.toInt < b.toInt) : a < b := Int32.lt_iff_toInt_lt.mpr h
theorem i_nlt {a b : Int32} (h : b.toInt ≤ a.toInt) : ¬ a < b := fun z => by rw [Int32.lt_iff_toInt_lt] at z; omega
theorem dg_step (N : Int) (c : Int32) : Int32.ofInt N * (10 : Int32) + c - (48 : Int32) = Int32.ofInt (N * 10 + c.toInt - 48) := by
  rw [oi_sub, ← oi_add, ← oi_mul, oi_self]; rfl
theorem n_pred {n : Nat} (q : n < 2147483648) : (Int32.ofNat n - 1).toInt = n - 1 := by
  rw [Int32.toInt_sub, n_ti q, show (1 : Int32).toInt = 1 from rfl]
  apply Int.bmod_eq_of_le <;> omega
theorem n_sub1 {n : Nat} (q : 0 < n) : Int32.ofNat n - 1 = Int32.ofNat (n - 1) := by
  obtain ⟨k, rfl⟩ : ∃ k, n = k + 1 := ⟨n - 1, by omega⟩
  rw [← n_one]; simp
theorem n_subn {a b : Nat} (q : b ≤ a) : Int32.ofNat a - Int32.ofNat b = Int32.ofNat (a - b) := by
  obtain ⟨k, rfl⟩ := Nat.exists_eq_add_of_le q
  rw [Int32.ofNat_add, show b + k - b = k by omega, Int32.add_comm, Int32.add_sub_cancel]
theorem n_rem {z : Int32} {k : Nat} (hz : 0 ≤ z.toInt) (hk : 0 < k) (hk2 : k < 2147483648) : ∃ n : Nat, n < k ∧ z % Int32.ofNat k = Int32.ofNat n := by
  refine ⟨z.toInt.toNat % k, Nat.mod_lt _ hk, ?_⟩
  have hlt : z.toInt.toNat % k < k := Nat.mod_lt _ hk
  apply Int32.toInt_inj.mp
  rw [Int32.toInt_mod, n_ti hk2, n_ti (by omega), Int.tmod_eq_emod_of_nonneg hz, Int.natCast_emod, Int.toNat_of_nonneg hz]
theorem mask_nn (x : Int32) : 0 ≤ (x &&& (2147483647 : Int32)).toInt := (c_andS x 2147483647).2.2 (by decide)
theorem m255_nn (x : Int32) : 0 ≤ (x &&& (255 : Int32)).toInt := (c_andS x 255).2.2 (by decide)
end OwnInt

def valI (c : Int32) : Int := if 48 ≤ c.toInt ∧ c.toInt ≤ 57 then c.toInt - 48 else -1
def termI (v : Int) (i s e : Nat) : Int := if s ≤ i ∧ i < e then (if v < 0 then -100000 else v * 10 ^ (e - 1 - i)) else 0
def digI : Int → List Int32 → Int
  | N, [] => N
  | N, c :: cs => if 48 ≤ c.toInt ∧ c.toInt ≤ 57 then digI (N * 10 + c.toInt - 48) cs else -1
theorem valI_rng (c : Int32) : -1 ≤ valI c ∧ valI c ≤ 9 := by unfold valI; split <;> omega
set_option maxHeartbeats 1000000 in
theorem con_ch (hw : ∀ d ∈ tables_1, d.before a0 Z = true) (x0 : Int32) : Con l Z n0 ⟨"com/example/covenantry/covenantry/IsoDateDigitsPinLaw", "ch", "(I)C"⟩ method_2_code 2 (some (.char)) [] ({ frames := 0, cells := 0, slots := 0, locals := 0 } : Room) #[.int x0] h (fun v h' => (∃ cc, v = some (.int cc) ∧ Ch cc) ∧ h = h') := by
  refine Con.ofH (plainFor_of_name pn4) (L0 := #[.val (.int x0), .unset]) (fun m => by first | (simp [entryFrame, mkF, argsToLocals, Value.category]; done) | rfl) ?_
  intro p e s m below meth c T K hret hnm N hs
  have g1 : Ld p e below T (mkF m 0 #[.val (.int x0), .unset] []) T (mkF m 11 #[.val (.int x0), .val (.int (x0 &&& (65535 : Int32)))] [(.int ((XT.ushr x0 (16 : Int32)) &&& (1 : Int32)))]) := goRun K N a0 [(0, .iload_n 0, 1), (1, .ldc 7, 2), (3, .iand, 1), (4, .istore_n 1, 1), (5, .iload_n 0, 1), (6, .bipush 16, 2), (8, .iushr, 1), (9, .iconst 1, 1), (10, .iand, 1)] [.int (65535 : Int32)] (P := ((Jvm.Cond.constant "com/example/covenantry/covenantry/IsoDateDigitsPinLaw" 7 (65535 : Int32)).before a0 Z = true) ∧ True) (by decide +kernel) rfl ⟨(tw hw 5 rfl), trivial⟩
  by_cases q : (XT.ushr x0 (16 : Int32)) &&& (1 : Int32) = 0
  · have g2 : Ld p e below T (mkF m 11 #[.val (.int x0), .val (.int (x0 &&& (65535 : Int32)))] [(.int ((XT.ushr x0 (16 : Int32)) &&& (1 : Int32)))]) T (mkF m 16 #[.val (.int x0), .val (.int (x0 &&& (65535 : Int32)))] [(.int ((x0 &&& (65535 : Int32)).toUInt32.toUInt16.toUInt32.toInt32))]) := goRun K N #[] [(11, .ifCond .ne 6, 3), (14, .iload_n 1, 1), (15, .i2c, 1)] [.null] (P := (((XT.ushr x0 (16 : Int32)) &&& (1 : Int32)) = (0 : Int32)) ∧ True) (by decide +kernel) rfl ⟨q, trivial⟩
    exact ⟨_, T, _, h, _, _, N, by decide, by decide, fun q => (nomatch q), ⟨⟨_, rfl, ch_nar _⟩, rfl⟩, g1.trans g2, finN K N hret (Or.inr (Or.inr (Or.inl rfl))) (by decide +kernel)⟩
  · have g2 : Ld p e below T (mkF m 11 #[.val (.int x0), .val (.int (x0 &&& (65535 : Int32)))] [(.int ((XT.ushr x0 (16 : Int32)) &&& (1 : Int32)))]) T (mkF m 25 #[.val (.int x0), .val (.int (x0 &&& (65535 : Int32)))] [(.int (((48 : Int32) + ((x0 &&& (65535 : Int32)) % (10 : Int32))).toUInt32.toUInt16.toUInt32.toInt32))]) := goRun K N #[] [(11, .ifCond .ne 6, 3), (17, .bipush 48, 2), (19, .iload_n 1, 1), (20, .bipush 10, 2), (22, .irem, 1), (23, .iadd, 1), (24, .i2c, 1)] [.ref 0] (P := (¬ ((XT.ushr x0 (16 : Int32)) &&& (1 : Int32)) = (0 : Int32)) ∧ ((10 : Int32) ≠ 0) ∧ True) (by decide +kernel) rfl ⟨q, (by decide), trivial⟩
    exact ⟨_, T, _, h, _, _, N, by decide, by decide, fun q => (nomatch q), ⟨⟨_, rfl, ch_nar _⟩, rfl⟩, g1.trans g2, finN K N hret (Or.inr (Or.inr (Or.inl rfl))) (by decide +kernel)⟩
set_option maxHeartbeats 1000000 in
theorem con_val (x0 : Int32) : Con l Z n0 ⟨"com/example/covenantry/covenantry/IsoDateDigitsPinLaw", "val", "(C)I"⟩ method_3_code 1 (some (.int)) [] ({ frames := 0, cells := 0, slots := 0, locals := 0 } : Room) #[.int x0] h (fun v h' => v = some (.int (Int32.ofInt (valI x0))) ∧ h = h') := by
  refine Con.ofH (plainFor_of_name pn4) (L0 := #[.val (.int x0)]) (fun m => by first | (simp [entryFrame, mkF, argsToLocals, Value.category]; done) | rfl) ?_
  intro p e s m below meth c T K hret hnm N hs
  by_cases q1 : 48 ≤ x0.toInt
  · by_cases q2 : x0.toInt ≤ 57
    · have g1 : Ld p e below T (mkF m 0 #[.val (.int x0)] []) T (mkF m 16 #[.val (.int x0)] [(.int (x0 - (48 : Int32)))]) := goRun K N #[] [(0, .iload_n 0, 1), (1, .bipush 48, 2), (3, .if_icmp .lt 14, 3), (6, .iload_n 0, 1), (7, .bipush 57, 2), (9, .if_icmp .gt 8, 3), (12, .iload_n 0, 1), (13, .bipush 48, 2), (15, .isub, 1)] [.null, .null] (P := (¬ x0 < (48 : Int32)) ∧ (¬ (57 : Int32) < x0) ∧ True) (by decide +kernel) rfl ⟨(i_nlt q1), (i_nlt q2), trivial⟩
      exact ⟨_, T, _, h, _, _, N, by decide, by decide, fun q => (nomatch q), ⟨by rw [valI, if_pos ⟨q1, q2⟩, oi_sub, oi_self]; rfl, rfl⟩, g1, finI K N hret (by decide +kernel)⟩
    · have g1 : Ld p e below T (mkF m 0 #[.val (.int x0)] []) T (mkF m 18 #[.val (.int x0)] [(.int (-1 : Int32))]) := goRun K N #[] [(0, .iload_n 0, 1), (1, .bipush 48, 2), (3, .if_icmp .lt 14, 3), (6, .iload_n 0, 1), (7, .bipush 57, 2), (9, .if_icmp .gt 8, 3), (17, .iconst (-1), 1)] [.null, .ref 0] (P := (¬ x0 < (48 : Int32)) ∧ ((57 : Int32) < x0) ∧ True) (by decide +kernel) rfl ⟨(i_nlt q1), (i_lt (by show (57 : Int) < _; omega)), trivial⟩
      exact ⟨_, T, _, h, _, _, N, by decide, by decide, fun q => (nomatch q), ⟨by rw [valI, if_neg (fun z => q2 z.2)]; rfl, rfl⟩, g1, finI K N hret (by decide +kernel)⟩
  · have g1 : Ld p e below T (mkF m 0 #[.val (.int x0)] []) T (mkF m 18 #[.val (.int x0)] [(.int (-1 : Int32))]) := goRun K N #[] [(0, .iload_n 0, 1), (1, .bipush 48, 2), (3, .if_icmp .lt 14, 3), (17, .iconst (-1), 1)] [.ref 0] (P := (x0 < (48 : Int32)) ∧ True) (by decide +kernel) rfl ⟨(i_lt (by show _ < (48 : Int); omega)), trivial⟩
    exact ⟨_, T, _, h, _, _, N, by decide, by decide, fun q => (nomatch q), ⟨by rw [valI, if_neg (fun z => q1 z.1)]; rfl, rfl⟩, g1, finI K N hret (by decide +kernel)⟩
set_option maxHeartbeats 1000000 in
theorem con_p10 (k : Nat) (hk : k ≤ 3) : Con l Z n0 ⟨"com/example/covenantry/covenantry/IsoDateDigitsPinLaw", "pow10", "(I)I"⟩ method_4_code 1 (some (.int)) [] ({ frames := 0, cells := 0, slots := 0, locals := 0 } : Room) #[.int (Int32.ofNat k)] h (fun v h' => v = some (.int (Int32.ofInt ((10 : Int) ^ k))) ∧ h = h') := by
  refine Con.ofH (plainFor_of_name pn4) (L0 := #[.val (.int (Int32.ofNat k))]) (fun m => by first | (simp [entryFrame, mkF, argsToLocals, Value.category]; done) | rfl) ?_
  intro p e s m below meth c T K hret hnm N hs
  have hk4 : k = 0 ∨ k = 1 ∨ k = 2 ∨ k = 3 := by omega
  rcases hk4 with rfl | rfl | rfl | rfl
  · have g1 : Ld p e below T (mkF m 0 #[.val (.int (Int32.ofNat 0))] []) T (mkF m 5 #[.val (.int (Int32.ofNat 0))] [(.int (1 : Int32))]) := goRun K N #[] [(0, .iload_n 0, 1), (1, .ifCond .ne 5, 3), (4, .iconst 1, 1)] [.null] (P := ((Int32.ofNat 0) = (0 : Int32)) ∧ True) (by decide +kernel) rfl ⟨rfl, trivial⟩
    exact ⟨_, T, _, h, _, _, N, by decide, by decide, fun q => (nomatch q), ⟨rfl, rfl⟩, g1, finI K N hret (by decide +kernel)⟩
  · have g1 : Ld p e below T (mkF m 0 #[.val (.int (Int32.ofNat 1))] []) T (mkF m 13 #[.val (.int (Int32.ofNat 1))] [(.int (10 : Int32))]) := goRun K N #[] [(0, .iload_n 0, 1), (1, .ifCond .ne 5, 3), (6, .iload_n 0, 1), (7, .iconst 1, 1), (8, .if_icmp .ne 6, 3), (11, .bipush 10, 2)] [.ref 0, .null] (P := (¬ (Int32.ofNat 1) = (0 : Int32)) ∧ ((Int32.ofNat 1) = (1 : Int32)) ∧ True) (by decide +kernel) rfl ⟨(by decide), rfl, trivial⟩
    exact ⟨_, T, _, h, _, _, N, by decide, by decide, fun q => (nomatch q), ⟨rfl, rfl⟩, g1, finI K N hret (by decide +kernel)⟩
  · have g1 : Ld p e below T (mkF m 0 #[.val (.int (Int32.ofNat 2))] []) T (mkF m 21 #[.val (.int (Int32.ofNat 2))] [(.int (100 : Int32))]) := goRun K N #[] [(0, .iload_n 0, 1), (1, .ifCond .ne 5, 3), (6, .iload_n 0, 1), (7, .iconst 1, 1), (8, .if_icmp .ne 6, 3), (14, .iload_n 0, 1), (15, .iconst 2, 1), (16, .if_icmp .ne 6, 3), (19, .bipush 100, 2)] [.ref 0, .ref 0, .null] (P := (¬ (Int32.ofNat 2) = (0 : Int32)) ∧ (¬ (Int32.ofNat 2) = (1 : Int32)) ∧ ((Int32.ofNat 2) = (2 : Int32)) ∧ True) (by decide +kernel) rfl ⟨(by decide), (by decide), rfl, trivial⟩
    exact ⟨_, T, _, h, _, _, N, by decide, by decide, fun q => (nomatch q), ⟨rfl, rfl⟩, g1, finI K N hret (by decide +kernel)⟩
  · have g1 : Ld p e below T (mkF m 0 #[.val (.int (Int32.ofNat 3))] []) T (mkF m 25 #[.val (.int (Int32.ofNat 3))] [(.int (1000 : Int32))]) := goRun K N #[] [(0, .iload_n 0, 1), (1, .ifCond .ne 5, 3), (6, .iload_n 0, 1), (7, .iconst 1, 1), (8, .if_icmp .ne 6, 3), (14, .iload_n 0, 1), (15, .iconst 2, 1), (16, .if_icmp .ne 6, 3), (22, .sipush 1000, 3)] [.ref 0, .ref 0, .ref 0] (P := (¬ (Int32.ofNat 3) = (0 : Int32)) ∧ (¬ (Int32.ofNat 3) = (1 : Int32)) ∧ (¬ (Int32.ofNat 3) = (2 : Int32)) ∧ True) (by decide +kernel) rfl ⟨(by decide), (by decide), (by decide), trivial⟩
    exact ⟨_, T, _, h, _, _, N, by decide, by decide, fun q => (nomatch q), ⟨rfl, rfl⟩, g1, finI K N hret (by decide +kernel)⟩
set_option maxHeartbeats 1000000 in
theorem con_tm (hw : ∀ d ∈ tables_1, d.before a0 Z = true) (vv : Int) (hv : -1 ≤ vv ∧ vv ≤ 9) (i s' e' : Nat) (hi : i ≤ 3) (hs' : s' ≤ 4) (he' : e' ≤ 4) : Con l Z n0 ⟨"com/example/covenantry/covenantry/IsoDateDigitsPinLaw", "term", "(IIII)I"⟩ method_5_code 4 (some (.int)) [] ({ frames := 1, cells := 0, slots := 0, locals := 13 } : Room) #[.int (Int32.ofInt vv), .int (Int32.ofNat i), .int (Int32.ofNat s'), .int (Int32.ofNat e')] h (fun v h' => v = some (.int (Int32.ofInt (termI vv i s' e'))) ∧ h = h') := by
  refine Con.ofH (plainFor_of_name pn4) (L0 := #[.val (.int (Int32.ofInt vv)), .val (.int (Int32.ofNat i)), .val (.int (Int32.ofNat s')), .val (.int (Int32.ofNat e'))]) (fun m => by first | (simp [entryFrame, mkF, argsToLocals, Value.category]; done) | rfl) ?_
  intro p e s m below meth c T K hret hnm N hs
  by_cases q1 : s' ≤ i
  · by_cases q2 : i < e'
    · have g1 : Ld p e below T (mkF m 0 #[.val (.int (Int32.ofInt vv)), .val (.int (Int32.ofNat i)), .val (.int (Int32.ofNat s')), .val (.int (Int32.ofNat e'))] []) T (mkF m 12 #[.val (.int (Int32.ofInt vv)), .val (.int (Int32.ofNat i)), .val (.int (Int32.ofNat s')), .val (.int (Int32.ofNat e'))] []) := goRun K N #[] [(0, .iload_n 1, 1), (1, .iload_n 2, 1), (2, .if_icmp .lt 8, 3), (5, .iload_n 1, 1), (6, .iload_n 3, 1), (7, .if_icmp .lt 5, 3)] [.null, .ref 0] (P := (¬ (Int32.ofNat i) < (Int32.ofNat s')) ∧ ((Int32.ofNat i) < (Int32.ofNat e')) ∧ True) (by decide +kernel) rfl ⟨(by rw [n_lt (by omega) (by omega)]; omega), ((n_lt (by omega) (by omega)).mpr q2), trivial⟩
      have hvt : (Int32.ofInt vv).toInt = vv := oi_ti (by omega) (by omega)
      by_cases q3 : vv < 0
      · have g2 : Ld p e below T (mkF m 12 #[.val (.int (Int32.ofInt vv)), .val (.int (Int32.ofNat i)), .val (.int (Int32.ofNat s')), .val (.int (Int32.ofNat e'))] []) T (mkF m 18 #[.val (.int (Int32.ofInt vv)), .val (.int (Int32.ofNat i)), .val (.int (Int32.ofNat s')), .val (.int (Int32.ofNat e'))] [(.int (-100000 : Int32))]) := goRun K N a0 [(12, .iload_n 0, 1), (13, .ifCond .ge 6, 3), (16, .ldc 8, 2)] [.null, .int (-100000 : Int32)] (P := ((Int32.ofInt vv) < (0 : Int32)) ∧ ((Jvm.Cond.constant "com/example/covenantry/covenantry/IsoDateDigitsPinLaw" 8 (-100000 : Int32)).before a0 Z = true) ∧ True) (by decide +kernel) rfl ⟨(i_lt (by rw [hvt]; exact q3)), (tw hw 52 rfl), trivial⟩
        exact ⟨_, T, _, h, _, _, N, by decide, by decide, fun q => (nomatch q), ⟨by rw [termI, if_pos ⟨q1, q2⟩, if_pos q3]; rfl, rfl⟩, g1.trans g2, finI K N hret (by decide +kernel)⟩
      · have hkk : (Int32.ofNat e' - (1 : Int32)) - Int32.ofNat i = Int32.ofNat (e' - 1 - i) := by rw [n_sub1 (by omega), n_subn (by omega)]
        have g2 : Ld p e below T (mkF m 12 #[.val (.int (Int32.ofInt vv)), .val (.int (Int32.ofNat i)), .val (.int (Int32.ofNat s')), .val (.int (Int32.ofNat e'))] []) T (mkF m 25 #[.val (.int (Int32.ofInt vv)), .val (.int (Int32.ofNat i)), .val (.int (Int32.ofNat s')), .val (.int (Int32.ofNat e'))] [(.int (((Int32.ofNat e') - (1 : Int32)) - (Int32.ofNat i))), (.int (Int32.ofInt vv))]) := goRun K N #[] [(12, .iload_n 0, 1), (13, .ifCond .ge 6, 3), (19, .iload_n 0, 1), (20, .iload_n 3, 1), (21, .iconst 1, 1), (22, .isub, 1), (23, .iload_n 1, 1), (24, .isub, 1)] [.ref 0] (P := (¬ (Int32.ofInt vv) < (0 : Int32)) ∧ True) (by decide +kernel) rfl ⟨(fun z => q3 (by rw [Int32.lt_iff_toInt_lt, hvt] at z; exact z)), trivial⟩
        rw [hkk] at g2
        obtain ⟨v3, T3, _, N3, ⟨rfl, rfl⟩, g3⟩ := goS K N (tw hw 104 rfl) (tw hw 105 rfl) (tw hw 3 rfl) (tw hw 106 rfl) (con_p10 (e' - 1 - i) (by omega)) (argsL := [(.int (Int32.ofNat (e' - 1 - i)))]) (W := 1) (rest := [(.int (Int32.ofInt vv))]) (by decide) (by decide) (by decide) (by decide) (by decide) (L := #[.val (.int (Int32.ofInt vv)), .val (.int (Int32.ofNat i)), .val (.int (Int32.ofNat s')), .val (.int (Int32.ofNat e'))]) rfl pd12 rfl (Nat.le_of_eq rfl) (pc := 25) (by decide +kernel)
        have g4 : Ld p e below T3 (mkF m 28 #[.val (.int (Int32.ofInt vv)), .val (.int (Int32.ofNat i)), .val (.int (Int32.ofNat s')), .val (.int (Int32.ofNat e'))] [(.int (Int32.ofInt ((10 : Int) ^ (e' - 1 - i)))), (.int (Int32.ofInt vv))]) T3 (mkF m 29 #[.val (.int (Int32.ofInt vv)), .val (.int (Int32.ofNat i)), .val (.int (Int32.ofNat s')), .val (.int (Int32.ofNat e'))] [(.int ((Int32.ofInt vv) * (Int32.ofInt ((10 : Int) ^ (e' - 1 - i)))))]) := goRun K N3 #[] [(28, .imul, 1)] [] (P := True) (by decide +kernel) rfl trivial
        exact ⟨_, T3, _, h, _, _, N3, by decide, by decide, fun q => (nomatch q), ⟨by rw [termI, if_pos ⟨q1, q2⟩, if_neg q3, oi_mul], rfl⟩, g1.trans (g2.trans (g3.trans g4)), finI K N3 hret (by decide +kernel)⟩
    · have g1 : Ld p e below T (mkF m 0 #[.val (.int (Int32.ofInt vv)), .val (.int (Int32.ofNat i)), .val (.int (Int32.ofNat s')), .val (.int (Int32.ofNat e'))] []) T (mkF m 11 #[.val (.int (Int32.ofInt vv)), .val (.int (Int32.ofNat i)), .val (.int (Int32.ofNat s')), .val (.int (Int32.ofNat e'))] [(.int (0 : Int32))]) := goRun K N #[] [(0, .iload_n 1, 1), (1, .iload_n 2, 1), (2, .if_icmp .lt 8, 3), (5, .iload_n 1, 1), (6, .iload_n 3, 1), (7, .if_icmp .lt 5, 3), (10, .iconst 0, 1)] [.null, .null] (P := (¬ (Int32.ofNat i) < (Int32.ofNat s')) ∧ (¬ (Int32.ofNat i) < (Int32.ofNat e')) ∧ True) (by decide +kernel) rfl ⟨(by rw [n_lt (by omega) (by omega)]; omega), (by rw [n_lt (by omega) (by omega)]; omega), trivial⟩
      exact ⟨_, T, _, h, _, _, N, by decide, by decide, fun q => (nomatch q), ⟨by rw [termI, if_neg (fun z => q2 z.2)]; rfl, rfl⟩, g1, finI K N hret (by decide +kernel)⟩
  · have g1 : Ld p e below T (mkF m 0 #[.val (.int (Int32.ofInt vv)), .val (.int (Int32.ofNat i)), .val (.int (Int32.ofNat s')), .val (.int (Int32.ofNat e'))] []) T (mkF m 11 #[.val (.int (Int32.ofInt vv)), .val (.int (Int32.ofNat i)), .val (.int (Int32.ofNat s')), .val (.int (Int32.ofNat e'))] [(.int (0 : Int32))]) := goRun K N #[] [(0, .iload_n 1, 1), (1, .iload_n 2, 1), (2, .if_icmp .lt 8, 3), (10, .iconst 0, 1)] [.ref 0] (P := ((Int32.ofNat i) < (Int32.ofNat s')) ∧ True) (by decide +kernel) rfl ⟨((n_lt (by omega) (by omega)).mpr (by omega)), trivial⟩
    exact ⟨_, T, _, h, _, _, N, by decide, by decide, fun q => (nomatch q), ⟨by rw [termI, if_neg (fun z => q1 z.1)]; rfl, rfl⟩, g1, finI K N hret (by decide +kernel)⟩
set_option maxHeartbeats 1000000 in
theorem con_mn (a b : Nat) (ha : a < 1000) (hb : b < 1000) : Con l Z n0 ⟨"java/lang/Math", "min", "(II)I"⟩ jdk_29_method_69_code 2 (some (.int)) [] ({ frames := 0, cells := 0, slots := 0, locals := 0 } : Room) #[.int (Int32.ofNat a), .int (Int32.ofNat b)] h (fun v h' => v = some (.int (Int32.ofNat (min a b))) ∧ h = h') := by
  refine Con.ofH (by decide +kernel) (L0 := #[.val (.int (Int32.ofNat a)), .val (.int (Int32.ofNat b))]) (fun m => by first | (simp [entryFrame, mkF, argsToLocals, Value.category]; done) | rfl) ?_
  intro p e s m below meth c T K hret hnm N hs
  by_cases q : b < a
  · have g1 : Ld p e below T (mkF m 0 #[.val (.int (Int32.ofNat a)), .val (.int (Int32.ofNat b))] []) T (mkF m 10 #[.val (.int (Int32.ofNat a)), .val (.int (Int32.ofNat b))] [(.int (Int32.ofNat b))]) := goRun K N #[] [(0, .iload_n 0, 1), (1, .iload_n 1, 1), (2, .if_icmp .gt 7, 3), (9, .iload_n 1, 1)] [.ref 0] (P := ((Int32.ofNat b) < (Int32.ofNat a)) ∧ True) (by decide +kernel) rfl ⟨((n_lt (by omega) (by omega)).mpr q), trivial⟩
    exact ⟨_, T, _, h, _, _, N, by decide, by decide, fun q => (nomatch q), ⟨by congr 3; simp [Nat.min_def]; omega, rfl⟩, g1, finI K N hret (by decide +kernel)⟩
  · have g1 : Ld p e below T (mkF m 0 #[.val (.int (Int32.ofNat a)), .val (.int (Int32.ofNat b))] []) T (mkF m 10 #[.val (.int (Int32.ofNat a)), .val (.int (Int32.ofNat b))] [(.int (Int32.ofNat a))]) := goRun K N #[] [(0, .iload_n 0, 1), (1, .iload_n 1, 1), (2, .if_icmp .gt 7, 3), (5, .iload_n 0, 1), (6, .goto 4, 3)] [.null] (P := (¬ (Int32.ofNat b) < (Int32.ofNat a)) ∧ True) (by decide +kernel) rfl ⟨(by rw [n_lt (by omega) (by omega)]; exact q), trivial⟩
    exact ⟨_, T, _, h, _, _, N, by decide, by decide, fun q => (nomatch q), ⟨by congr 3; simp [Nat.min_def]; omega, rfl⟩, g1, finI K N hret (by decide +kernel)⟩
set_option maxHeartbeats 1000000 in
theorem con_mx (a b : Nat) (ha : a < 1000) (hb : b < 1000) : Con l Z n0 ⟨"java/lang/Math", "max", "(II)I"⟩ jdk_29_method_65_code 2 (some (.int)) [] ({ frames := 0, cells := 0, slots := 0, locals := 0 } : Room) #[.int (Int32.ofNat a), .int (Int32.ofNat b)] h (fun v h' => v = some (.int (Int32.ofNat (max a b))) ∧ h = h') := by
  refine Con.ofH (by decide +kernel) (L0 := #[.val (.int (Int32.ofNat a)), .val (.int (Int32.ofNat b))]) (fun m => by first | (simp [entryFrame, mkF, argsToLocals, Value.category]; done) | rfl) ?_
  intro p e s m below meth c T K hret hnm N hs
  by_cases q : a < b
  · have g1 : Ld p e below T (mkF m 0 #[.val (.int (Int32.ofNat a)), .val (.int (Int32.ofNat b))] []) T (mkF m 10 #[.val (.int (Int32.ofNat a)), .val (.int (Int32.ofNat b))] [(.int (Int32.ofNat b))]) := goRun K N #[] [(0, .iload_n 0, 1), (1, .iload_n 1, 1), (2, .if_icmp .lt 7, 3), (9, .iload_n 1, 1)] [.ref 0] (P := ((Int32.ofNat a) < (Int32.ofNat b)) ∧ True) (by decide +kernel) rfl ⟨((n_lt (by omega) (by omega)).mpr q), trivial⟩
    exact ⟨_, T, _, h, _, _, N, by decide, by decide, fun q => (nomatch q), ⟨by congr 3; simp [Nat.max_def]; omega, rfl⟩, g1, finI K N hret (by decide +kernel)⟩
  · have g1 : Ld p e below T (mkF m 0 #[.val (.int (Int32.ofNat a)), .val (.int (Int32.ofNat b))] []) T (mkF m 10 #[.val (.int (Int32.ofNat a)), .val (.int (Int32.ofNat b))] [(.int (Int32.ofNat a))]) := goRun K N #[] [(0, .iload_n 0, 1), (1, .iload_n 1, 1), (2, .if_icmp .lt 7, 3), (5, .iload_n 0, 1), (6, .goto 4, 3)] [.null] (P := (¬ (Int32.ofNat a) < (Int32.ofNat b)) ∧ True) (by decide +kernel) rfl ⟨(by rw [n_lt (by omega) (by omega)]; exact q), trivial⟩
    exact ⟨_, T, _, h, _, _, N, by decide, by decide, fun q => (nomatch q), ⟨by congr 3; simp [Nat.max_def]; omega, rfl⟩, g1, finI K N hret (by decide +kernel)⟩
set_option maxHeartbeats 1000000 in
theorem dg_loop (hw : ∀ d ∈ tables_1, d.before a0 Z = true) {z : Int32} {fm : Value} (sf : SF Z z fm) (K : Cx Z "com/example/covenantry/covenantry/IsoDate" prog_12_method_4_code 6 p m c) {a t : Addr} {cs : List Int32} {sS : Int32} {e' : Nat} (F : Stv Z h a t cs) (he : e' ≤ cs.length) (hret : meth.sig.returnType = some .int) (hRf : 5 ≤ R.frames) (hRl : 93 ≤ R.locals) (hRc : cells ≤ R.cells) (hRs : slots ≤ R.slots) (O0 : Old Z n0 s.heap) : ∀ (k i : Nat) (NN : Int) (q5 : Slot) (T : State), i + k = e' → One q5 → Nw Z n0 h p l e R s m args below meth c T cells slots →
    ∃ T' g', Nw Z n0 h p l e R s m args below meth c T' cells slots ∧ Ld p e below T (mkF m 5 #[.val (.ref a), .val (.int sS), .val (.int (Int32.ofNat e')), .val (.int (Int32.ofInt NN)), .val (.int (Int32.ofNat i)), q5] []) T' g' ∧ Fn p e below m T' g' (some (.int (Int32.ofInt (digI NN ((cs.drop i).take k))))) := by
  have hl := F.2.2.1
  intro k
  induction k with
  | zero =>
    intro i NN q5 T hi h5 N
    have g1 : Ld p e below T (mkF m 5 #[.val (.ref a), .val (.int sS), .val (.int (Int32.ofNat e')), .val (.int (Int32.ofInt NN)), .val (.int (Int32.ofNat i)), q5] []) T (mkF m 53 #[.val (.ref a), .val (.int sS), .val (.int (Int32.ofNat e')), .val (.int (Int32.ofInt NN)), .val (.int (Int32.ofNat i)), q5] [(.int (Int32.ofInt NN))]) := goRun K N #[] [(5, .iload 4, 2), (7, .iload_n 2, 1), (8, .if_icmp .ge 44, 3), (52, .iload_n 3, 1)] [.ref 0] (P := (¬ (Int32.ofNat i) < (Int32.ofNat e')) ∧ True) (by decide +kernel) rfl ⟨(by rw [n_lt (by omega) (by omega)]; omega), trivial⟩
    exact ⟨T, _, N, g1, finI K N hret (by decide +kernel)⟩
  | succ k ih =>
    intro i NN q5 T hi h5 N
    obtain ⟨cc, hc⟩ : ∃ cc, cs[i]? = some cc := ⟨cs[i]'(by omega), List.getElem?_eq_getElem (by omega)⟩
    have hlt : Int32.ofNat i < Int32.ofNat e' := (n_lt (by omega) (by omega)).mpr (by omega)
    have hdr : (cs.drop i).take (k + 1) = cc :: (cs.drop (i + 1)).take k := by
      obtain ⟨h1, h2⟩ := List.getElem?_eq_some_iff.mp hc
      rw [List.drop_eq_getElem_cons h1, List.take_succ_cons, h2]
    rw [hdr]
    rcases h5 with rfl | ⟨i5, rfl⟩
    · have g1 : Ld p e below T (mkF m 5 #[.val (.ref a), .val (.int sS), .val (.int (Int32.ofNat e')), .val (.int (Int32.ofInt NN)), .val (.int (Int32.ofNat i)), .unset] []) T (mkF m 14 #[.val (.ref a), .val (.int sS), .val (.int (Int32.ofNat e')), .val (.int (Int32.ofInt NN)), .val (.int (Int32.ofNat i)), .unset] [(.int (Int32.ofNat i)), (.ref a)]) := goRun K N #[] [(5, .iload 4, 2), (7, .iload_n 2, 1), (8, .if_icmp .ge 44, 3), (11, .aload_n 0, 1), (12, .iload 4, 2)] [.null] (P := ((Int32.ofNat i) < (Int32.ofNat e')) ∧ True) (by decide +kernel) rfl ⟨hlt, trivial⟩
      obtain ⟨v2, T2, _, N2, ⟨rfl, rfl⟩, g2⟩ := goVi K N (a := a) F.1 (tw hw 53 rfl) (tw hw 54 rfl) (tw hw 56 rfl) (tw hw 55 rfl) (tw hw 8 rfl) (tw hw 57 rfl) (con_ca hw sf F hc (N.old O0)) (argsL := [(.int (Int32.ofNat i))]) (W := 0) (rest := []) (by decide) (Nat.le_trans (by decide) hRf) (Nat.le_trans (by decide) hRl) (by simpa using hRc) (by simpa using hRs) (L := #[.val (.ref a), .val (.int sS), .val (.int (Int32.ofNat e')), .val (.int (Int32.ofInt NN)), .val (.int (Int32.ofNat i)), .unset]) rfl pd4 rfl (Nat.le_of_eq rfl) (pc := 14) (by decide +kernel)
      by_cases q1 : 48 ≤ cc.toInt
      · by_cases q2 : cc.toInt ≤ 57
        · have g3 : Ld p e below T2 (mkF m 17 #[.val (.ref a), .val (.int sS), .val (.int (Int32.ofNat e')), .val (.int (Int32.ofInt NN)), .val (.int (Int32.ofNat i)), .unset] [(.int cc)]) T2 (mkF m 5 #[.val (.ref a), .val (.int sS), .val (.int (Int32.ofNat e')), .val (.int ((((Int32.ofInt NN) * (10 : Int32)) + cc) - (48 : Int32))), .val (.int ((Int32.ofNat i) + (1 : Int32))), .val (.int cc)] []) := goRun K N2 #[] [(17, .istore 5, 2), (19, .iload 5, 2), (21, .bipush 48, 2), (23, .if_icmp .lt 10, 3), (26, .iload 5, 2), (28, .bipush 57, 2), (30, .if_icmp .le 5, 3), (35, .iload_n 3, 1), (36, .bipush 10, 2), (38, .imul, 1), (39, .iload 5, 2), (41, .iadd, 1), (42, .bipush 48, 2), (44, .isub, 1), (45, .istore_n 3, 1), (46, .iinc 4 1, 3), (49, .goto (-44), 3)] [.null, .ref 0] (P := (¬ cc < (48 : Int32)) ∧ (¬ (57 : Int32) < cc) ∧ True) (by decide +kernel) rfl ⟨(i_nlt q1), (i_nlt q2), trivial⟩
          rw [n_one, dg_step] at g3
          obtain ⟨T9, g', N9, g9, f9⟩ := ih (i + 1) (NN * 10 + cc.toInt - 48) _ T2 (by omega) (Or.inr ⟨_, rfl⟩) N2
          refine ⟨T9, g', N9, g1.trans (g2.trans (g3.trans g9)), ?_⟩
          rw [digI, if_pos ⟨q1, q2⟩]; exact f9
        · have g3 : Ld p e below T2 (mkF m 17 #[.val (.ref a), .val (.int sS), .val (.int (Int32.ofNat e')), .val (.int (Int32.ofInt NN)), .val (.int (Int32.ofNat i)), .unset] [(.int cc)]) T2 (mkF m 34 #[.val (.ref a), .val (.int sS), .val (.int (Int32.ofNat e')), .val (.int (Int32.ofInt NN)), .val (.int (Int32.ofNat i)), .val (.int cc)] [(.int (-1 : Int32))]) := goRun K N2 #[] [(17, .istore 5, 2), (19, .iload 5, 2), (21, .bipush 48, 2), (23, .if_icmp .lt 10, 3), (26, .iload 5, 2), (28, .bipush 57, 2), (30, .if_icmp .le 5, 3), (33, .iconst (-1), 1)] [.null, .null] (P := (¬ cc < (48 : Int32)) ∧ ((57 : Int32) < cc) ∧ True) (by decide +kernel) rfl ⟨(i_nlt q1), (i_lt (by show (57 : Int) < _; omega)), trivial⟩
          refine ⟨T2, _, N2, g1.trans (g2.trans g3), ?_⟩
          rw [digI, if_neg (fun z => q2 z.2)]; exact finI K N2 hret (by decide +kernel)
      · have g3 : Ld p e below T2 (mkF m 17 #[.val (.ref a), .val (.int sS), .val (.int (Int32.ofNat e')), .val (.int (Int32.ofInt NN)), .val (.int (Int32.ofNat i)), .unset] [(.int cc)]) T2 (mkF m 34 #[.val (.ref a), .val (.int sS), .val (.int (Int32.ofNat e')), .val (.int (Int32.ofInt NN)), .val (.int (Int32.ofNat i)), .val (.int cc)] [(.int (-1 : Int32))]) := goRun K N2 #[] [(17, .istore 5, 2), (19, .iload 5, 2), (21, .bipush 48, 2), (23, .if_icmp .lt 10, 3), (33, .iconst (-1), 1)] [.ref 0] (P := (cc < (48 : Int32)) ∧ True) (by decide +kernel) rfl ⟨(i_lt (by show _ < (48 : Int); omega)), trivial⟩
        refine ⟨T2, _, N2, g1.trans (g2.trans g3), ?_⟩
        rw [digI, if_neg (fun z => q1 z.1)]; exact finI K N2 hret (by decide +kernel)
    · have g1 : Ld p e below T (mkF m 5 #[.val (.ref a), .val (.int sS), .val (.int (Int32.ofNat e')), .val (.int (Int32.ofInt NN)), .val (.int (Int32.ofNat i)), .val (.int i5)] []) T (mkF m 14 #[.val (.ref a), .val (.int sS), .val (.int (Int32.ofNat e')), .val (.int (Int32.ofInt NN)), .val (.int (Int32.ofNat i)), .val (.int i5)] [(.int (Int32.ofNat i)), (.ref a)]) := goRun K N #[] [(5, .iload 4, 2), (7, .iload_n 2, 1), (8, .if_icmp .ge 44, 3), (11, .aload_n 0, 1), (12, .iload 4, 2)] [.null] (P := ((Int32.ofNat i) < (Int32.ofNat e')) ∧ True) (by decide +kernel) rfl ⟨hlt, trivial⟩
      obtain ⟨v2, T2, _, N2, ⟨rfl, rfl⟩, g2⟩ := goVi K N (a := a) F.1 (tw hw 53 rfl) (tw hw 54 rfl) (tw hw 56 rfl) (tw hw 55 rfl) (tw hw 8 rfl) (tw hw 57 rfl) (con_ca hw sf F hc (N.old O0)) (argsL := [(.int (Int32.ofNat i))]) (W := 0) (rest := []) (by decide) (Nat.le_trans (by decide) hRf) (Nat.le_trans (by decide) hRl) (by simpa using hRc) (by simpa using hRs) (L := #[.val (.ref a), .val (.int sS), .val (.int (Int32.ofNat e')), .val (.int (Int32.ofInt NN)), .val (.int (Int32.ofNat i)), .val (.int i5)]) rfl pd4 rfl (Nat.le_of_eq rfl) (pc := 14) (by decide +kernel)
      by_cases q1 : 48 ≤ cc.toInt
      · by_cases q2 : cc.toInt ≤ 57
        · have g3 : Ld p e below T2 (mkF m 17 #[.val (.ref a), .val (.int sS), .val (.int (Int32.ofNat e')), .val (.int (Int32.ofInt NN)), .val (.int (Int32.ofNat i)), .val (.int i5)] [(.int cc)]) T2 (mkF m 5 #[.val (.ref a), .val (.int sS), .val (.int (Int32.ofNat e')), .val (.int ((((Int32.ofInt NN) * (10 : Int32)) + cc) - (48 : Int32))), .val (.int ((Int32.ofNat i) + (1 : Int32))), .val (.int cc)] []) := goRun K N2 #[] [(17, .istore 5, 2), (19, .iload 5, 2), (21, .bipush 48, 2), (23, .if_icmp .lt 10, 3), (26, .iload 5, 2), (28, .bipush 57, 2), (30, .if_icmp .le 5, 3), (35, .iload_n 3, 1), (36, .bipush 10, 2), (38, .imul, 1), (39, .iload 5, 2), (41, .iadd, 1), (42, .bipush 48, 2), (44, .isub, 1), (45, .istore_n 3, 1), (46, .iinc 4 1, 3), (49, .goto (-44), 3)] [.null, .ref 0] (P := (¬ cc < (48 : Int32)) ∧ (¬ (57 : Int32) < cc) ∧ True) (by decide +kernel) rfl ⟨(i_nlt q1), (i_nlt q2), trivial⟩
          rw [n_one, dg_step] at g3
          obtain ⟨T9, g', N9, g9, f9⟩ := ih (i + 1) (NN * 10 + cc.toInt - 48) _ T2 (by omega) (Or.inr ⟨_, rfl⟩) N2
          refine ⟨T9, g', N9, g1.trans (g2.trans (g3.trans g9)), ?_⟩
          rw [digI, if_pos ⟨q1, q2⟩]; exact f9
        · have g3 : Ld p e below T2 (mkF m 17 #[.val (.ref a), .val (.int sS), .val (.int (Int32.ofNat e')), .val (.int (Int32.ofInt NN)), .val (.int (Int32.ofNat i)), .val (.int i5)] [(.int cc)]) T2 (mkF m 34 #[.val (.ref a), .val (.int sS), .val (.int (Int32.ofNat e')), .val (.int (Int32.ofInt NN)), .val (.int (Int32.ofNat i)), .val (.int cc)] [(.int (-1 : Int32))]) := goRun K N2 #[] [(17, .istore 5, 2), (19, .iload 5, 2), (21, .bipush 48, 2), (23, .if_icmp .lt 10, 3), (26, .iload 5, 2), (28, .bipush 57, 2), (30, .if_icmp .le 5, 3), (33, .iconst (-1), 1)] [.null, .null] (P := (¬ cc < (48 : Int32)) ∧ ((57 : Int32) < cc) ∧ True) (by decide +kernel) rfl ⟨(i_nlt q1), (i_lt (by show (57 : Int) < _; omega)), trivial⟩
          refine ⟨T2, _, N2, g1.trans (g2.trans g3), ?_⟩
          rw [digI, if_neg (fun z => q2 z.2)]; exact finI K N2 hret (by decide +kernel)
      · have g3 : Ld p e below T2 (mkF m 17 #[.val (.ref a), .val (.int sS), .val (.int (Int32.ofNat e')), .val (.int (Int32.ofInt NN)), .val (.int (Int32.ofNat i)), .val (.int i5)] [(.int cc)]) T2 (mkF m 34 #[.val (.ref a), .val (.int sS), .val (.int (Int32.ofNat e')), .val (.int (Int32.ofInt NN)), .val (.int (Int32.ofNat i)), .val (.int cc)] [(.int (-1 : Int32))]) := goRun K N2 #[] [(17, .istore 5, 2), (19, .iload 5, 2), (21, .bipush 48, 2), (23, .if_icmp .lt 10, 3), (33, .iconst (-1), 1)] [.ref 0] (P := (cc < (48 : Int32)) ∧ True) (by decide +kernel) rfl ⟨(i_lt (by show _ < (48 : Int); omega)), trivial⟩
        refine ⟨T2, _, N2, g1.trans (g2.trans g3), ?_⟩
        rw [digI, if_neg (fun z => q1 z.1)]; exact finI K N2 hret (by decide +kernel)
set_option maxHeartbeats 1000000 in
theorem con_dg (hw : ∀ d ∈ tables_1, d.before a0 Z = true) {z : Int32} {fm : Value} (sf : SF Z z fm) {a t : Addr} {cs : List Int32} {s' e' : Nat} (F : Stv Z h a t cs) (he : e' ≤ cs.length) (hse : s' ≤ e') (O : Old Z n0 h) : Con l Z n0 ⟨"com/example/covenantry/covenantry/IsoDate", "digits", "(Ljava/lang/String;II)I"⟩ prog_12_method_4_code 6 (some (.int)) [] ({ frames := 5, cells := 0, slots := 0, locals := 93 } : Room) #[.ref a, .int (Int32.ofNat s'), .int (Int32.ofNat e')] h (fun v h' => v = some (.int (Int32.ofInt (digI 0 ((cs.drop s').take (e' - s'))))) ∧ h = h') := by
  refine Con.ofH (plainFor_of_name pn5) (L0 := #[.val (.ref a), .val (.int (Int32.ofNat s')), .val (.int (Int32.ofNat e')), .unset, .unset, .unset]) (fun m => by first | (simp [entryFrame, mkF, argsToLocals, Value.category]; done) | rfl) ?_
  intro p e s m below meth c T K hret hnm N hs
  have O0 : Old Z n0 s.heap := by rw [hs]; exact O
  have g1 : Ld p e below T (mkF m 0 #[.val (.ref a), .val (.int (Int32.ofNat s')), .val (.int (Int32.ofNat e')), .unset, .unset, .unset] []) T (mkF m 5 #[.val (.ref a), .val (.int (Int32.ofNat s')), .val (.int (Int32.ofNat e')), .val (.int (0 : Int32)), .val (.int (Int32.ofNat s')), .unset] []) := goRun K N #[] [(0, .iconst 0, 1), (1, .istore_n 3, 1), (2, .iload_n 1, 1), (3, .istore 4, 2)] [] (P := True) (by decide +kernel) rfl trivial
  obtain ⟨T9, g', N9, g9, f9⟩ := dg_loop hw sf K F he hret (by decide) (by decide) (by decide) (by decide) O0 (e' - s') s' 0 _ T (by omega) (Or.inl rfl) N
  exact ⟨_, T9, g', h, _, _, N9, by decide, by decide, fun q => (nomatch q), ⟨rfl, rfl⟩, g1.trans g9, f9⟩
def sumI (c0 c1 c2 c3 : Int32) (s e : Nat) : Int := termI (valI c0) 0 s e + termI (valI c1) 1 s e + termI (valI c2) 2 s e + termI (valI c3) 3 s e
theorem sum_rng (c0 c1 c2 c3 : Int32) {s e : Nat} (he : e ≤ 4) : -400000 ≤ sumI c0 c1 c2 c3 s e ∧ sumI c0 c1 c2 c3 s e ≤ 40000 := by
  have key : ∀ (v : Int) (i : Nat), -1 ≤ v → v ≤ 9 → i ≤ 3 → -100000 ≤ termI v i s e ∧ termI v i s e ≤ 9000 := by
    intro v i h1 h2 hi
    unfold termI
    split
    · split
      · omega
      · have hk : e - 1 - i = 0 ∨ e - 1 - i = 1 ∨ e - 1 - i = 2 ∨ e - 1 - i = 3 := by omega
        rcases hk with q | q | q | q <;> rw [q] <;> omega
    · omega
  have k0 := key (valI c0) 0 (valI_rng c0).1 (valI_rng c0).2 (by omega)
  have k1 := key (valI c1) 1 (valI_rng c1).1 (valI_rng c1).2 (by omega)
  have k2 := key (valI c2) 2 (valI_rng c2).1 (valI_rng c2).2 (by omega)
  have k3 := key (valI c3) 3 (valI_rng c3).1 (valI_rng c3).2 (by omega)
  unfold sumI; omega
set_option maxHeartbeats 4000000 in
theorem fin_law (c0 c1 c2 c3 : Int32) {s e : Nat} (hse : s ≤ e) (he : e ≤ 4) : digI 0 (([c0, c1, c2, c3].drop s).take (e - s)) = if sumI c0 c1 c2 c3 s e < 0 then -1 else sumI c0 c1 c2 c3 s e := by
  have hs5 : s = 0 ∨ s = 1 ∨ s = 2 ∨ s = 3 ∨ s = 4 := by omega
  have he5 : e = 0 ∨ e = 1 ∨ e = 2 ∨ e = 3 ∨ e = 4 := by omega
  by_cases p0 : 48 ≤ c0.toInt ∧ c0.toInt ≤ 57 <;> by_cases p1 : 48 ≤ c1.toInt ∧ c1.toInt ≤ 57 <;> by_cases p2 : 48 ≤ c2.toInt ∧ c2.toInt ≤ 57 <;> by_cases p3 : 48 ≤ c3.toInt ∧ c3.toInt ≤ 57 <;>
  rcases hs5 with rfl | rfl | rfl | rfl | rfl <;> rcases he5 with rfl | rfl | rfl | rfl | rfl <;>
  first
    | (exfalso; omega)
    | (simp only [sumI, termI, valI, p0, p1, p2, p3, List.drop, List.take, digI, if_true, if_false, and_self, Nat.reduceSub, Nat.reduceLeDiff, Nat.reduceLT, and_true, true_and, and_false, false_and, Int.reduceNeg, Int.reduceLT, Int.reducePow, Nat.reducePow]; (repeat' split) <;> omega)
set_option maxHeartbeats 4000000 in
theorem con_law (hw : ∀ d ∈ tables_1, d.before a0 Z = true) {z : Int32} {fm : Value} (sf : SF Z z fm) (p0 p1 p2 p3 p4 : Int32) (O : Old Z n0 h) (ws : List Jvm.Cond) : Con l Z n0 x code maxLocals ret ws room_1 #[.int p0, .int p1, .int p2, .int p3, .int p4] h (fun v _ => v = some (.int 1)) := by
  refine Con.ofH (plainFor_of_name pn4) (L0 := #[.val (.int p0), .val (.int p1), .val (.int p2), .val (.int p3), .val (.int p4), .unset, .unset, .unset, .unset, .unset, .unset, .unset, .unset]) (fun m => by first | (simp [entryFrame, mkF, argsToLocals, Value.category, maxLocals]; done) | rfl) ?_
  intro p e s m below meth c T K hret hnm N hs
  have K : Cx Z "com/example/covenantry/covenantry/IsoDateDigitsPinLaw" code maxLocals p m c := K
  have O0 : Old Z n0 s.heap := by rw [hs]; exact O
  have g1 : Ld p e below T (mkF m 0 #[.val (.int p0), .val (.int p1), .val (.int p2), .val (.int p3), .val (.int p4), .unset, .unset, .unset, .unset, .unset, .unset, .unset, .unset] []) T (mkF m 1 #[.val (.int p0), .val (.int p1), .val (.int p2), .val (.int p3), .val (.int p4), .unset, .unset, .unset, .unset, .unset, .unset, .unset, .unset] [(.int (4 : Int32))]) := goRun K N #[] [(0, .iconst 4, 1)] [] (P := True) (by decide +kernel) rfl trivial
  have hn4 : (4 : Int32).toInt = ((4 : Nat) : Int) := rfl
  obtain ⟨T2, h2, a2, cA2, ea2, N2, E2, A2, g2⟩ := goNewP K N (aty := .char) (tw hw 0 rfl) (n := (4 : Int32)) (not_neg_of hn4) (cap := 4) (by rw [clamp_of hn4]; omega) (by decide) (by decide) (by decide) (pc := 1) (L := #[.val (.int p0), .val (.int p1), .val (.int p2), .val (.int p3), .val (.int p4), .unset, .unset, .unset, .unset, .unset, .unset, .unset, .unset]) (S := []) (by decide +kernel)
  have A2 := Av.new A2 (not_neg_of hn4) hn4
  have ha2 : n0 ≤ a2 := ea2 ▸ N.size
  have g3 : Ld p e below T2 (mkF m 3 #[.val (.int p0), .val (.int p1), .val (.int p2), .val (.int p3), .val (.int p4), .unset, .unset, .unset, .unset, .unset, .unset, .unset, .unset] [(.ref a2)]) T2 (mkF m 6 #[.val (.int p0), .val (.int p1), .val (.int p2), .val (.int p3), .val (.int p4), .unset, .unset, .unset, .unset, .unset, .unset, .unset, .unset] [(.int p0), (.int (0 : Int32)), (.ref a2), (.ref a2)]) := goRun K N2 #[] [(3, .dup, 1), (4, .iconst 0, 1), (5, .iload_n 0, 1)] [] (P := True) (by decide +kernel) rfl trivial
  obtain ⟨v4, T4, _, N4, ⟨⟨c0, rfl, hc0⟩, rfl⟩, g4⟩ := goS K N2 (tw hw 1 rfl) (tw hw 2 rfl) (tw hw 3 rfl) (tw hw 4 rfl) (con_ch hw p0) (argsL := [(.int p0)]) (W := 3) (rest := [(.int (0 : Int32)), (.ref a2), (.ref a2)]) (by decide) (by decide) (by decide) (by decide) (by decide) (L := #[.val (.int p0), .val (.int p1), .val (.int p2), .val (.int p3), .val (.int p4), .unset, .unset, .unset, .unset, .unset, .unset, .unset, .unset]) rfl pd4 rfl (Nat.le_of_eq rfl) (pc := 6) (by decide +kernel)
  obtain ⟨T5, h5, N5, K5, A5, g5⟩ := avStC K N4 A2 (j := (0 : Int32)) (i := 0) (x := c0) rfl (by simp) ha2 (pc := 9) (L := #[.val (.int p0), .val (.int p1), .val (.int p2), .val (.int p3), .val (.int p4), .unset, .unset, .unset, .unset, .unset, .unset, .unset, .unset]) (S := [(.ref a2)]) (by decide +kernel)
  rw [nar_ch hc0] at A5
  have g6 : Ld p e below T5 (mkF m 10 #[.val (.int p0), .val (.int p1), .val (.int p2), .val (.int p3), .val (.int p4), .unset, .unset, .unset, .unset, .unset, .unset, .unset, .unset] [(.ref a2)]) T5 (mkF m 13 #[.val (.int p0), .val (.int p1), .val (.int p2), .val (.int p3), .val (.int p4), .unset, .unset, .unset, .unset, .unset, .unset, .unset, .unset] [(.int p1), (.int (1 : Int32)), (.ref a2), (.ref a2)]) := goRun K N5 #[] [(10, .dup, 1), (11, .iconst 1, 1), (12, .iload_n 1, 1)] [] (P := True) (by decide +kernel) rfl trivial
  obtain ⟨v7, T7, _, N7, ⟨⟨c1, rfl, hc1⟩, rfl⟩, g7⟩ := goS K N5 (tw hw 1 rfl) (tw hw 2 rfl) (tw hw 3 rfl) (tw hw 4 rfl) (con_ch hw p1) (argsL := [(.int p1)]) (W := 3) (rest := [(.int (1 : Int32)), (.ref a2), (.ref a2)]) (by decide) (by decide) (by decide) (by decide) (by decide) (L := #[.val (.int p0), .val (.int p1), .val (.int p2), .val (.int p3), .val (.int p4), .unset, .unset, .unset, .unset, .unset, .unset, .unset, .unset]) rfl pd4 rfl (Nat.le_of_eq rfl) (pc := 13) (by decide +kernel)
  obtain ⟨T8, h8, N8, K8, A8, g8⟩ := avStC K N7 A5 (j := (1 : Int32)) (i := 1) (x := c1) rfl (by simp) ha2 (pc := 16) (L := #[.val (.int p0), .val (.int p1), .val (.int p2), .val (.int p3), .val (.int p4), .unset, .unset, .unset, .unset, .unset, .unset, .unset, .unset]) (S := [(.ref a2)]) (by decide +kernel)
  rw [nar_ch hc1] at A8
  have g9 : Ld p e below T8 (mkF m 17 #[.val (.int p0), .val (.int p1), .val (.int p2), .val (.int p3), .val (.int p4), .unset, .unset, .unset, .unset, .unset, .unset, .unset, .unset] [(.ref a2)]) T8 (mkF m 20 #[.val (.int p0), .val (.int p1), .val (.int p2), .val (.int p3), .val (.int p4), .unset, .unset, .unset, .unset, .unset, .unset, .unset, .unset] [(.int p2), (.int (2 : Int32)), (.ref a2), (.ref a2)]) := goRun K N8 #[] [(17, .dup, 1), (18, .iconst 2, 1), (19, .iload_n 2, 1)] [] (P := True) (by decide +kernel) rfl trivial
  obtain ⟨v10, T10, _, N10, ⟨⟨c2, rfl, hc2⟩, rfl⟩, g10⟩ := goS K N8 (tw hw 1 rfl) (tw hw 2 rfl) (tw hw 3 rfl) (tw hw 4 rfl) (con_ch hw p2) (argsL := [(.int p2)]) (W := 3) (rest := [(.int (2 : Int32)), (.ref a2), (.ref a2)]) (by decide) (by decide) (by decide) (by decide) (by decide) (L := #[.val (.int p0), .val (.int p1), .val (.int p2), .val (.int p3), .val (.int p4), .unset, .unset, .unset, .unset, .unset, .unset, .unset, .unset]) rfl pd4 rfl (Nat.le_of_eq rfl) (pc := 20) (by decide +kernel)
  obtain ⟨T11, h11, N11, K11, A11, g11⟩ := avStC K N10 A8 (j := (2 : Int32)) (i := 2) (x := c2) rfl (by simp) ha2 (pc := 23) (L := #[.val (.int p0), .val (.int p1), .val (.int p2), .val (.int p3), .val (.int p4), .unset, .unset, .unset, .unset, .unset, .unset, .unset, .unset]) (S := [(.ref a2)]) (by decide +kernel)
  rw [nar_ch hc2] at A11
  have g12 : Ld p e below T11 (mkF m 24 #[.val (.int p0), .val (.int p1), .val (.int p2), .val (.int p3), .val (.int p4), .unset, .unset, .unset, .unset, .unset, .unset, .unset, .unset] [(.ref a2)]) T11 (mkF m 27 #[.val (.int p0), .val (.int p1), .val (.int p2), .val (.int p3), .val (.int p4), .unset, .unset, .unset, .unset, .unset, .unset, .unset, .unset] [(.int p3), (.int (3 : Int32)), (.ref a2), (.ref a2)]) := goRun K N11 #[] [(24, .dup, 1), (25, .iconst 3, 1), (26, .iload_n 3, 1)] [] (P := True) (by decide +kernel) rfl trivial
  obtain ⟨v13, T13, _, N13, ⟨⟨c3, rfl, hc3⟩, rfl⟩, g13⟩ := goS K N11 (tw hw 1 rfl) (tw hw 2 rfl) (tw hw 3 rfl) (tw hw 4 rfl) (con_ch hw p3) (argsL := [(.int p3)]) (W := 3) (rest := [(.int (3 : Int32)), (.ref a2), (.ref a2)]) (by decide) (by decide) (by decide) (by decide) (by decide) (L := #[.val (.int p0), .val (.int p1), .val (.int p2), .val (.int p3), .val (.int p4), .unset, .unset, .unset, .unset, .unset, .unset, .unset, .unset]) rfl pd4 rfl (Nat.le_of_eq rfl) (pc := 27) (by decide +kernel)
  obtain ⟨T14, h14, N14, K14, A14, g14⟩ := avStC K N13 A11 (j := (3 : Int32)) (i := 3) (x := c3) rfl (by simp) ha2 (pc := 30) (L := #[.val (.int p0), .val (.int p1), .val (.int p2), .val (.int p3), .val (.int p4), .unset, .unset, .unset, .unset, .unset, .unset, .unset, .unset]) (S := [(.ref a2)]) (by decide +kernel)
  rw [nar_ch hc3] at A14
  have C0 : Av Z h14 a2 .char ([c0, c1, c2, c3].map Value.int) := A14
  have hch : ∀ c ∈ [c0, c1, c2, c3], Ch c := by
    intro c hc
    simp only [List.mem_cons, List.not_mem_nil, or_false] at hc
    rcases hc with rfl | rfl | rfl | rfl
    · exact hc0
    · exact hc1
    · exact hc2
    · exact hc3
  have g15 : Ld p e below T14 (mkF m 31 #[.val (.int p0), .val (.int p1), .val (.int p2), .val (.int p3), .val (.int p4), .unset, .unset, .unset, .unset, .unset, .unset, .unset, .unset] [(.ref a2)]) T14 (mkF m 33 #[.val (.int p0), .val (.int p1), .val (.int p2), .val (.int p3), .val (.int p4), .val (.ref a2), .unset, .unset, .unset, .unset, .unset, .unset, .unset] []) := goRun K N14 #[] [(31, .astore 5, 2)] [] (P := True) (by decide +kernel) rfl trivial
  obtain ⟨T16, h16, a16, ea16, N16, E16, X16, D16, g16⟩ := goNew K N14 (C := "java/lang/String") (tw hw 6 rfl) (tw hw 7 rfl) (tw hw 8 rfl) (pc := 33) (L := #[.val (.int p0), .val (.int p1), .val (.int p2), .val (.int p3), .val (.int p4), .val (.ref a2), .unset, .unset, .unset, .unset, .unset, .unset, .unset]) (S := []) (by decide +kernel) (by decide) (by decide)
  have ha16 : n0 ≤ a16 := ea16 ▸ N14.size
  have V : Fld Z h16 a16 "java/lang/String" "value" "[B" .null := D16 (Or.inr (tw hw 34 rfl)) (ty := .array .byte) (by decide)
  have D : Fld Z h16 a16 "java/lang/String" "coder" "B" (.int 0) := D16 (Or.inr (tw hw 32 rfl)) (ty := .byte) (by decide)
  have g17 : Ld p e below T16 (mkF m 36 #[.val (.int p0), .val (.int p1), .val (.int p2), .val (.int p3), .val (.int p4), .val (.ref a2), .unset, .unset, .unset, .unset, .unset, .unset, .unset] [(.ref a16)]) T16 (mkF m 39 #[.val (.int p0), .val (.int p1), .val (.int p2), .val (.int p3), .val (.int p4), .val (.ref a2), .unset, .unset, .unset, .unset, .unset, .unset, .unset] [(.ref a2), (.ref a16), (.ref a16)]) := goRun K N16 #[] [(36, .dup, 1), (37, .aload 5, 2)] [] (P := True) (by decide +kernel) rfl trivial
  have C1 := C0.ext E16
  obtain ⟨v18, T18, h18, N18, ⟨rfl, KS, t, ht, F⟩, g18⟩ := goSp K N16 (a := a16) (tw hw 9 rfl) (tw hw 10 rfl) (tw hw 8 rfl) (tw hw 11 rfl) (con_si hw sf X16 V D C1 (by simp) (by simp) hch ha16 (N16.old O0)) rfl (by decide) (argsL := [(.ref a2)]) (W := 1) (rest := [(.ref a16)]) (by decide) (by decide) (by decide) (by decide) (L := #[.val (.int p0), .val (.int p1), .val (.int p2), .val (.int p3), .val (.int p4), .val (.ref a2), .unset, .unset, .unset, .unset, .unset, .unset, .unset]) rfl pd11 rfl (Nat.le_of_eq rfl) (pc := 39) (by decide +kernel)
  have C2 := C1.keep KS (ninS (Ne.symm (C1.ne_exa X16 (tw hw 7 rfl))) nin0)
  obtain ⟨pp, hp, ep⟩ : ∃ n : Nat, n < 5 ∧ (p4 &&& (255 : Int32)) % (5 : Int32) = Int32.ofNat n := n_rem (m255_nn p4) (by decide) (by decide)
  obtain ⟨qq, hqq, eq⟩ : ∃ n : Nat, n < 5 ∧ (XT.ushr p4 (8 : Int32) &&& (255 : Int32)) % (5 : Int32) = Int32.ofNat n := n_rem (m255_nn _) (by decide) (by decide)
  have g19 : Ld p e below T18 (mkF m 42 #[.val (.int p0), .val (.int p1), .val (.int p2), .val (.int p3), .val (.int p4), .val (.ref a2), .unset, .unset, .unset, .unset, .unset, .unset, .unset] [(.ref a16)]) T18 (mkF m 71 #[.val (.int p0), .val (.int p1), .val (.int p2), .val (.int p3), .val (.int p4), .val (.ref a2), .val (.ref a16), .val (.int ((p4 &&& (255 : Int32)) % (5 : Int32))), .val (.int (((XT.ushr p4 (8 : Int32)) &&& (255 : Int32)) % (5 : Int32))), .unset, .unset, .unset, .unset] [(.int (((XT.ushr p4 (8 : Int32)) &&& (255 : Int32)) % (5 : Int32))), (.int ((p4 &&& (255 : Int32)) % (5 : Int32)))]) := goRun K N18 #[] [(42, .astore 6, 2), (44, .iload 4, 2), (46, .sipush 255, 3), (49, .iand, 1), (50, .iconst 5, 1), (51, .irem, 1), (52, .istore 7, 2), (54, .iload 4, 2), (56, .bipush 8, 2), (58, .iushr, 1), (59, .sipush 255, 3), (62, .iand, 1), (63, .iconst 5, 1), (64, .irem, 1), (65, .istore 8, 2), (67, .iload 7, 2), (69, .iload 8, 2)] [] (P := ((5 : Int32) ≠ 0) ∧ ((5 : Int32) ≠ 0) ∧ True) (by decide +kernel) rfl ⟨(by decide), (by decide), trivial⟩
  rw [ep, eq] at g19
  obtain ⟨v20, T20, _, N20, ⟨rfl, rfl⟩, g20⟩ := goS K N18 (tw hw 35 rfl) (tw hw 36 rfl) (tw hw 37 rfl) (tw hw 38 rfl) (con_mn pp qq (by omega) (by omega)) (argsL := [(.int (Int32.ofNat pp)), (.int (Int32.ofNat qq))]) (W := 0) (rest := []) (by decide) (by decide) (by decide) (by decide) (by decide) (L := #[.val (.int p0), .val (.int p1), .val (.int p2), .val (.int p3), .val (.int p4), .val (.ref a2), .val (.ref a16), .val (.int (Int32.ofNat pp)), .val (.int (Int32.ofNat qq)), .unset, .unset, .unset, .unset]) rfl pd18 rfl (Nat.le_of_eq rfl) (pc := 71) (by decide +kernel)
  have g21 : Ld p e below T20 (mkF m 74 #[.val (.int p0), .val (.int p1), .val (.int p2), .val (.int p3), .val (.int p4), .val (.ref a2), .val (.ref a16), .val (.int (Int32.ofNat pp)), .val (.int (Int32.ofNat qq)), .unset, .unset, .unset, .unset] [(.int (Int32.ofNat (min pp qq)))]) T20 (mkF m 80 #[.val (.int p0), .val (.int p1), .val (.int p2), .val (.int p3), .val (.int p4), .val (.ref a2), .val (.ref a16), .val (.int (Int32.ofNat pp)), .val (.int (Int32.ofNat qq)), .val (.int (Int32.ofNat (min pp qq))), .unset, .unset, .unset] [(.int (Int32.ofNat qq)), (.int (Int32.ofNat pp))]) := goRun K N20 #[] [(74, .istore 9, 2), (76, .iload 7, 2), (78, .iload 8, 2)] [] (P := True) (by decide +kernel) rfl trivial
  obtain ⟨v22, T22, _, N22, ⟨rfl, rfl⟩, g22⟩ := goS K N20 (tw hw 39 rfl) (tw hw 40 rfl) (tw hw 37 rfl) (tw hw 41 rfl) (con_mx pp qq (by omega) (by omega)) (argsL := [(.int (Int32.ofNat pp)), (.int (Int32.ofNat qq))]) (W := 0) (rest := []) (by decide) (by decide) (by decide) (by decide) (by decide) (L := #[.val (.int p0), .val (.int p1), .val (.int p2), .val (.int p3), .val (.int p4), .val (.ref a2), .val (.ref a16), .val (.int (Int32.ofNat pp)), .val (.int (Int32.ofNat qq)), .val (.int (Int32.ofNat (min pp qq))), .unset, .unset, .unset]) rfl pd18 rfl (Nat.le_of_eq rfl) (pc := 80) (by decide +kernel)
  have hse : min pp qq ≤ max pp qq := by omega
  have he4 : max pp qq ≤ 4 := by omega
  generalize min pp qq = s' at *
  generalize max pp qq = e' at *
  have hb : ∀ c : Int32, -1 ≤ valI c ∧ valI c ≤ 9 := valI_rng
  have g23 : Ld p e below T22 (mkF m 83 #[.val (.int p0), .val (.int p1), .val (.int p2), .val (.int p3), .val (.int p4), .val (.ref a2), .val (.ref a16), .val (.int (Int32.ofNat pp)), .val (.int (Int32.ofNat qq)), .val (.int (Int32.ofNat s')), .unset, .unset, .unset] [(.int (Int32.ofNat e'))]) T22 (mkF m 89 #[.val (.int p0), .val (.int p1), .val (.int p2), .val (.int p3), .val (.int p4), .val (.ref a2), .val (.ref a16), .val (.int (Int32.ofNat pp)), .val (.int (Int32.ofNat qq)), .val (.int (Int32.ofNat s')), .val (.int (Int32.ofNat e')), .unset, .unset] [(.int c0)]) := goRun K N22 #[] [(83, .istore 10, 2), (85, .aload 5, 2), (87, .iconst 0, 1), (88, .caload, 1)] [.int c0] (P := (Rd Z h18 a2 .char (0 : Int32) (.int c0)) ∧ True) (by decide +kernel) rfl ⟨(C2.rd (i := 0) rfl rfl), trivial⟩
  obtain ⟨v24, T24, _, N24, ⟨rfl, rfl⟩, g24⟩ := goS K N22 (tw hw 42 rfl) (tw hw 43 rfl) (tw hw 3 rfl) (tw hw 44 rfl) (con_val c0) (argsL := [(.int c0)]) (W := 0) (rest := []) (by decide) (by decide) (by decide) (by decide) (by decide) (L := #[.val (.int p0), .val (.int p1), .val (.int p2), .val (.int p3), .val (.int p4), .val (.ref a2), .val (.ref a16), .val (.int (Int32.ofNat pp)), .val (.int (Int32.ofNat qq)), .val (.int (Int32.ofNat s')), .val (.int (Int32.ofNat e')), .unset, .unset]) rfl pd15 rfl (Nat.le_of_eq rfl) (pc := 89) (by decide +kernel)
  have g25 : Ld p e below T24 (mkF m 92 #[.val (.int p0), .val (.int p1), .val (.int p2), .val (.int p3), .val (.int p4), .val (.ref a2), .val (.ref a16), .val (.int (Int32.ofNat pp)), .val (.int (Int32.ofNat qq)), .val (.int (Int32.ofNat s')), .val (.int (Int32.ofNat e')), .unset, .unset] [(.int (Int32.ofInt (valI c0)))]) T24 (mkF m 97 #[.val (.int p0), .val (.int p1), .val (.int p2), .val (.int p3), .val (.int p4), .val (.ref a2), .val (.ref a16), .val (.int (Int32.ofNat pp)), .val (.int (Int32.ofNat qq)), .val (.int (Int32.ofNat s')), .val (.int (Int32.ofNat e')), .unset, .unset] [(.int (Int32.ofNat e')), (.int (Int32.ofNat s')), (.int (0 : Int32)), (.int (Int32.ofInt (valI c0)))]) := goRun K N24 #[] [(92, .iconst 0, 1), (93, .iload 9, 2), (95, .iload 10, 2)] [] (P := True) (by decide +kernel) rfl trivial
  obtain ⟨v26, T26, _, N26, ⟨rfl, rfl⟩, g26⟩ := goS K N24 (tw hw 45 rfl) (tw hw 46 rfl) (tw hw 3 rfl) (tw hw 47 rfl) (con_tm hw (valI c0) (hb c0) 0 s' e' (by decide) (by omega) (by omega)) (argsL := [(.int (Int32.ofInt (valI c0))), (.int (0 : Int32)), (.int (Int32.ofNat s')), (.int (Int32.ofNat e'))]) (W := 0) (rest := []) (by decide) (by decide) (by decide) (by decide) (by decide) (L := #[.val (.int p0), .val (.int p1), .val (.int p2), .val (.int p3), .val (.int p4), .val (.ref a2), .val (.ref a16), .val (.int (Int32.ofNat pp)), .val (.int (Int32.ofNat qq)), .val (.int (Int32.ofNat s')), .val (.int (Int32.ofNat e')), .unset, .unset]) rfl pd16 rfl (Nat.le_of_eq rfl) (pc := 97) (by decide +kernel)
  have g27 : Ld p e below T26 (mkF m 100 #[.val (.int p0), .val (.int p1), .val (.int p2), .val (.int p3), .val (.int p4), .val (.ref a2), .val (.ref a16), .val (.int (Int32.ofNat pp)), .val (.int (Int32.ofNat qq)), .val (.int (Int32.ofNat s')), .val (.int (Int32.ofNat e')), .unset, .unset] [(.int (Int32.ofInt (termI (valI c0) 0 s' e')))]) T26 (mkF m 104 #[.val (.int p0), .val (.int p1), .val (.int p2), .val (.int p3), .val (.int p4), .val (.ref a2), .val (.ref a16), .val (.int (Int32.ofNat pp)), .val (.int (Int32.ofNat qq)), .val (.int (Int32.ofNat s')), .val (.int (Int32.ofNat e')), .unset, .unset] [(.int c1), (.int (Int32.ofInt (termI (valI c0) 0 s' e')))]) := goRun K N26 #[] [(100, .aload 5, 2), (102, .iconst 1, 1), (103, .caload, 1)] [.int c1] (P := (Rd Z h18 a2 .char (1 : Int32) (.int c1)) ∧ True) (by decide +kernel) rfl ⟨(C2.rd (i := 1) rfl rfl), trivial⟩
  obtain ⟨v28, T28, _, N28, ⟨rfl, rfl⟩, g28⟩ := goS K N26 (tw hw 42 rfl) (tw hw 43 rfl) (tw hw 3 rfl) (tw hw 44 rfl) (con_val c1) (argsL := [(.int c1)]) (W := 1) (rest := [(.int (Int32.ofInt (termI (valI c0) 0 s' e')))]) (by decide) (by decide) (by decide) (by decide) (by decide) (L := #[.val (.int p0), .val (.int p1), .val (.int p2), .val (.int p3), .val (.int p4), .val (.ref a2), .val (.ref a16), .val (.int (Int32.ofNat pp)), .val (.int (Int32.ofNat qq)), .val (.int (Int32.ofNat s')), .val (.int (Int32.ofNat e')), .unset, .unset]) rfl pd15 rfl (Nat.le_of_eq rfl) (pc := 104) (by decide +kernel)
  have g29 : Ld p e below T28 (mkF m 107 #[.val (.int p0), .val (.int p1), .val (.int p2), .val (.int p3), .val (.int p4), .val (.ref a2), .val (.ref a16), .val (.int (Int32.ofNat pp)), .val (.int (Int32.ofNat qq)), .val (.int (Int32.ofNat s')), .val (.int (Int32.ofNat e')), .unset, .unset] [(.int (Int32.ofInt (valI c1))), (.int (Int32.ofInt (termI (valI c0) 0 s' e')))]) T28 (mkF m 112 #[.val (.int p0), .val (.int p1), .val (.int p2), .val (.int p3), .val (.int p4), .val (.ref a2), .val (.ref a16), .val (.int (Int32.ofNat pp)), .val (.int (Int32.ofNat qq)), .val (.int (Int32.ofNat s')), .val (.int (Int32.ofNat e')), .unset, .unset] [(.int (Int32.ofNat e')), (.int (Int32.ofNat s')), (.int (1 : Int32)), (.int (Int32.ofInt (valI c1))), (.int (Int32.ofInt (termI (valI c0) 0 s' e')))]) := goRun K N28 #[] [(107, .iconst 1, 1), (108, .iload 9, 2), (110, .iload 10, 2)] [] (P := True) (by decide +kernel) rfl trivial
  obtain ⟨v30, T30, _, N30, ⟨rfl, rfl⟩, g30⟩ := goS K N28 (tw hw 45 rfl) (tw hw 46 rfl) (tw hw 3 rfl) (tw hw 47 rfl) (con_tm hw (valI c1) (hb c1) 1 s' e' (by decide) (by omega) (by omega)) (argsL := [(.int (Int32.ofInt (valI c1))), (.int (1 : Int32)), (.int (Int32.ofNat s')), (.int (Int32.ofNat e'))]) (W := 1) (rest := [(.int (Int32.ofInt (termI (valI c0) 0 s' e')))]) (by decide) (by decide) (by decide) (by decide) (by decide) (L := #[.val (.int p0), .val (.int p1), .val (.int p2), .val (.int p3), .val (.int p4), .val (.ref a2), .val (.ref a16), .val (.int (Int32.ofNat pp)), .val (.int (Int32.ofNat qq)), .val (.int (Int32.ofNat s')), .val (.int (Int32.ofNat e')), .unset, .unset]) rfl pd16 rfl (Nat.le_of_eq rfl) (pc := 112) (by decide +kernel)
  have g31 : Ld p e below T30 (mkF m 115 #[.val (.int p0), .val (.int p1), .val (.int p2), .val (.int p3), .val (.int p4), .val (.ref a2), .val (.ref a16), .val (.int (Int32.ofNat pp)), .val (.int (Int32.ofNat qq)), .val (.int (Int32.ofNat s')), .val (.int (Int32.ofNat e')), .unset, .unset] [(.int (Int32.ofInt (termI (valI c1) 1 s' e'))), (.int (Int32.ofInt (termI (valI c0) 0 s' e')))]) T30 (mkF m 120 #[.val (.int p0), .val (.int p1), .val (.int p2), .val (.int p3), .val (.int p4), .val (.ref a2), .val (.ref a16), .val (.int (Int32.ofNat pp)), .val (.int (Int32.ofNat qq)), .val (.int (Int32.ofNat s')), .val (.int (Int32.ofNat e')), .unset, .unset] [(.int c2), (.int ((Int32.ofInt (termI (valI c0) 0 s' e')) + (Int32.ofInt (termI (valI c1) 1 s' e'))))]) := goRun K N30 #[] [(115, .iadd, 1), (116, .aload 5, 2), (118, .iconst 2, 1), (119, .caload, 1)] [.int c2] (P := (Rd Z h18 a2 .char (2 : Int32) (.int c2)) ∧ True) (by decide +kernel) rfl ⟨(C2.rd (i := 2) rfl rfl), trivial⟩
  rw [oi_add] at g31
  obtain ⟨v32, T32, _, N32, ⟨rfl, rfl⟩, g32⟩ := goS K N30 (tw hw 42 rfl) (tw hw 43 rfl) (tw hw 3 rfl) (tw hw 44 rfl) (con_val c2) (argsL := [(.int c2)]) (W := 1) (rest := [(.int (Int32.ofInt (termI (valI c0) 0 s' e' + termI (valI c1) 1 s' e')))]) (by decide) (by decide) (by decide) (by decide) (by decide) (L := #[.val (.int p0), .val (.int p1), .val (.int p2), .val (.int p3), .val (.int p4), .val (.ref a2), .val (.ref a16), .val (.int (Int32.ofNat pp)), .val (.int (Int32.ofNat qq)), .val (.int (Int32.ofNat s')), .val (.int (Int32.ofNat e')), .unset, .unset]) rfl pd15 rfl (Nat.le_of_eq rfl) (pc := 120) (by decide +kernel)
  have g33 : Ld p e below T32 (mkF m 123 #[.val (.int p0), .val (.int p1), .val (.int p2), .val (.int p3), .val (.int p4), .val (.ref a2), .val (.ref a16), .val (.int (Int32.ofNat pp)), .val (.int (Int32.ofNat qq)), .val (.int (Int32.ofNat s')), .val (.int (Int32.ofNat e')), .unset, .unset] [(.int (Int32.ofInt (valI c2))), (.int (Int32.ofInt (termI (valI c0) 0 s' e' + termI (valI c1) 1 s' e')))]) T32 (mkF m 128 #[.val (.int p0), .val (.int p1), .val (.int p2), .val (.int p3), .val (.int p4), .val (.ref a2), .val (.ref a16), .val (.int (Int32.ofNat pp)), .val (.int (Int32.ofNat qq)), .val (.int (Int32.ofNat s')), .val (.int (Int32.ofNat e')), .unset, .unset] [(.int (Int32.ofNat e')), (.int (Int32.ofNat s')), (.int (2 : Int32)), (.int (Int32.ofInt (valI c2))), (.int (Int32.ofInt (termI (valI c0) 0 s' e' + termI (valI c1) 1 s' e')))]) := goRun K N32 #[] [(123, .iconst 2, 1), (124, .iload 9, 2), (126, .iload 10, 2)] [] (P := True) (by decide +kernel) rfl trivial
  obtain ⟨v34, T34, _, N34, ⟨rfl, rfl⟩, g34⟩ := goS K N32 (tw hw 45 rfl) (tw hw 46 rfl) (tw hw 3 rfl) (tw hw 47 rfl) (con_tm hw (valI c2) (hb c2) 2 s' e' (by decide) (by omega) (by omega)) (argsL := [(.int (Int32.ofInt (valI c2))), (.int (2 : Int32)), (.int (Int32.ofNat s')), (.int (Int32.ofNat e'))]) (W := 1) (rest := [(.int (Int32.ofInt (termI (valI c0) 0 s' e' + termI (valI c1) 1 s' e')))]) (by decide) (by decide) (by decide) (by decide) (by decide) (L := #[.val (.int p0), .val (.int p1), .val (.int p2), .val (.int p3), .val (.int p4), .val (.ref a2), .val (.ref a16), .val (.int (Int32.ofNat pp)), .val (.int (Int32.ofNat qq)), .val (.int (Int32.ofNat s')), .val (.int (Int32.ofNat e')), .unset, .unset]) rfl pd16 rfl (Nat.le_of_eq rfl) (pc := 128) (by decide +kernel)
  have g35 : Ld p e below T34 (mkF m 131 #[.val (.int p0), .val (.int p1), .val (.int p2), .val (.int p3), .val (.int p4), .val (.ref a2), .val (.ref a16), .val (.int (Int32.ofNat pp)), .val (.int (Int32.ofNat qq)), .val (.int (Int32.ofNat s')), .val (.int (Int32.ofNat e')), .unset, .unset] [(.int (Int32.ofInt (termI (valI c2) 2 s' e'))), (.int (Int32.ofInt (termI (valI c0) 0 s' e' + termI (valI c1) 1 s' e')))]) T34 (mkF m 136 #[.val (.int p0), .val (.int p1), .val (.int p2), .val (.int p3), .val (.int p4), .val (.ref a2), .val (.ref a16), .val (.int (Int32.ofNat pp)), .val (.int (Int32.ofNat qq)), .val (.int (Int32.ofNat s')), .val (.int (Int32.ofNat e')), .unset, .unset] [(.int c3), (.int ((Int32.ofInt (termI (valI c0) 0 s' e' + termI (valI c1) 1 s' e')) + (Int32.ofInt (termI (valI c2) 2 s' e'))))]) := goRun K N34 #[] [(131, .iadd, 1), (132, .aload 5, 2), (134, .iconst 3, 1), (135, .caload, 1)] [.int c3] (P := (Rd Z h18 a2 .char (3 : Int32) (.int c3)) ∧ True) (by decide +kernel) rfl ⟨(C2.rd (i := 3) rfl rfl), trivial⟩
  rw [oi_add] at g35
  obtain ⟨v36, T36, _, N36, ⟨rfl, rfl⟩, g36⟩ := goS K N34 (tw hw 42 rfl) (tw hw 43 rfl) (tw hw 3 rfl) (tw hw 44 rfl) (con_val c3) (argsL := [(.int c3)]) (W := 1) (rest := [(.int (Int32.ofInt (termI (valI c0) 0 s' e' + termI (valI c1) 1 s' e' + termI (valI c2) 2 s' e')))]) (by decide) (by decide) (by decide) (by decide) (by decide) (L := #[.val (.int p0), .val (.int p1), .val (.int p2), .val (.int p3), .val (.int p4), .val (.ref a2), .val (.ref a16), .val (.int (Int32.ofNat pp)), .val (.int (Int32.ofNat qq)), .val (.int (Int32.ofNat s')), .val (.int (Int32.ofNat e')), .unset, .unset]) rfl pd15 rfl (Nat.le_of_eq rfl) (pc := 136) (by decide +kernel)
  have g37 : Ld p e below T36 (mkF m 139 #[.val (.int p0), .val (.int p1), .val (.int p2), .val (.int p3), .val (.int p4), .val (.ref a2), .val (.ref a16), .val (.int (Int32.ofNat pp)), .val (.int (Int32.ofNat qq)), .val (.int (Int32.ofNat s')), .val (.int (Int32.ofNat e')), .unset, .unset] [(.int (Int32.ofInt (valI c3))), (.int (Int32.ofInt (termI (valI c0) 0 s' e' + termI (valI c1) 1 s' e' + termI (valI c2) 2 s' e')))]) T36 (mkF m 144 #[.val (.int p0), .val (.int p1), .val (.int p2), .val (.int p3), .val (.int p4), .val (.ref a2), .val (.ref a16), .val (.int (Int32.ofNat pp)), .val (.int (Int32.ofNat qq)), .val (.int (Int32.ofNat s')), .val (.int (Int32.ofNat e')), .unset, .unset] [(.int (Int32.ofNat e')), (.int (Int32.ofNat s')), (.int (3 : Int32)), (.int (Int32.ofInt (valI c3))), (.int (Int32.ofInt (termI (valI c0) 0 s' e' + termI (valI c1) 1 s' e' + termI (valI c2) 2 s' e')))]) := goRun K N36 #[] [(139, .iconst 3, 1), (140, .iload 9, 2), (142, .iload 10, 2)] [] (P := True) (by decide +kernel) rfl trivial
  obtain ⟨v38, T38, _, N38, ⟨rfl, rfl⟩, g38⟩ := goS K N36 (tw hw 45 rfl) (tw hw 46 rfl) (tw hw 3 rfl) (tw hw 47 rfl) (con_tm hw (valI c3) (hb c3) 3 s' e' (by decide) (by omega) (by omega)) (argsL := [(.int (Int32.ofInt (valI c3))), (.int (3 : Int32)), (.int (Int32.ofNat s')), (.int (Int32.ofNat e'))]) (W := 1) (rest := [(.int (Int32.ofInt (termI (valI c0) 0 s' e' + termI (valI c1) 1 s' e' + termI (valI c2) 2 s' e')))]) (by decide) (by decide) (by decide) (by decide) (by decide) (L := #[.val (.int p0), .val (.int p1), .val (.int p2), .val (.int p3), .val (.int p4), .val (.ref a2), .val (.ref a16), .val (.int (Int32.ofNat pp)), .val (.int (Int32.ofNat qq)), .val (.int (Int32.ofNat s')), .val (.int (Int32.ofNat e')), .unset, .unset]) rfl pd16 rfl (Nat.le_of_eq rfl) (pc := 144) (by decide +kernel)
  have g39 : Ld p e below T38 (mkF m 147 #[.val (.int p0), .val (.int p1), .val (.int p2), .val (.int p3), .val (.int p4), .val (.ref a2), .val (.ref a16), .val (.int (Int32.ofNat pp)), .val (.int (Int32.ofNat qq)), .val (.int (Int32.ofNat s')), .val (.int (Int32.ofNat e')), .unset, .unset] [(.int (Int32.ofInt (termI (valI c3) 3 s' e'))), (.int (Int32.ofInt (termI (valI c0) 0 s' e' + termI (valI c1) 1 s' e' + termI (valI c2) 2 s' e')))]) T38 (mkF m 150 #[.val (.int p0), .val (.int p1), .val (.int p2), .val (.int p3), .val (.int p4), .val (.ref a2), .val (.ref a16), .val (.int (Int32.ofNat pp)), .val (.int (Int32.ofNat qq)), .val (.int (Int32.ofNat s')), .val (.int (Int32.ofNat e')), .val (.int ((Int32.ofInt (termI (valI c0) 0 s' e' + termI (valI c1) 1 s' e' + termI (valI c2) 2 s' e')) + (Int32.ofInt (termI (valI c3) 3 s' e')))), .unset] []) := goRun K N38 #[] [(147, .iadd, 1), (148, .istore 11, 2)] [] (P := True) (by decide +kernel) rfl trivial
  rw [oi_add] at g39
  have hsm : termI (valI c0) 0 s' e' + termI (valI c1) 1 s' e' + termI (valI c2) 2 s' e' + termI (valI c3) 3 s' e' = sumI c0 c1 c2 c3 s' e' := rfl
  rw [hsm] at g39
  obtain ⟨r1, r2⟩ := sum_rng c0 c1 c2 c3 (s := s') he4
  have hti : (Int32.ofInt (sumI c0 c1 c2 c3 s' e')).toInt = sumI c0 c1 c2 c3 s' e' := oi_ti (by omega) (by omega)
  have hfin := fin_law c0 c1 c2 c3 hse he4
  by_cases q : sumI c0 c1 c2 c3 s' e' < 0
  · have g40 : Ld p e below T38 (mkF m 150 #[.val (.int p0), .val (.int p1), .val (.int p2), .val (.int p3), .val (.int p4), .val (.ref a2), .val (.ref a16), .val (.int (Int32.ofNat pp)), .val (.int (Int32.ofNat qq)), .val (.int (Int32.ofNat s')), .val (.int (Int32.ofNat e')), .val (.int (Int32.ofInt (sumI c0 c1 c2 c3 s' e'))), .unset] []) T38 (mkF m 169 #[.val (.int p0), .val (.int p1), .val (.int p2), .val (.int p3), .val (.int p4), .val (.ref a2), .val (.ref a16), .val (.int (Int32.ofNat pp)), .val (.int (Int32.ofNat qq)), .val (.int (Int32.ofNat s')), .val (.int (Int32.ofNat e')), .val (.int (Int32.ofInt (sumI c0 c1 c2 c3 s' e'))), .val (.int (-1 : Int32))] [(.int (Int32.ofNat e')), (.int (Int32.ofNat s')), (.ref a16)]) := goRun K N38 #[] [(150, .iload 11, 2), (152, .ifCond .ge 7, 3), (155, .iconst (-1), 1), (156, .goto 5, 3), (161, .istore 12, 2), (163, .aload 6, 2), (165, .iload 9, 2), (167, .iload 10, 2)] [.null] (P := ((Int32.ofInt (sumI c0 c1 c2 c3 s' e')) < (0 : Int32)) ∧ True) (by decide +kernel) rfl ⟨(i_lt (by rw [hti]; exact q)), trivial⟩
    obtain ⟨v41, T41, _, N41, ⟨rfl, rfl⟩, g41⟩ := goS K N38 (tw hw 48 rfl) (tw hw 49 rfl) (tw hw 50 rfl) (tw hw 51 rfl) (con_dg hw sf F (by simp; omega) hse (N38.old O0)) (argsL := [(.ref a16), (.int (Int32.ofNat s')), (.int (Int32.ofNat e'))]) (W := 0) (rest := []) (by decide) (by decide) (by decide) (by decide) (by decide) (L := #[.val (.int p0), .val (.int p1), .val (.int p2), .val (.int p3), .val (.int p4), .val (.ref a2), .val (.ref a16), .val (.int (Int32.ofNat pp)), .val (.int (Int32.ofNat qq)), .val (.int (Int32.ofNat s')), .val (.int (Int32.ofNat e')), .val (.int (Int32.ofInt (sumI c0 c1 c2 c3 s' e'))), .val (.int (-1 : Int32))]) rfl pd17 rfl (Nat.le_of_eq rfl) (pc := 169) (by decide +kernel)
    rw [hfin, if_pos q] at g41
    have g42 : Ld p e below T41 (mkF m 172 #[.val (.int p0), .val (.int p1), .val (.int p2), .val (.int p3), .val (.int p4), .val (.ref a2), .val (.ref a16), .val (.int (Int32.ofNat pp)), .val (.int (Int32.ofNat qq)), .val (.int (Int32.ofNat s')), .val (.int (Int32.ofNat e')), .val (.int (Int32.ofInt (sumI c0 c1 c2 c3 s' e'))), .val (.int (-1 : Int32))] [(.int (Int32.ofInt (-1)))]) T41 (mkF m 182 #[.val (.int p0), .val (.int p1), .val (.int p2), .val (.int p3), .val (.int p4), .val (.ref a2), .val (.ref a16), .val (.int (Int32.ofNat pp)), .val (.int (Int32.ofNat qq)), .val (.int (Int32.ofNat s')), .val (.int (Int32.ofNat e')), .val (.int (Int32.ofInt (sumI c0 c1 c2 c3 s' e'))), .val (.int (-1 : Int32))] [(.int (1 : Int32))]) := goRun K N41 #[] [(172, .iload 12, 2), (174, .if_icmp .ne 7, 3), (177, .iconst 1, 1), (178, .goto 4, 3)] [.null] (P := ((Int32.ofInt (-1)) = (-1 : Int32)) ∧ True) (by decide +kernel) rfl ⟨rfl, trivial⟩
    exact ⟨_, T41, _, h18, _, _, N41, by decide, by decide, fun q => (nomatch q), sb1, g1.trans (g2.trans (g3.trans (g4.trans (g5.trans (g6.trans (g7.trans (g8.trans (g9.trans (g10.trans (g11.trans (g12.trans (g13.trans (g14.trans (g15.trans (g16.trans (g17.trans (g18.trans (g19.trans (g20.trans (g21.trans (g22.trans (g23.trans (g24.trans (g25.trans (g26.trans (g27.trans (g28.trans (g29.trans (g30.trans (g31.trans (g32.trans (g33.trans (g34.trans (g35.trans (g36.trans (g37.trans (g38.trans (g39.trans (g40.trans (g41.trans g42)))))))))))))))))))))))))))))))))))))))), finN K N41 hret (Or.inl rfl) (by decide +kernel)⟩
  · have g40 : Ld p e below T38 (mkF m 150 #[.val (.int p0), .val (.int p1), .val (.int p2), .val (.int p3), .val (.int p4), .val (.ref a2), .val (.ref a16), .val (.int (Int32.ofNat pp)), .val (.int (Int32.ofNat qq)), .val (.int (Int32.ofNat s')), .val (.int (Int32.ofNat e')), .val (.int (Int32.ofInt (sumI c0 c1 c2 c3 s' e'))), .unset] []) T38 (mkF m 169 #[.val (.int p0), .val (.int p1), .val (.int p2), .val (.int p3), .val (.int p4), .val (.ref a2), .val (.ref a16), .val (.int (Int32.ofNat pp)), .val (.int (Int32.ofNat qq)), .val (.int (Int32.ofNat s')), .val (.int (Int32.ofNat e')), .val (.int (Int32.ofInt (sumI c0 c1 c2 c3 s' e'))), .val (.int (Int32.ofInt (sumI c0 c1 c2 c3 s' e')))] [(.int (Int32.ofNat e')), (.int (Int32.ofNat s')), (.ref a16)]) := goRun K N38 #[] [(150, .iload 11, 2), (152, .ifCond .ge 7, 3), (159, .iload 11, 2), (161, .istore 12, 2), (163, .aload 6, 2), (165, .iload 9, 2), (167, .iload 10, 2)] [.ref 0] (P := (¬ (Int32.ofInt (sumI c0 c1 c2 c3 s' e')) < (0 : Int32)) ∧ True) (by decide +kernel) rfl ⟨(fun z => q (by rw [Int32.lt_iff_toInt_lt, hti] at z; exact z)), trivial⟩
    obtain ⟨v41, T41, _, N41, ⟨rfl, rfl⟩, g41⟩ := goS K N38 (tw hw 48 rfl) (tw hw 49 rfl) (tw hw 50 rfl) (tw hw 51 rfl) (con_dg hw sf F (by simp; omega) hse (N38.old O0)) (argsL := [(.ref a16), (.int (Int32.ofNat s')), (.int (Int32.ofNat e'))]) (W := 0) (rest := []) (by decide) (by decide) (by decide) (by decide) (by decide) (L := #[.val (.int p0), .val (.int p1), .val (.int p2), .val (.int p3), .val (.int p4), .val (.ref a2), .val (.ref a16), .val (.int (Int32.ofNat pp)), .val (.int (Int32.ofNat qq)), .val (.int (Int32.ofNat s')), .val (.int (Int32.ofNat e')), .val (.int (Int32.ofInt (sumI c0 c1 c2 c3 s' e'))), .val (.int (Int32.ofInt (sumI c0 c1 c2 c3 s' e')))]) rfl pd17 rfl (Nat.le_of_eq rfl) (pc := 169) (by decide +kernel)
    rw [hfin, if_neg q] at g41
    have g42 : Ld p e below T41 (mkF m 172 #[.val (.int p0), .val (.int p1), .val (.int p2), .val (.int p3), .val (.int p4), .val (.ref a2), .val (.ref a16), .val (.int (Int32.ofNat pp)), .val (.int (Int32.ofNat qq)), .val (.int (Int32.ofNat s')), .val (.int (Int32.ofNat e')), .val (.int (Int32.ofInt (sumI c0 c1 c2 c3 s' e'))), .val (.int (Int32.ofInt (sumI c0 c1 c2 c3 s' e')))] [(.int (Int32.ofInt (sumI c0 c1 c2 c3 s' e')))]) T41 (mkF m 182 #[.val (.int p0), .val (.int p1), .val (.int p2), .val (.int p3), .val (.int p4), .val (.ref a2), .val (.ref a16), .val (.int (Int32.ofNat pp)), .val (.int (Int32.ofNat qq)), .val (.int (Int32.ofNat s')), .val (.int (Int32.ofNat e')), .val (.int (Int32.ofInt (sumI c0 c1 c2 c3 s' e'))), .val (.int (Int32.ofInt (sumI c0 c1 c2 c3 s' e')))] [(.int (1 : Int32))]) := goRun K N41 #[] [(172, .iload 12, 2), (174, .if_icmp .ne 7, 3), (177, .iconst 1, 1), (178, .goto 4, 3)] [.null] (P := ((Int32.ofInt (sumI c0 c1 c2 c3 s' e')) = (Int32.ofInt (sumI c0 c1 c2 c3 s' e'))) ∧ True) (by decide +kernel) rfl ⟨rfl, trivial⟩
    exact ⟨_, T41, _, h18, _, _, N41, by decide, by decide, fun q => (nomatch q), sb1, g1.trans (g2.trans (g3.trans (g4.trans (g5.trans (g6.trans (g7.trans (g8.trans (g9.trans (g10.trans (g11.trans (g12.trans (g13.trans (g14.trans (g15.trans (g16.trans (g17.trans (g18.trans (g19.trans (g20.trans (g21.trans (g22.trans (g23.trans (g24.trans (g25.trans (g26.trans (g27.trans (g28.trans (g29.trans (g30.trans (g31.trans (g32.trans (g33.trans (g34.trans (g35.trans (g36.trans (g37.trans (g38.trans (g39.trans (g40.trans (g41.trans g42)))))))))))))))))))))))))))))))))))))))), finN K N41 hret (Or.inl rfl) (by decide +kernel)⟩
theorem own_int {args : Array Value} {first s : State} {o : Option Outcome} {idx : List Nat} {t : Term} {k : Int32} (h : (Jvm.Cond.eq t (.int k)).value args first o s idx = some true) : t.eval args first o idx s = some (.int k) := by
  simp only [Cond.value, Term.eval] at h
  cases ht : t.eval args first o idx s with
  | none => simp [ht] at h
  | some x => cases x <;> simp [ht] at h ⊢; exact h
set_option maxRecDepth 65536 in
set_option maxHeartbeats 4000000 in
theorem comes_1 {Post : Tables → Env → Array Value → State → Outcome → State → Prop} (hpost : ∀ tb e args s v u, (limb_1_1.after args s (.returned v) u = true ∧ limb_1_2.after args s (.returned v) u = true ∧ True) → FrameEnd s (.returned v) u (Jvm.fieldLocs frame_1_writes args s ++ Jvm.arrayLocs frame_1_arrays args s ++ Jvm.staticLocs frame_1_statics s) 16 128 → Post tb e args s (.returned v) u) :
    ArmFor flags0 classFile x code maxLocals ret World_1 tables_1 room_1 Calls_1 rest_1 Pre_1 Post := by
  intro l hfl _ _ p e ha hc hk s m args below hf hA hF happ hP
  obtain ⟨hcalls, hrest, hpre⟩ := hP
  obtain ⟨-, -, -, hnamed, -, -, -, hat⟩ := (Spec.applies_iff hf).mp happ
  obtain ⟨hg, hn⟩ := and_e (Cond.before_iff.mp (show (Jvm.Cond.and given_1 narrow_1).before args s = true from hpre))
  obtain ⟨hcnt, u0⟩ := and_e hg
  obtain ⟨k0, u1⟩ := and_e u0
  obtain ⟨k1, u2⟩ := and_e u1
  obtain ⟨k2, u3⟩ := and_e u2
  obtain ⟨k3, u4⟩ := and_e u3
  have k4 := u4
  obtain ⟨w0, w1, w2, w3, w4, rfl⟩ : ∃ w0 w1 w2 w3 w4 : Value, args = #[w0, w1, w2, w3, w4] := by
    have hs : args.size = 5 := by simpa [Cond.value, given_1] using hcnt
    obtain ⟨L⟩ := args
    match L, hs with
    | [w0, w1, w2, w3, w4], _ => exact ⟨w0, w1, w2, w3, w4, rfl⟩
  have hw := fun d (hd : d ∈ tables_1) => atoms_spec (ws := Jvm.Cond.code x code maxLocals ret :: tables_1) hat d (List.mem_cons_of_mem _ hd)
  obtain ⟨i0, ei0⟩ := is_v k0
  obtain rfl : w0 = (.int i0) := Option.some.inj ei0
  obtain ⟨i1, ei1⟩ := is_v k1
  obtain rfl : w1 = (.int i1) := Option.some.inj ei1
  obtain ⟨i2, ei2⟩ := is_v k2
  obtain rfl : w2 = (.int i2) := Option.some.inj ei2
  obtain ⟨i3, ei3⟩ := is_v k3
  obtain rfl : w3 = (.int i3) := Option.some.inj ei3
  obtain ⟨i4, ei4⟩ := is_v k4
  obtain rfl : w4 = (.int i4) := Option.some.inj ei4
  obtain ⟨hsets, hown0⟩ := atoms_of _ (rest_1_c_eq ▸ (show rest_1_c.before _ s = true from hrest))
  have nz := not_v (Cond.before_iff.mp (hsets _ (List.mem_of_getElem? (i := 2) rfl)))
  obtain ⟨z, ez⟩ := is_v (Cond.before_iff.mp (hsets _ (List.mem_of_getElem? (i := 1) rfl)))
  have S1 : Sta s s.heap "java/lang/String" "COMPACT_STRINGS" "Z" (.int z) := Sta.start ez (Or.inl (hsets _ (List.mem_of_getElem? (i := 0) rfl)))
  have S2 : ¬ (z = (0 : Int32)) := gotF (Cond.eq_ints ez (Term.int_eval (0))) nz
  obtain ⟨fm, efm, rfm⟩ := isR_v (Cond.before_iff.mp (hsets _ (List.mem_of_getElem? (i := 8) rfl)))
  have S3 : Sta s s.heap "jdk/internal/util/Preconditions" "SIOOBE_FORMATTER" "Ljava/util/function/BiFunction;" fm := Sta.start efm (Or.inl (hsets _ (List.mem_of_getElem? (i := 7) rfl)))
  have eS5 := own_int (Cond.before_iff.mp (hsets _ (List.mem_of_getElem? (i := 12) rfl)))
  have S5 : Sta s s.heap "java/lang/StringUTF16" "$assertionsDisabled" "Z" (.int 1) := Sta.start eS5 (Or.inl (hsets _ (List.mem_of_getElem? (i := 11) rfl)))
  have eS6 := own_int (Cond.before_iff.mp (hsets _ (List.mem_of_getElem? (i := 15) rfl)))
  have S6 : Sta s s.heap "java/lang/StringUTF16" "HI_BYTE_SHIFT" "I" (.int 0) := Sta.start eS6 (Or.inl (hsets _ (List.mem_of_getElem? (i := 14) rfl)))
  have eS7 := own_int (Cond.before_iff.mp (hsets _ (List.mem_of_getElem? (i := 18) rfl)))
  have S7 : Sta s s.heap "java/lang/StringUTF16" "LO_BYTE_SHIFT" "I" (.int 8) := Sta.start eS7 (Or.inl (hsets _ (List.mem_of_getElem? (i := 17) rfl)))
  have sf : SF s z fm := ⟨S1, S2, S3, rfm, S5, S6, S7⟩
  obtain ⟨n, o, h1, h2, h3, _, L, rfl, ⟨_, N, rfl⟩, hq⟩ := (con_law (l := l) (Z := s) (n0 := s.heap.size) (h := s.heap) hw sf i0 i1 i2 i3 i4 (Old.start s) tables_1) (Nat.le_refl _) p e ha hc hk s m _ below hf ((Spec.applies_iff_loose hf).mp happ).1 ⟨rfl, State.Warmed39.refl s, rfl⟩ trivial
  refine ⟨n, _, h1, h2, h3, hpost _ _ _ _ _ _ ⟨Cond.after_iff.mpr rfl, Cond.after_iff.mpr (eq_i res_at (Term.int_eval (1)) rfl), trivial⟩ ⟨hq.1, hq.2.1, (hq.2.2.sift fun y hy => Or.inr (N y hy)).mono (by decide) (by decide)⟩⟩
theorem main_1_1 : Claimed_1_1 := comes_1 fun _ _ _ _ _ _ h hF => ⟨h.1, hF⟩
theorem main_1_2 : Claimed_1_2 := comes_1 fun _ _ _ _ _ _ h hF => ⟨h.2.1, hF⟩
end Jvm.Pilot.@@N@@
namespace Jvm.Pilot.@@N@@
open Jvm Jvm.ClassFile Sem Op Lib Jvm.Free Jvm.Stand Jvm.Pilot.@@N@@.Jvm.D
/-! MADE BY PROGRAM (witnessworld.py) out of the Statement's table words and the real class files: 21 classes; the members and pool entries that the words name. The judged class is class 1, her method 5. -/
namespace start1
open Jvm.ClassFile
def u (s : String) : CpInfo := .utf8 (stringToUtf16 s)
/-- a pool by its gaps: so many unusable entries, then the entry; so many at the end -/
def gap : Nat → List CpInfo → List CpInfo
  | 0, r => r
  | n + 1, r => .unusable :: gap n r
def poolList (es : List (Nat × CpInfo)) (last : Nat) : List CpInfo := es.foldr (fun e r => gap e.1 (e.2 :: r)) (gap last [])
def pool (es : List (Nat × CpInfo)) (last : Nat) : Array CpInfo := ⟨poolList es last⟩
def fileOf (pool : Array CpInfo) (this : Nat) (attrs : Array Attribute := #[]) (ms : Array MethodInfo := #[]) (fl : Nat := 33) (sup : Nat := 0) (ifs : Array Nat := #[]) (fds : Array FieldInfo := #[]) : ClassFile where
  minorVersion := 0
  majorVersion := 65
  constantPool := pool
  accessFlags := fl
  thisClass := this
  superClass := sup
  interfaces := ifs
  fields := fds
  methods := ms
  attributes := attrs
def plain (name : String) (sup : Option ClassId) : Class where
  name := name
  kind := .ordinary
  loader := none
  accessFlags := 33
  super := sup
  interfaces := #[]
  cf := none
  fields := #[]
  methods := #[]
  instanceTypes := #[]
  staticTypes := #[]
  resolved := #[]
  callSites := []
  init := .initialized
  statics := none
  mirror := none

def pool0 : Array CpInfo := pool [(5, u "<init>"), (0, u "()V"), (1, .class_ 10), (1, u "java/lang/Object")] 113

def k0c0 : Code := { maxStack := 0, maxLocals := 1, code := object_method_1_code, exceptionTable := #[], attributes := #[] }
def k0m0 : Method := { name := "<init>", desc := "()V", sig := { parameters := [], returnType := none }, accessFlags := 1, code := some k0c0 }
/-- java/lang/Object -/
def k0 : Class := { plain "java/lang/Object" none with
  accessFlags := 33
  interfaces := #[]
  cf := some (fileOf pool0 8 #[] #[{ accessFlags := 1, nameIndex := 5, descriptorIndex := 6, attributes := #[] }] 33 0 #[] #[])
  fields := #[]
  methods := #[k0m0]
  instanceTypes := #[]
  staticTypes := #[]
  resolved := Array.replicate 124 none
  statics := none }

def pool1 : Array CpInfo := pool [(2, .class_ 4), (1, u "java/lang/Object"), (0, u "<init>"), (0, u "()V"), (0, .integer 65535), (0, .integer 4294867296), (0, .methodref 10 11), (0, .class_ 12), (0, .nameAndType 13 14), (0, u "com/example/covenantry/covenantry/IsoDateDigitsPinLaw"), (0, u "pow10"), (0, u "(I)I"), (0, .methodref 10 16), (0, .nameAndType 17 18), (0, u "ch"), (0, u "(I)C"), (0, .class_ 20), (0, u "java/lang/String"), (0, .methodref 19 22), (0, .nameAndType 5 23), (0, u "([C)V"), (0, .methodref 25 26), (0, .class_ 27), (0, .nameAndType 28 29), (0, u "java/lang/Math"), (0, u "min"), (0, u "(II)I"), (0, .methodref 25 31), (0, .nameAndType 32 29), (0, u "max"), (0, .methodref 10 34), (0, .nameAndType 35 36), (0, u "val"), (0, u "(C)I"), (0, .methodref 10 38), (0, .nameAndType 39 40), (0, u "term"), (0, u "(IIII)I"), (0, .methodref 42 43), (0, .class_ 44), (0, .nameAndType 45 46), (0, u "com/example/covenantry/covenantry/IsoDate"), (0, u "digits"), (0, u "(Ljava/lang/String;II)I"), (3, u "law"), (0, u "(IIIII)Z")] 4

def k1m0 : Method := { name := "<init>", desc := "()V", sig := { parameters := [], returnType := none }, accessFlags := 2, code := none }
def k1c1 : Code := { maxStack := 3, maxLocals := 2, code := method_2_code, exceptionTable := #[], attributes := #[] }
def k1m1 : Method := { name := "ch", desc := "(I)C", sig := { parameters := [.int], returnType := some .char }, accessFlags := 10, code := some k1c1 }
def k1c2 : Code := { maxStack := 2, maxLocals := 1, code := method_3_code, exceptionTable := #[], attributes := #[] }
def k1m2 : Method := { name := "val", desc := "(C)I", sig := { parameters := [.char], returnType := some .int }, accessFlags := 10, code := some k1c2 }
def k1c3 : Code := { maxStack := 2, maxLocals := 1, code := method_4_code, exceptionTable := #[], attributes := #[] }
def k1m3 : Method := { name := "pow10", desc := "(I)I", sig := { parameters := [.int], returnType := some .int }, accessFlags := 10, code := some k1c3 }
def k1c4 : Code := { maxStack := 3, maxLocals := 4, code := method_5_code, exceptionTable := #[], attributes := #[] }
def k1m4 : Method := { name := "term", desc := "(IIII)I", sig := { parameters := [.int, .int, .int, .int], returnType := some .int }, accessFlags := 10, code := some k1c4 }
def k1c5 : Code := { maxStack := 5, maxLocals := 13, code := code, exceptionTable := #[], attributes := #[] }
def k1m5 : Method := { name := "law", desc := "(IIIII)Z", sig := { parameters := [.int, .int, .int, .int, .int], returnType := some .boolean }, accessFlags := 9, code := some k1c5 }
/-- com/example/covenantry/covenantry/IsoDateDigitsPinLaw -/
def k1 : Class := { plain "com/example/covenantry/covenantry/IsoDateDigitsPinLaw" (some 0) with
  accessFlags := 49
  interfaces := #[]
  cf := some (fileOf pool1 10 #[] #[{ accessFlags := 2, nameIndex := 5, descriptorIndex := 6, attributes := #[] }, { accessFlags := 10, nameIndex := 17, descriptorIndex := 18, attributes := #[] }, { accessFlags := 10, nameIndex := 35, descriptorIndex := 36, attributes := #[] }, { accessFlags := 10, nameIndex := 13, descriptorIndex := 14, attributes := #[] }, { accessFlags := 10, nameIndex := 39, descriptorIndex := 40, attributes := #[] }, { accessFlags := 9, nameIndex := 50, descriptorIndex := 51, attributes := #[] }] 49 2 #[] #[])
  fields := #[]
  methods := #[k1m0, k1m1, k1m2, k1m3, k1m4, k1m5]
  instanceTypes := #[]
  staticTypes := #[]
  resolved := Array.replicate 56 none
  statics := none }

def pool2 : Array CpInfo := pool [(1, .class_ 2), (0, u "java/io/Serializable"), (0, .class_ 4), (0, u "java/lang/Object")] 2

/-- java/io/Serializable -/
def k2 : Class := { plain "java/io/Serializable" (some 0) with
  accessFlags := 1537
  interfaces := #[]
  cf := some (fileOf pool2 1 #[] #[] 1537 3 #[] #[])
  fields := #[]
  methods := #[]
  instanceTypes := #[]
  staticTypes := #[]
  resolved := Array.replicate 7 none
  statics := none }

def pool3 : Array CpInfo := pool [(1, .class_ 2), (0, u "java/lang/Comparable"), (0, .class_ 4), (0, u "java/lang/Object")] 7

/-- java/lang/Comparable -/
def k3 : Class := { plain "java/lang/Comparable" (some 0) with
  accessFlags := 1537
  interfaces := #[]
  cf := some (fileOf pool3 1 #[] #[] 1537 3 #[] #[])
  fields := #[]
  methods := #[]
  instanceTypes := #[]
  staticTypes := #[]
  resolved := Array.replicate 12 none
  statics := none }

def pool4 : Array CpInfo := pool [(2, .class_ 4), (1, u "java/lang/CharSequence"), (42, .class_ 48), (0, u "java/lang/CharSequence$1CodePointIterator"), (10, .class_ 60), (0, u "java/lang/CharSequence$1CharIterator"), (5, .class_ 67), (0, u "java/lang/Object")] 63

/-- java/lang/CharSequence -/
def k4 : Class := { plain "java/lang/CharSequence" (some 0) with
  accessFlags := 1537
  interfaces := #[]
  cf := some (fileOf pool4 2 #[.nestMembers #[47, 59]] #[] 1537 66 #[] #[])
  fields := #[]
  methods := #[]
  instanceTypes := #[]
  staticTypes := #[]
  resolved := Array.replicate 131 none
  statics := none }

def pool5 : Array CpInfo := pool [(1, .class_ 2), (0, u "java/lang/constant/Constable"), (0, .class_ 4), (0, u "java/lang/Object")] 6

/-- java/lang/constant/Constable -/
def k5 : Class := { plain "java/lang/constant/Constable" (some 0) with
  accessFlags := 1537
  interfaces := #[]
  cf := some (fileOf pool5 1 #[] #[] 1537 3 #[] #[])
  fields := #[]
  methods := #[]
  instanceTypes := #[]
  staticTypes := #[]
  resolved := Array.replicate 11 none
  statics := none }

def pool6 : Array CpInfo := pool [(1, .class_ 2), (0, u "java/lang/constant/ConstantDesc"), (0, .class_ 4), (0, u "java/lang/Object")] 32

/-- java/lang/constant/ConstantDesc -/
def k6 : Class := { plain "java/lang/constant/ConstantDesc" (some 0) with
  accessFlags := 1537
  interfaces := #[]
  cf := some (fileOf pool6 1 #[] #[] 1537 3 #[] #[])
  fields := #[]
  methods := #[]
  instanceTypes := #[]
  staticTypes := #[]
  resolved := Array.replicate 37 none
  statics := none }

def pool7 : Array CpInfo := pool [(1, .methodref 2 3), (0, .class_ 4), (0, .nameAndType 5 6), (0, u "java/lang/Object"), (0, u "<init>"), (0, u "()V"), (2, .fieldref 10 11), (0, .class_ 12), (0, .nameAndType 13 14), (0, u "java/lang/String"), (0, u "value"), (0, u "[B"), (0, .fieldref 10 16), (0, .nameAndType 17 18), (0, u "coder"), (0, u "B"), (2, u "hash"), (0, u "I"), (2, u "hashIsZero"), (0, u "Z"), (0, .methodref 10 28), (0, .nameAndType 5 29), (0, u "([CIILjava/lang/Void;)V"), (8, .fieldref 10 39), (0, .nameAndType 40 26), (0, u "COMPACT_STRINGS"), (1, .class_ 44), (1, u "java/lang/StringUTF16"), (0, u "compress"), (1, .methodref 42 48), (0, .nameAndType 49 50), (0, u "coderFromArrayLen"), (0, u "([BI)B"), (56, .class_ 109), (1, u "java/lang/StringLatin1"), (32, u "()Z"), (34, .methodref 42 178), (0, .nameAndType 45 179), (0, u "([CII)[B"), (183, u "([BI)C"), (27, u "(II)V"), (35, u "(I)C"), (64, .methodref 10 493), (0, .nameAndType 494 142), (0, u "isLatin1"), (0, .methodref 107 496), (0, .nameAndType 497 363), (0, u "charAt"), (0, .methodref 42 496), (2, u "checkIndex"), (73, .class_ 576), (0, u "java/lang/CharSequence"), (22, u "CASE_INSENSITIVE_ORDER"), (0, u "Ljava/util/Comparator;"), (409, u "([C)V"), (42, .fieldref 1054 1055), (0, .class_ 1056), (0, .nameAndType 1057 1058), (0, u "jdk/internal/util/Preconditions"), (0, u "SIOOBE_FORMATTER"), (0, u "Ljava/util/function/BiFunction;"), (0, .methodref 1054 1060), (0, .nameAndType 501 1061), (0, u "(IILjava/util/function/BiFunction;)I"), (39, u "serialPersistentFields"), (0, u "[Ljava/io/ObjectStreamField;"), (0, .class_ 1104), (0, u "java/lang/String$CaseInsensitiveComparator"), (1, .class_ 1107), (0, u "java/io/Serializable"), (0, .class_ 1109), (0, u "java/lang/Comparable"), (0, .class_ 1111), (0, u "java/lang/constant/Constable"), (0, .class_ 1113), (0, u "java/lang/constant/ConstantDesc"), (2, u "serialVersionUID"), (0, u "J"), (3, u "REPL"), (0, u "C"), (2, u "LATIN1"), (1, u "UTF16")] 323

def k7m0 : Method := { name := "<init>", desc := "()V", sig := { parameters := [], returnType := none }, accessFlags := 1, code := none }
def k7c1 : Code := { maxStack := 5, maxLocals := 2, code := jdk_42_method_3_code, exceptionTable := #[], attributes := #[] }
def k7m1 : Method := { name := "<init>", desc := "([C)V", sig := { parameters := [(.array .char)], returnType := none }, accessFlags := 1, code := some k7c1 }
def k7c2 : Code := { maxStack := 2, maxLocals := 2, code := jdk_42_method_56_code, exceptionTable := #[], attributes := #[] }
def k7m2 : Method := { name := "charAt", desc := "(I)C", sig := { parameters := [.int], returnType := some .char }, accessFlags := 1, code := some k7c2 }
def k7c3 : Code := { maxStack := 4, maxLocals := 6, code := jdk_42_method_149_code, exceptionTable := #[], attributes := #[] }
def k7m3 : Method := { name := "<init>", desc := "([CIILjava/lang/Void;)V", sig := { parameters := [(.array .char), .int, .int, (.object "java/lang/Void")], returnType := none }, accessFlags := 2, code := some k7c3 }
def k7c4 : Code := { maxStack := 1, maxLocals := 1, code := jdk_42_method_154_code, exceptionTable := #[], attributes := #[] }
def k7m4 : Method := { name := "isLatin1", desc := "()Z", sig := { parameters := [], returnType := some .boolean }, accessFlags := 0, code := some k7c4 }
def k7c5 : Code := { maxStack := 3, maxLocals := 2, code := jdk_42_method_155_code, exceptionTable := #[], attributes := #[] }
def k7m5 : Method := { name := "checkIndex", desc := "(II)V", sig := { parameters := [.int, .int], returnType := none }, accessFlags := 8, code := some k7c5 }
/-- java/lang/String -/
def k7 : Class := { plain "java/lang/String" (some 0) with
  accessFlags := 49
  interfaces := #[2, 3, 4, 5, 6]
  cf := some (fileOf pool7 10 #[.nestMembers #[1103]] #[{ accessFlags := 1, nameIndex := 5, descriptorIndex := 6, attributes := #[] }, { accessFlags := 1, nameIndex := 5, descriptorIndex := 1010, attributes := #[] }, { accessFlags := 1, nameIndex := 497, descriptorIndex := 427, attributes := #[] }, { accessFlags := 2, nameIndex := 5, descriptorIndex := 29, attributes := #[] }, { accessFlags := 0, nameIndex := 494, descriptorIndex := 142, attributes := #[] }, { accessFlags := 8, nameIndex := 501, descriptorIndex := 391, attributes := #[] }] 49 2 #[1106, 1108, 575, 1110, 1112] #[{ accessFlags := 18, nameIndex := 13, descriptorIndex := 14, attributes := #[] }, { accessFlags := 18, nameIndex := 17, descriptorIndex := 18, attributes := #[] }, { accessFlags := 2, nameIndex := 21, descriptorIndex := 22, attributes := #[] }, { accessFlags := 2, nameIndex := 25, descriptorIndex := 26, attributes := #[] }, { accessFlags := 26, nameIndex := 1116, descriptorIndex := 1117, attributes := #[] }, { accessFlags := 24, nameIndex := 40, descriptorIndex := 26, attributes := #[] }, { accessFlags := 26, nameIndex := 1101, descriptorIndex := 1102, attributes := #[] }, { accessFlags := 26, nameIndex := 1121, descriptorIndex := 1122, attributes := #[] }, { accessFlags := 25, nameIndex := 599, descriptorIndex := 600, attributes := #[] }, { accessFlags := 24, nameIndex := 1125, descriptorIndex := 18, attributes := #[] }, { accessFlags := 24, nameIndex := 1127, descriptorIndex := 18, attributes := #[] }])
  fields := #[{ name := "value", type := (.array .byte), accessFlags := 18, slot := 0, constantValue := 0 }, { name := "coder", type := .byte, accessFlags := 18, slot := 1, constantValue := 0 }, { name := "hash", type := .int, accessFlags := 2, slot := 2, constantValue := 0 }, { name := "hashIsZero", type := .boolean, accessFlags := 2, slot := 3, constantValue := 0 }, { name := "serialVersionUID", type := .long, accessFlags := 26, slot := 0, constantValue := 0 }, { name := "COMPACT_STRINGS", type := .boolean, accessFlags := 24, slot := 1, constantValue := 0 }, { name := "serialPersistentFields", type := (.array (.object "java/io/ObjectStreamField")), accessFlags := 26, slot := 2, constantValue := 0 }, { name := "REPL", type := .char, accessFlags := 26, slot := 3, constantValue := 0 }, { name := "CASE_INSENSITIVE_ORDER", type := (.object "java/util/Comparator"), accessFlags := 25, slot := 4, constantValue := 0 }, { name := "LATIN1", type := .byte, accessFlags := 24, slot := 5, constantValue := 0 }, { name := "UTF16", type := .byte, accessFlags := 24, slot := 6, constantValue := 0 }]
  methods := #[k7m0, k7m1, k7m2, k7m3, k7m4, k7m5]
  instanceTypes := #[(.array .byte), .byte, .int, .boolean]
  staticTypes := #[.long, .boolean, (.array (.object "java/io/ObjectStreamField")), .char, (.object "java/util/Comparator"), .byte, .byte]
  resolved := Array.replicate 1451 none
  statics := some 0 }

def pool8 : Array CpInfo := pool [(3, .class_ 4), (0, u "java/lang/String"), (1, .class_ 8), (1, u "java/lang/Object"), (0, u "<init>"), (0, u "()V"), (0, .methodref 12 13), (0, .class_ 14), (0, .nameAndType 15 16), (0, u "java/lang/StringUTF16"), (0, u "newBytesLength"), (0, u "(I)I"), (3, .integer 1073741823), (23, .fieldref 12 45), (0, .nameAndType 46 47), (0, u "$assertionsDisabled"), (0, u "Z"), (0, .methodref 12 49), (0, .nameAndType 50 51), (0, u "length"), (0, u "([B)I"), (7, .fieldref 12 60), (0, .nameAndType 61 62), (0, u "HI_BYTE_SHIFT"), (0, u "I"), (0, .fieldref 12 64), (0, .nameAndType 65 62), (0, u "LO_BYTE_SHIFT"), (1, .methodref 12 68), (0, .nameAndType 69 70), (0, u "checkIndex"), (0, u "(I[B)V"), (0, .methodref 12 72), (0, .nameAndType 73 74), (0, u "getChar"), (0, u "([BI)C"), (32, .methodref 12 108), (0, .nameAndType 109 110), (0, u "newBytesFor"), (0, u "(I)[B"), (0, .methodref 12 112), (0, .nameAndType 113 114), (0, u "putChar"), (0, u "([BII)V"), (0, .methodref 12 116), (0, .nameAndType 117 118), (0, u "compress"), (0, u "([CI[BII)I"), (0, .methodref 12 120), (0, .nameAndType 121 122), (0, u "toBytes"), (0, u "([CII)[B"), (138, u "coderFromArrayLen"), (0, u "([BI)B"), (106, .class_ 371), (1, u "java/lang/StringUTF16$LinesSpliterator"), (20, u "charAt"), (21, .methodref 3 415), (0, .nameAndType 69 416), (0, u "(II)V"), (13, u "MAX_LENGTH"), (196, .class_ 628), (0, u "java/lang/StringUTF16$CodePointsSpliterator"), (0, .class_ 630), (0, u "java/lang/StringUTF16$CharsSpliterator")] 4

def k8m0 : Method := { name := "<init>", desc := "()V", sig := { parameters := [], returnType := none }, accessFlags := 0, code := none }
def k8c1 : Code := { maxStack := 1, maxLocals := 1, code := jdk_52_method_2_code, exceptionTable := #[], attributes := #[] }
def k8m1 : Method := { name := "newBytesFor", desc := "(I)[B", sig := { parameters := [.int], returnType := some (.array .byte) }, accessFlags := 9, code := some k8c1 }
def k8c2 : Code := { maxStack := 4, maxLocals := 1, code := jdk_52_method_3_code, exceptionTable := #[], attributes := #[] }
def k8m2 : Method := { name := "newBytesLength", desc := "(I)I", sig := { parameters := [.int], returnType := some .int }, accessFlags := 9, code := some k8c2 }
def k8c3 : Code := { maxStack := 4, maxLocals := 3, code := jdk_52_method_4_code, exceptionTable := #[], attributes := #[] }
def k8m3 : Method := { name := "putChar", desc := "([BII)V", sig := { parameters := [(.array .byte), .int, .int], returnType := none }, accessFlags := 8, code := some k8c3 }
def k8c4 : Code := { maxStack := 3, maxLocals := 2, code := jdk_52_method_5_code, exceptionTable := #[], attributes := #[] }
def k8m4 : Method := { name := "getChar", desc := "([BI)C", sig := { parameters := [(.array .byte), .int], returnType := some .char }, accessFlags := 8, code := some k8c4 }
def k8c5 : Code := { maxStack := 2, maxLocals := 1, code := jdk_52_method_6_code, exceptionTable := #[], attributes := #[] }
def k8m5 : Method := { name := "length", desc := "([B)I", sig := { parameters := [(.array .byte)], returnType := some .int }, accessFlags := 9, code := some k8c5 }
def k8c6 : Code := { maxStack := 4, maxLocals := 5, code := jdk_52_method_14_code, exceptionTable := #[], attributes := #[] }
def k8m6 : Method := { name := "toBytes", desc := "([CII)[B", sig := { parameters := [(.array .char), .int, .int], returnType := some (.array .byte) }, accessFlags := 9, code := some k8c6 }
def k8c7 : Code := { maxStack := 2, maxLocals := 2, code := jdk_52_method_15_code, exceptionTable := #[], attributes := #[] }
def k8m7 : Method := { name := "coderFromArrayLen", desc := "([BI)B", sig := { parameters := [(.array .byte), .int], returnType := some .byte }, accessFlags := 8, code := some k8c7 }
def k8c8 : Code := { maxStack := 5, maxLocals := 6, code := jdk_52_method_16_code, exceptionTable := #[], attributes := #[] }
def k8m8 : Method := { name := "compress", desc := "([CII)[B", sig := { parameters := [(.array .char), .int, .int], returnType := some (.array .byte) }, accessFlags := 9, code := some k8c8 }
def k8c9 : Code := { maxStack := 3, maxLocals := 7, code := jdk_52_method_21_code, exceptionTable := #[], attributes := #[] }
def k8m9 : Method := { name := "compress", desc := "([CI[BII)I", sig := { parameters := [(.array .char), .int, (.array .byte), .int, .int], returnType := some .int }, accessFlags := 9, code := some k8c9 }
def k8c10 : Code := { maxStack := 2, maxLocals := 2, code := jdk_52_method_83_code, exceptionTable := #[], attributes := #[] }
def k8m10 : Method := { name := "charAt", desc := "([BI)C", sig := { parameters := [(.array .byte), .int], returnType := some .char }, accessFlags := 9, code := some k8c10 }
def k8c11 : Code := { maxStack := 2, maxLocals := 2, code := jdk_52_method_91_code, exceptionTable := #[], attributes := #[] }
def k8m11 : Method := { name := "checkIndex", desc := "(I[B)V", sig := { parameters := [.int, (.array .byte)], returnType := none }, accessFlags := 9, code := some k8c11 }
/-- java/lang/StringUTF16 -/
def k8 : Class := { plain "java/lang/StringUTF16" (some 0) with
  accessFlags := 48
  interfaces := #[]
  cf := some (fileOf pool8 12 #[.nestMembers #[627, 629, 369]] #[{ accessFlags := 0, nameIndex := 9, descriptorIndex := 10, attributes := #[] }, { accessFlags := 9, nameIndex := 109, descriptorIndex := 110, attributes := #[] }, { accessFlags := 9, nameIndex := 15, descriptorIndex := 16, attributes := #[] }, { accessFlags := 8, nameIndex := 113, descriptorIndex := 114, attributes := #[] }, { accessFlags := 8, nameIndex := 73, descriptorIndex := 74, attributes := #[] }, { accessFlags := 9, nameIndex := 50, descriptorIndex := 51, attributes := #[] }, { accessFlags := 9, nameIndex := 121, descriptorIndex := 122, attributes := #[] }, { accessFlags := 8, nameIndex := 261, descriptorIndex := 262, attributes := #[] }, { accessFlags := 9, nameIndex := 117, descriptorIndex := 122, attributes := #[] }, { accessFlags := 9, nameIndex := 117, descriptorIndex := 118, attributes := #[] }, { accessFlags := 9, nameIndex := 392, descriptorIndex := 74, attributes := #[] }, { accessFlags := 9, nameIndex := 69, descriptorIndex := 70, attributes := #[] }] 48 6 #[] #[{ accessFlags := 26, nameIndex := 61, descriptorIndex := 62, attributes := #[] }, { accessFlags := 26, nameIndex := 65, descriptorIndex := 62, attributes := #[] }, { accessFlags := 24, nameIndex := 430, descriptorIndex := 62, attributes := #[] }, { accessFlags := 4120, nameIndex := 46, descriptorIndex := 47, attributes := #[] }])
  fields := #[{ name := "HI_BYTE_SHIFT", type := .int, accessFlags := 26, slot := 0, constantValue := 0 }, { name := "LO_BYTE_SHIFT", type := .int, accessFlags := 26, slot := 1, constantValue := 0 }, { name := "MAX_LENGTH", type := .int, accessFlags := 24, slot := 2, constantValue := 0 }, { name := "$assertionsDisabled", type := .boolean, accessFlags := 4120, slot := 3, constantValue := 0 }]
  methods := #[k8m0, k8m1, k8m2, k8m3, k8m4, k8m5, k8m6, k8m7, k8m8, k8m9, k8m10, k8m11]
  instanceTypes := #[]
  staticTypes := #[.int, .int, .int, .boolean]
  resolved := Array.replicate 635 none
  statics := some 1 }

def pool9 : Array CpInfo := pool [(1, .class_ 2), (0, u "java/lang/Math"), (1, .class_ 6), (1, u "java/lang/Object"), (0, u "<init>"), (0, u "()V"), (89, .class_ 100), (1, u "java/lang/Math$RandomNumberGeneratorHolder"), (71, u "negativeZeroFloatBits"), (0, u "J"), (2, u "negativeZeroDoubleBits"), (21, u "max"), (2, u "min"), (43, u "$assertionsDisabled"), (0, u "Z"), (88, u "(II)I"), (2, u "twoToTheDoubleScaleDown"), (0, u "D"), (4, u "twoToTheDoubleScaleUp"), (9, u "E"), (3, u "PI"), (2, u "TAU"), (2, u "DEGREES_TO_RADIANS"), (0, u "RADIANS_TO_DEGREES")] 94

def k9m0 : Method := { name := "<init>", desc := "()V", sig := { parameters := [], returnType := none }, accessFlags := 2, code := none }
def k9c1 : Code := { maxStack := 2, maxLocals := 2, code := jdk_29_method_65_code, exceptionTable := #[], attributes := #[] }
def k9m1 : Method := { name := "max", desc := "(II)I", sig := { parameters := [.int, .int], returnType := some .int }, accessFlags := 9, code := some k9c1 }
def k9c2 : Code := { maxStack := 2, maxLocals := 2, code := jdk_29_method_69_code, exceptionTable := #[], attributes := #[] }
def k9m2 : Method := { name := "min", desc := "(II)I", sig := { parameters := [.int, .int], returnType := some .int }, accessFlags := 9, code := some k9c2 }
/-- java/lang/Math -/
def k9 : Class := { plain "java/lang/Math" (some 0) with
  accessFlags := 49
  interfaces := #[]
  cf := some (fileOf pool9 1 #[.nestMembers #[98]] #[{ accessFlags := 2, nameIndex := 7, descriptorIndex := 8, attributes := #[] }, { accessFlags := 9, nameIndex := 198, descriptorIndex := 335, attributes := #[] }, { accessFlags := 9, nameIndex := 201, descriptorIndex := 335, attributes := #[] }] 49 4 #[] #[{ accessFlags := 25, nameIndex := 354, descriptorIndex := 339, attributes := #[] }, { accessFlags := 25, nameIndex := 358, descriptorIndex := 339, attributes := #[] }, { accessFlags := 25, nameIndex := 361, descriptorIndex := 339, attributes := #[] }, { accessFlags := 26, nameIndex := 364, descriptorIndex := 339, attributes := #[] }, { accessFlags := 26, nameIndex := 365, descriptorIndex := 339, attributes := #[] }, { accessFlags := 26, nameIndex := 172, descriptorIndex := 173, attributes := #[] }, { accessFlags := 26, nameIndex := 176, descriptorIndex := 173, attributes := #[] }, { accessFlags := 8, nameIndex := 344, descriptorIndex := 339, attributes := #[] }, { accessFlags := 8, nameIndex := 338, descriptorIndex := 339, attributes := #[] }, { accessFlags := 4120, nameIndex := 245, descriptorIndex := 246, attributes := #[] }])
  fields := #[{ name := "E", type := .double, accessFlags := 25, slot := 0, constantValue := 0 }, { name := "PI", type := .double, accessFlags := 25, slot := 1, constantValue := 0 }, { name := "TAU", type := .double, accessFlags := 25, slot := 2, constantValue := 0 }, { name := "DEGREES_TO_RADIANS", type := .double, accessFlags := 26, slot := 3, constantValue := 0 }, { name := "RADIANS_TO_DEGREES", type := .double, accessFlags := 26, slot := 4, constantValue := 0 }, { name := "negativeZeroFloatBits", type := .long, accessFlags := 26, slot := 5, constantValue := 0 }, { name := "negativeZeroDoubleBits", type := .long, accessFlags := 26, slot := 6, constantValue := 0 }, { name := "twoToTheDoubleScaleUp", type := .double, accessFlags := 8, slot := 7, constantValue := 0 }, { name := "twoToTheDoubleScaleDown", type := .double, accessFlags := 8, slot := 8, constantValue := 0 }, { name := "$assertionsDisabled", type := .boolean, accessFlags := 4120, slot := 9, constantValue := 0 }]
  methods := #[k9m0, k9m1, k9m2]
  instanceTypes := #[]
  staticTypes := #[.double, .double, .double, .double, .double, .long, .long, .double, .double, .boolean]
  resolved := Array.replicate 460 none
  statics := none }

def pool10 : Array CpInfo := pool [(2, .class_ 4), (1, u "java/lang/Object"), (0, u "<init>"), (0, u "()V"), (1, .class_ 10), (1, u "java/lang/String"), (2, .class_ 14), (0, u "com/example/covenantry/covenantry/IsoDate"), (0, .methodref 8 16), (0, .nameAndType 17 18), (0, u "charAt"), (0, u "(I)C"), (8, u "digits"), (0, u "(Ljava/lang/String;II)I"), (15, u "LENGTH"), (0, u "I")] 27

def k10m0 : Method := { name := "<init>", desc := "()V", sig := { parameters := [], returnType := none }, accessFlags := 2, code := none }
def k10c1 : Code := { maxStack := 2, maxLocals := 6, code := prog_12_method_4_code, exceptionTable := #[], attributes := #[] }
def k10m1 : Method := { name := "digits", desc := "(Ljava/lang/String;II)I", sig := { parameters := [(.object "java/lang/String"), .int, .int], returnType := some .int }, accessFlags := 8, code := some k10c1 }
/-- com/example/covenantry/covenantry/IsoDate -/
def k10 : Class := { plain "com/example/covenantry/covenantry/IsoDate" (some 0) with
  accessFlags := 33
  interfaces := #[]
  cf := some (fileOf pool10 13 #[] #[{ accessFlags := 2, nameIndex := 5, descriptorIndex := 6, attributes := #[] }, { accessFlags := 8, nameIndex := 27, descriptorIndex := 28, attributes := #[] }] 33 2 #[] #[{ accessFlags := 24, nameIndex := 44, descriptorIndex := 45, attributes := #[] }])
  fields := #[{ name := "LENGTH", type := .int, accessFlags := 24, slot := 0, constantValue := 0 }]
  methods := #[k10m0, k10m1]
  instanceTypes := #[]
  staticTypes := #[.int]
  resolved := Array.replicate 73 none
  statics := none }

def pool11 : Array CpInfo := pool [(1, .class_ 2), (0, u "java/lang/String"), (1, .class_ 6), (1, u "java/lang/Object"), (0, u "<init>"), (0, u "()V"), (0, .methodref 1 10), (0, .nameAndType 11 12), (0, u "checkIndex"), (0, u "(II)V"), (1, .class_ 16), (1, u "java/lang/StringLatin1"), (36, u "([BI)C"), (67, u "$assertionsDisabled"), (0, u "Z"), (98, .class_ 223), (1, u "java/lang/StringLatin1$LinesSpliterator"), (28, u "charAt"), (137, .class_ 391), (0, u "java/lang/StringLatin1$CharsSpliterator")] 3

def k11m0 : Method := { name := "<init>", desc := "()V", sig := { parameters := [], returnType := none }, accessFlags := 0, code := none }
def k11c1 : Code := { maxStack := 2, maxLocals := 2, code := jdk_43_method_2_code, exceptionTable := #[], attributes := #[] }
def k11m1 : Method := { name := "charAt", desc := "([BI)C", sig := { parameters := [(.array .byte), .int], returnType := some .char }, accessFlags := 9, code := some k11c1 }
/-- java/lang/StringLatin1 -/
def k11 : Class := { plain "java/lang/StringLatin1" (some 0) with
  accessFlags := 48
  interfaces := #[]
  cf := some (fileOf pool11 14 #[.nestMembers #[390, 221]] #[{ accessFlags := 0, nameIndex := 7, descriptorIndex := 8, attributes := #[] }, { accessFlags := 9, nameIndex := 252, descriptorIndex := 53, attributes := #[] }] 48 4 #[] #[{ accessFlags := 4120, nameIndex := 121, descriptorIndex := 122, attributes := #[] }])
  fields := #[{ name := "$assertionsDisabled", type := .boolean, accessFlags := 4120, slot := 0, constantValue := 0 }]
  methods := #[k11m0, k11m1]
  instanceTypes := #[]
  staticTypes := #[.boolean]
  resolved := Array.replicate 395 none
  statics := none }

def pool12 : Array CpInfo := pool [(2, .class_ 4), (1, u "java/lang/Object"), (0, u "<init>"), (0, u "()V"), (17, .class_ 26), (1, u "jdk/internal/util/Preconditions"), (6, u "checkIndex"), (21, .class_ 56), (0, u "jdk/internal/util/Preconditions$4"), (57, .class_ 115), (0, u "jdk/internal/util/Preconditions$1"), (7, u "SIOOBE_FORMATTER"), (0, u "Ljava/util/function/BiFunction;"), (0, .class_ 126), (0, u "jdk/internal/util/Preconditions$2"), (3, u "AIOOBE_FORMATTER"), (0, .class_ 132), (0, u "jdk/internal/util/Preconditions$3"), (3, u "IOOBE_FORMATTER"), (41, u "(IILjava/util/function/BiFunction;)I")] 15

def k12m0 : Method := { name := "<init>", desc := "()V", sig := { parameters := [], returnType := none }, accessFlags := 1, code := none }
def k12c1 : Code := { maxStack := 3, maxLocals := 3, code := jdk_41_method_11_code, exceptionTable := #[], attributes := #[] }
def k12m1 : Method := { name := "checkIndex", desc := "(IILjava/util/function/BiFunction;)I", sig := { parameters := [.int, .int, (.object "java/util/function/BiFunction")], returnType := some .int }, accessFlags := 9, code := some k12c1 }
/-- jdk/internal/util/Preconditions -/
def k12 : Class := { plain "jdk/internal/util/Preconditions" (some 0) with
  accessFlags := 33
  interfaces := #[]
  cf := some (fileOf pool12 24 #[.nestMembers #[55, 131, 125, 114]] #[{ accessFlags := 1, nameIndex := 5, descriptorIndex := 6, attributes := #[] }, { accessFlags := 9, nameIndex := 33, descriptorIndex := 178, attributes := #[] }] 33 2 #[] #[{ accessFlags := 25, nameIndex := 123, descriptorIndex := 124, attributes := #[] }, { accessFlags := 25, nameIndex := 130, descriptorIndex := 124, attributes := #[] }, { accessFlags := 25, nameIndex := 136, descriptorIndex := 124, attributes := #[] }])
  fields := #[{ name := "SIOOBE_FORMATTER", type := (.object "java/util/function/BiFunction"), accessFlags := 25, slot := 0, constantValue := 0 }, { name := "AIOOBE_FORMATTER", type := (.object "java/util/function/BiFunction"), accessFlags := 25, slot := 1, constantValue := 0 }, { name := "IOOBE_FORMATTER", type := (.object "java/util/function/BiFunction"), accessFlags := 25, slot := 2, constantValue := 0 }]
  methods := #[k12m0, k12m1]
  instanceTypes := #[]
  staticTypes := #[(.object "java/util/function/BiFunction"), (.object "java/util/function/BiFunction"), (.object "java/util/function/BiFunction")]
  resolved := Array.replicate 194 none
  statics := some 2 }

def pool13 : Array CpInfo := pool [(9, u "<init>"), (6, .class_ 18), (1, u "java/lang/Object"), (0, u "()V"), (1, .class_ 23), (1, u "jdk/internal/util/ArraysSupport"), (0, u "LOG2_ARRAY_LONG_INDEX_SCALE"), (0, u "I"), (2, u "U"), (0, u "Ljdk/internal/misc/Unsafe;"), (8, u "BIG_ENDIAN"), (0, u "Z"), (8, u "LOG2_BYTE_BIT_SIZE"), (4, u "LOG2_ARRAY_INT_INDEX_SCALE"), (54, u "JLA"), (0, u "Ljdk/internal/access/JavaLangAccess;"), (11, u "LOG2_ARRAY_BOOLEAN_INDEX_SCALE"), (9, u "LOG2_ARRAY_BYTE_INDEX_SCALE"), (5, u "LOG2_ARRAY_CHAR_INDEX_SCALE"), (5, u "LOG2_ARRAY_SHORT_INDEX_SCALE"), (18, u "LOG2_ARRAY_FLOAT_INDEX_SCALE"), (24, u "LOG2_ARRAY_DOUBLE_INDEX_SCALE"), (89, u "T_BOOLEAN"), (2, u "T_CHAR"), (1, u "T_FLOAT"), (1, u "T_DOUBLE"), (1, u "T_BYTE"), (1, u "T_SHORT"), (1, u "T_INT"), (1, u "T_LONG"), (1, u "SOFT_MAX_ARRAY_LENGTH")] 83

def k13m0 : Method := { name := "<init>", desc := "()V", sig := { parameters := [], returnType := none }, accessFlags := 2, code := none }
/-- jdk/internal/util/ArraysSupport -/
def k13 : Class := { plain "jdk/internal/util/ArraysSupport" (some 0) with
  accessFlags := 33
  interfaces := #[]
  cf := some (fileOf pool13 21 #[] #[{ accessFlags := 2, nameIndex := 9, descriptorIndex := 19, attributes := #[] }] 33 16 #[] #[{ accessFlags := 24, nameIndex := 28, descriptorIndex := 29, attributes := #[] }, { accessFlags := 26, nameIndex := 38, descriptorIndex := 39, attributes := #[] }, { accessFlags := 25, nameIndex := 121, descriptorIndex := 25, attributes := #[] }, { accessFlags := 25, nameIndex := 131, descriptorIndex := 25, attributes := #[] }, { accessFlags := 25, nameIndex := 137, descriptorIndex := 25, attributes := #[] }, { accessFlags := 25, nameIndex := 143, descriptorIndex := 25, attributes := #[] }, { accessFlags := 25, nameIndex := 53, descriptorIndex := 25, attributes := #[] }, { accessFlags := 25, nameIndex := 24, descriptorIndex := 25, attributes := #[] }, { accessFlags := 25, nameIndex := 162, descriptorIndex := 25, attributes := #[] }, { accessFlags := 25, nameIndex := 187, descriptorIndex := 25, attributes := #[] }, { accessFlags := 26, nameIndex := 48, descriptorIndex := 25, attributes := #[] }, { accessFlags := 25, nameIndex := 277, descriptorIndex := 25, attributes := #[] }, { accessFlags := 25, nameIndex := 280, descriptorIndex := 25, attributes := #[] }, { accessFlags := 25, nameIndex := 282, descriptorIndex := 25, attributes := #[] }, { accessFlags := 25, nameIndex := 284, descriptorIndex := 25, attributes := #[] }, { accessFlags := 25, nameIndex := 286, descriptorIndex := 25, attributes := #[] }, { accessFlags := 25, nameIndex := 288, descriptorIndex := 25, attributes := #[] }, { accessFlags := 25, nameIndex := 290, descriptorIndex := 25, attributes := #[] }, { accessFlags := 25, nameIndex := 292, descriptorIndex := 25, attributes := #[] }, { accessFlags := 26, nameIndex := 108, descriptorIndex := 109, attributes := #[] }, { accessFlags := 25, nameIndex := 294, descriptorIndex := 25, attributes := #[] }])
  fields := #[{ name := "U", type := (.object "jdk/internal/misc/Unsafe"), accessFlags := 24, slot := 0, constantValue := 0 }, { name := "BIG_ENDIAN", type := .boolean, accessFlags := 26, slot := 1, constantValue := 0 }, { name := "LOG2_ARRAY_BOOLEAN_INDEX_SCALE", type := .int, accessFlags := 25, slot := 2, constantValue := 0 }, { name := "LOG2_ARRAY_BYTE_INDEX_SCALE", type := .int, accessFlags := 25, slot := 3, constantValue := 0 }, { name := "LOG2_ARRAY_CHAR_INDEX_SCALE", type := .int, accessFlags := 25, slot := 4, constantValue := 0 }, { name := "LOG2_ARRAY_SHORT_INDEX_SCALE", type := .int, accessFlags := 25, slot := 5, constantValue := 0 }, { name := "LOG2_ARRAY_INT_INDEX_SCALE", type := .int, accessFlags := 25, slot := 6, constantValue := 0 }, { name := "LOG2_ARRAY_LONG_INDEX_SCALE", type := .int, accessFlags := 25, slot := 7, constantValue := 0 }, { name := "LOG2_ARRAY_FLOAT_INDEX_SCALE", type := .int, accessFlags := 25, slot := 8, constantValue := 0 }, { name := "LOG2_ARRAY_DOUBLE_INDEX_SCALE", type := .int, accessFlags := 25, slot := 9, constantValue := 0 }, { name := "LOG2_BYTE_BIT_SIZE", type := .int, accessFlags := 26, slot := 10, constantValue := 0 }, { name := "T_BOOLEAN", type := .int, accessFlags := 25, slot := 11, constantValue := 0 }, { name := "T_CHAR", type := .int, accessFlags := 25, slot := 12, constantValue := 0 }, { name := "T_FLOAT", type := .int, accessFlags := 25, slot := 13, constantValue := 0 }, { name := "T_DOUBLE", type := .int, accessFlags := 25, slot := 14, constantValue := 0 }, { name := "T_BYTE", type := .int, accessFlags := 25, slot := 15, constantValue := 0 }, { name := "T_SHORT", type := .int, accessFlags := 25, slot := 16, constantValue := 0 }, { name := "T_INT", type := .int, accessFlags := 25, slot := 17, constantValue := 0 }, { name := "T_LONG", type := .int, accessFlags := 25, slot := 18, constantValue := 0 }, { name := "JLA", type := (.object "jdk/internal/access/JavaLangAccess"), accessFlags := 26, slot := 19, constantValue := 0 }, { name := "SOFT_MAX_ARRAY_LENGTH", type := .int, accessFlags := 25, slot := 20, constantValue := 0 }]
  methods := #[k13m0]
  instanceTypes := #[]
  staticTypes := #[(.object "jdk/internal/misc/Unsafe"), .boolean, .int, .int, .int, .int, .int, .int, .int, .int, .int, .int, .int, .int, .int, .int, .int, .int, .int, (.object "jdk/internal/access/JavaLangAccess"), .int]
  resolved := Array.replicate 378 none
  statics := none }

def pool14 : Array CpInfo := pool [(1, u "java/lang/Cloneable"), (0, .class_ 1), (0, u "java/lang/Object"), (0, .class_ 3)] 3

/-- java/lang/Cloneable -/
def k14 : Class := { plain "java/lang/Cloneable" (some 0) with
  accessFlags := 1537
  interfaces := #[]
  cf := some (fileOf pool14 2 #[] #[] 1537 4 #[] #[])
  fields := #[]
  methods := #[]
  instanceTypes := #[]
  staticTypes := #[]
  resolved := Array.replicate 8 none
  statics := none }

/-- the primitive byte -/
def k15 : Class := { plain "byte" none with kind := .primitive 'B', accessFlags := 0x411 }
/-- [B -/
def k16 : Class := { plain "[B" (some 0) with kind := .array 15 .byte, interfaces := #[14, 2], accessFlags := 1041 }

/-- the primitive char -/
def k17 : Class := { plain "char" none with kind := .primitive 'C', accessFlags := 0x411 }
/-- [C -/
def k18 : Class := { plain "[C" (some 0) with kind := .array 17 .char, interfaces := #[14, 2], accessFlags := 1041 }

/-- the primitive int -/
def k19 : Class := { plain "int" none with kind := .primitive 'I', accessFlags := 0x411 }
/-- [I -/
def k20 : Class := { plain "[I" (some 0) with kind := .array 19 .int, interfaces := #[14, 2], accessFlags := 1041 }

def heap : Heap := #[{ cls := 7, slots := #[.long 0, .int 1, .null, .int 0, .null, .int 0, .int 0], vm := .statics 7 },
  { cls := 8, slots := #[.int 0, .int 8, .int 0, .int 1], vm := .statics 8 },
  { cls := 12, slots := #[.null, .null, .null], vm := .statics 12 }]
def classes : Array Class := #[k0, k1, k2, k3, k4, k5, k6, k7, k8, k9, k10, k11, k12, k13, k14, k15, k16, k17, k18, k19, k20]
def interned : List (Array UInt16 × Addr) := []
def slotsUsed : Nat := 14
def theMethod : MethodId := ⟨1, 5⟩
def args0 : Array Value := #[.int 5, .int 6, .int 7, .int 8, .int 3]
def aboutOver (below : List Frame) : State where
  vm := { classes := classes, interned := interned.toArray }
  heap := heap
  slotsUsed := slotsUsed
  threads := #[{ frames := .invoking theMethod args0 :: below }]
def below0 : List Frame := [.native { method := ⟨0, 0⟩, args := #[] }]
def about1 : State := aboutOver below0
def p0 : Program := .bare "" "" ""
def e0 : Env := launch0.env 0 0 0
theorem w_frames : about1.frames = Frame.invoking theMethod args0 :: below0 := rfl
set_option maxRecDepth 65536 in
theorem w_args : argsFit about1.vm theMethod args0 = true := by decide +kernel
set_option maxRecDepth 65536 in
theorem w_heap : heapFits about1 = true := by decide +kernel
set_option maxRecDepth 65536 in
theorem w_runnable : about1.curStatus? = some .runnable := by decide +kernel
set_option maxRecDepth 65536 in
theorem w_alone : about1.alone = true := by decide +kernel
set_option maxRecDepth 65536 in
theorem w_named : about1.methodNamed? x = some theMethod := by decide +kernel
set_option maxRecDepth 65536 in
theorem w_hears : about1.hears theMethod below0 = true := by decide +kernel
set_option maxRecDepth 65536 in
theorem w_ripe : about1.ripe theMethod args0 below0 = true := by decide +kernel
theorem w_running : about1.status = .running := rfl
set_option maxRecDepth 65536 in
theorem w_room : about1.hasRoom e0.platform room_1 = true :=
  launch0.hasRoom_least _ room_1 (by decide +kernel) (by decide +kernel) (by decide +kernel) (by decide +kernel) (by decide +kernel) (by decide +kernel)
theorem allAtoms_all (ts : List Jvm.Cond) (a : Array Jvm.Value) (st : Jvm.State) : (allAtoms ts).before a st = ts.all (fun c => c.before a st) := by
  induction ts with
  | nil => rfl
  | cons c t ih =>
    show (Jvm.Cond.and c (allAtoms t)).before a st = _
    rw [Jvm.Cond.before_and, ih, List.all_cons]
def words1 : List Jvm.Cond := Jvm.Cond.code x code maxLocals ret :: tables_1
/-- a 'code' word, met by the world's own term for the bytes: nothing is compared byte by byte -/
theorem code_word {y : MethodName} {bytes : ByteArray} {mx : Nat} {rt : Option FieldType} {a : Array Value} {s : State} {m : MethodId} {meth : Method} {c : Code} (h1 : s.methodNamed? y = some m) (h2 : s.vm.method? m = some meth) (h3 : meth.code = some c) (h4 : c.code = bytes)
    (h5 : (c.maxLocals == mx && c.exceptionTable.isEmpty && decide (c.maxStack ≤ mostOperands) && decide (meth.sig.returnType = rt) && !meth.locks && decide (parseMethodDescriptor y.desc = some meth.sig)) = true) : (Jvm.Cond.code y bytes mx rt).before a s = true := by
  simp only [Bool.and_eq_true, beq_iff_eq, Bool.not_eq_true', decide_eq_true_eq] at h5
  obtain ⟨⟨⟨⟨⟨g1, g2⟩, g3⟩, g4⟩, g5⟩, g6⟩ := h5
  simp [Cond.before, Cond.holds, Cond.value, h1, h2, h3, h4, g1, g2, g3, g4, g5, g6]
def isCode : Jvm.Cond → Bool
  | .code _ _ _ _ => true
  | _ => false
theorem all_split {L : List Jvm.Cond} {P : Jvm.Cond → Bool} (h1 : L.all (fun c => isCode c || P c) = true) (h2 : ∀ c ∈ L.filter isCode, P c = true) : L.all P = true := by
  refine List.all_eq_true.mpr fun c hc => ?_
  have h := List.all_eq_true.mp h1 c hc
  rcases Bool.eq_false_or_eq_true (isCode c) with hi | hi
  · exact h2 c (List.mem_filter.mpr ⟨hc, hi⟩)
  · simpa [hi] using h
set_option maxRecDepth 65536 in
theorem w_c0 : (Jvm.Cond.code x code maxLocals ret).before args0 about1 = true := code_word (m := ⟨1, 5⟩) (meth := k1m5) (c := k1c5) (by decide +kernel) rfl rfl rfl (by decide +kernel)
set_option maxRecDepth 65536 in
theorem w_c1 : (Jvm.Cond.code ({ cls := "com/example/covenantry/covenantry/IsoDateDigitsPinLaw", name := "ch", desc := "(I)C" } : Jvm.MethodName) method_2_code (2 : Nat) (Option.some Jvm.ClassFile.FieldType.char)).before args0 about1 = true := code_word (m := ⟨1, 1⟩) (meth := k1m1) (c := k1c1) (by decide +kernel) rfl rfl rfl (by decide +kernel)
set_option maxRecDepth 65536 in
theorem w_c2 : (Jvm.Cond.code ({ cls := "java/lang/String", name := "<init>", desc := "([C)V" } : Jvm.MethodName) jdk_42_method_3_code (2 : Nat) (Option.none : Option Jvm.ClassFile.FieldType)).before args0 about1 = true := code_word (m := ⟨7, 1⟩) (meth := k7m1) (c := k7c1) (by decide +kernel) rfl rfl rfl (by decide +kernel)
set_option maxRecDepth 65536 in
theorem w_c3 : (Jvm.Cond.code ({ cls := "java/lang/String", name := "<init>", desc := "([CIILjava/lang/Void;)V" } : Jvm.MethodName) jdk_42_method_149_code (6 : Nat) (Option.none : Option Jvm.ClassFile.FieldType)).before args0 about1 = true := code_word (m := ⟨7, 3⟩) (meth := k7m3) (c := k7c3) (by decide +kernel) rfl rfl rfl (by decide +kernel)
set_option maxRecDepth 65536 in
theorem w_c4 : (Jvm.Cond.code ({ cls := "java/lang/Object", name := "<init>", desc := "()V" } : Jvm.MethodName) object_method_1_code (1 : Nat) (Option.none : Option Jvm.ClassFile.FieldType)).before args0 about1 = true := code_word (m := ⟨0, 0⟩) (meth := k0m0) (c := k0c0) (by decide +kernel) rfl rfl rfl (by decide +kernel)
set_option maxRecDepth 65536 in
theorem w_c5 : (Jvm.Cond.code ({ cls := "java/lang/StringUTF16", name := "compress", desc := "([CII)[B" } : Jvm.MethodName) jdk_52_method_16_code (6 : Nat) (Option.some (Jvm.ClassFile.FieldType.array Jvm.ClassFile.FieldType.byte))).before args0 about1 = true := code_word (m := ⟨8, 8⟩) (meth := k8m8) (c := k8c8) (by decide +kernel) rfl rfl rfl (by decide +kernel)
set_option maxRecDepth 65536 in
theorem w_c6 : (Jvm.Cond.code ({ cls := "java/lang/StringUTF16", name := "compress", desc := "([CI[BII)I" } : Jvm.MethodName) jdk_52_method_21_code (7 : Nat) (Option.some Jvm.ClassFile.FieldType.int)).before args0 about1 = true := code_word (m := ⟨8, 9⟩) (meth := k8m9) (c := k8c9) (by decide +kernel) rfl rfl rfl (by decide +kernel)
set_option maxRecDepth 65536 in
theorem w_c7 : (Jvm.Cond.code ({ cls := "java/lang/StringUTF16", name := "coderFromArrayLen", desc := "([BI)B" } : Jvm.MethodName) jdk_52_method_15_code (2 : Nat) (Option.some Jvm.ClassFile.FieldType.byte)).before args0 about1 = true := code_word (m := ⟨8, 7⟩) (meth := k8m7) (c := k8c7) (by decide +kernel) rfl rfl rfl (by decide +kernel)
set_option maxRecDepth 65536 in
theorem w_c8 : (Jvm.Cond.code ({ cls := "java/lang/Math", name := "min", desc := "(II)I" } : Jvm.MethodName) jdk_29_method_69_code (2 : Nat) (Option.some Jvm.ClassFile.FieldType.int)).before args0 about1 = true := code_word (m := ⟨9, 2⟩) (meth := k9m2) (c := k9c2) (by decide +kernel) rfl rfl rfl (by decide +kernel)
set_option maxRecDepth 65536 in
theorem w_c9 : (Jvm.Cond.code ({ cls := "java/lang/Math", name := "max", desc := "(II)I" } : Jvm.MethodName) jdk_29_method_65_code (2 : Nat) (Option.some Jvm.ClassFile.FieldType.int)).before args0 about1 = true := code_word (m := ⟨9, 1⟩) (meth := k9m1) (c := k9c1) (by decide +kernel) rfl rfl rfl (by decide +kernel)
set_option maxRecDepth 65536 in
theorem w_c10 : (Jvm.Cond.code ({ cls := "com/example/covenantry/covenantry/IsoDateDigitsPinLaw", name := "val", desc := "(C)I" } : Jvm.MethodName) method_3_code (1 : Nat) (Option.some Jvm.ClassFile.FieldType.int)).before args0 about1 = true := code_word (m := ⟨1, 2⟩) (meth := k1m2) (c := k1c2) (by decide +kernel) rfl rfl rfl (by decide +kernel)
set_option maxRecDepth 65536 in
theorem w_c11 : (Jvm.Cond.code ({ cls := "com/example/covenantry/covenantry/IsoDateDigitsPinLaw", name := "term", desc := "(IIII)I" } : Jvm.MethodName) method_5_code (4 : Nat) (Option.some Jvm.ClassFile.FieldType.int)).before args0 about1 = true := code_word (m := ⟨1, 4⟩) (meth := k1m4) (c := k1c4) (by decide +kernel) rfl rfl rfl (by decide +kernel)
set_option maxRecDepth 65536 in
theorem w_c12 : (Jvm.Cond.code ({ cls := "com/example/covenantry/covenantry/IsoDate", name := "digits", desc := "(Ljava/lang/String;II)I" } : Jvm.MethodName) prog_12_method_4_code (6 : Nat) (Option.some Jvm.ClassFile.FieldType.int)).before args0 about1 = true := code_word (m := ⟨10, 1⟩) (meth := k10m1) (c := k10c1) (by decide +kernel) rfl rfl rfl (by decide +kernel)
set_option maxRecDepth 65536 in
theorem w_c13 : (Jvm.Cond.code ({ cls := "java/lang/String", name := "charAt", desc := "(I)C" } : Jvm.MethodName) jdk_42_method_56_code (2 : Nat) (Option.some Jvm.ClassFile.FieldType.char)).before args0 about1 = true := code_word (m := ⟨7, 2⟩) (meth := k7m2) (c := k7c2) (by decide +kernel) rfl rfl rfl (by decide +kernel)
set_option maxRecDepth 65536 in
theorem w_c14 : (Jvm.Cond.code ({ cls := "java/lang/String", name := "isLatin1", desc := "()Z" } : Jvm.MethodName) jdk_42_method_154_code (1 : Nat) (Option.some Jvm.ClassFile.FieldType.boolean)).before args0 about1 = true := code_word (m := ⟨7, 4⟩) (meth := k7m4) (c := k7c4) (by decide +kernel) rfl rfl rfl (by decide +kernel)
set_option maxRecDepth 65536 in
theorem w_c15 : (Jvm.Cond.code ({ cls := "java/lang/StringLatin1", name := "charAt", desc := "([BI)C" } : Jvm.MethodName) jdk_43_method_2_code (2 : Nat) (Option.some Jvm.ClassFile.FieldType.char)).before args0 about1 = true := code_word (m := ⟨11, 1⟩) (meth := k11m1) (c := k11c1) (by decide +kernel) rfl rfl rfl (by decide +kernel)
set_option maxRecDepth 65536 in
theorem w_c16 : (Jvm.Cond.code ({ cls := "java/lang/String", name := "checkIndex", desc := "(II)V" } : Jvm.MethodName) jdk_42_method_155_code (2 : Nat) (Option.none : Option Jvm.ClassFile.FieldType)).before args0 about1 = true := code_word (m := ⟨7, 5⟩) (meth := k7m5) (c := k7c5) (by decide +kernel) rfl rfl rfl (by decide +kernel)
set_option maxRecDepth 65536 in
theorem w_c17 : (Jvm.Cond.code ({ cls := "jdk/internal/util/Preconditions", name := "checkIndex", desc := "(IILjava/util/function/BiFunction;)I" } : Jvm.MethodName) jdk_41_method_11_code (3 : Nat) (Option.some Jvm.ClassFile.FieldType.int)).before args0 about1 = true := code_word (m := ⟨12, 1⟩) (meth := k12m1) (c := k12c1) (by decide +kernel) rfl rfl rfl (by decide +kernel)
set_option maxRecDepth 65536 in
theorem w_c18 : (Jvm.Cond.code ({ cls := "java/lang/StringUTF16", name := "toBytes", desc := "([CII)[B" } : Jvm.MethodName) jdk_52_method_14_code (5 : Nat) (Option.some (Jvm.ClassFile.FieldType.array Jvm.ClassFile.FieldType.byte))).before args0 about1 = true := code_word (m := ⟨8, 6⟩) (meth := k8m6) (c := k8c6) (by decide +kernel) rfl rfl rfl (by decide +kernel)
set_option maxRecDepth 65536 in
theorem w_c19 : (Jvm.Cond.code ({ cls := "java/lang/StringUTF16", name := "newBytesFor", desc := "(I)[B" } : Jvm.MethodName) jdk_52_method_2_code (1 : Nat) (Option.some (Jvm.ClassFile.FieldType.array Jvm.ClassFile.FieldType.byte))).before args0 about1 = true := code_word (m := ⟨8, 1⟩) (meth := k8m1) (c := k8c1) (by decide +kernel) rfl rfl rfl (by decide +kernel)
set_option maxRecDepth 65536 in
theorem w_c20 : (Jvm.Cond.code ({ cls := "java/lang/StringUTF16", name := "newBytesLength", desc := "(I)I" } : Jvm.MethodName) jdk_52_method_3_code (1 : Nat) (Option.some Jvm.ClassFile.FieldType.int)).before args0 about1 = true := code_word (m := ⟨8, 2⟩) (meth := k8m2) (c := k8c2) (by decide +kernel) rfl rfl rfl (by decide +kernel)
set_option maxRecDepth 65536 in
theorem w_c21 : (Jvm.Cond.code ({ cls := "java/lang/StringUTF16", name := "putChar", desc := "([BII)V" } : Jvm.MethodName) jdk_52_method_4_code (3 : Nat) (Option.none : Option Jvm.ClassFile.FieldType)).before args0 about1 = true := code_word (m := ⟨8, 3⟩) (meth := k8m3) (c := k8c3) (by decide +kernel) rfl rfl rfl (by decide +kernel)
set_option maxRecDepth 65536 in
theorem w_c22 : (Jvm.Cond.code ({ cls := "java/lang/StringUTF16", name := "getChar", desc := "([BI)C" } : Jvm.MethodName) jdk_52_method_5_code (2 : Nat) (Option.some Jvm.ClassFile.FieldType.char)).before args0 about1 = true := code_word (m := ⟨8, 4⟩) (meth := k8m4) (c := k8c4) (by decide +kernel) rfl rfl rfl (by decide +kernel)
set_option maxRecDepth 65536 in
theorem w_c23 : (Jvm.Cond.code ({ cls := "java/lang/StringUTF16", name := "charAt", desc := "([BI)C" } : Jvm.MethodName) jdk_52_method_83_code (2 : Nat) (Option.some Jvm.ClassFile.FieldType.char)).before args0 about1 = true := code_word (m := ⟨8, 10⟩) (meth := k8m10) (c := k8c10) (by decide +kernel) rfl rfl rfl (by decide +kernel)
set_option maxRecDepth 65536 in
theorem w_c24 : (Jvm.Cond.code ({ cls := "java/lang/StringUTF16", name := "checkIndex", desc := "(I[B)V" } : Jvm.MethodName) jdk_52_method_91_code (2 : Nat) (Option.none : Option Jvm.ClassFile.FieldType)).before args0 about1 = true := code_word (m := ⟨8, 11⟩) (meth := k8m11) (c := k8c11) (by decide +kernel) rfl rfl rfl (by decide +kernel)
set_option maxRecDepth 65536 in
theorem w_c25 : (Jvm.Cond.code ({ cls := "java/lang/StringUTF16", name := "length", desc := "([B)I" } : Jvm.MethodName) jdk_52_method_6_code (1 : Nat) (Option.some Jvm.ClassFile.FieldType.int)).before args0 about1 = true := code_word (m := ⟨8, 5⟩) (meth := k8m5) (c := k8c5) (by decide +kernel) rfl rfl rfl (by decide +kernel)
set_option maxRecDepth 65536 in
theorem w_c26 : (Jvm.Cond.code ({ cls := "com/example/covenantry/covenantry/IsoDateDigitsPinLaw", name := "pow10", desc := "(I)I" } : Jvm.MethodName) method_4_code (1 : Nat) (Option.some Jvm.ClassFile.FieldType.int)).before args0 about1 = true := code_word (m := ⟨1, 3⟩) (meth := k1m3) (c := k1c3) (by decide +kernel) rfl rfl rfl (by decide +kernel)
def codes1 : List Jvm.Cond := [Jvm.Cond.code x code maxLocals ret, Jvm.Cond.code ({ cls := "com/example/covenantry/covenantry/IsoDateDigitsPinLaw", name := "ch", desc := "(I)C" } : Jvm.MethodName) method_2_code (2 : Nat) (Option.some Jvm.ClassFile.FieldType.char), Jvm.Cond.code ({ cls := "java/lang/String", name := "<init>", desc := "([C)V" } : Jvm.MethodName) jdk_42_method_3_code (2 : Nat) (Option.none : Option Jvm.ClassFile.FieldType), Jvm.Cond.code ({ cls := "java/lang/String", name := "<init>", desc := "([CIILjava/lang/Void;)V" } : Jvm.MethodName) jdk_42_method_149_code (6 : Nat) (Option.none : Option Jvm.ClassFile.FieldType), Jvm.Cond.code ({ cls := "java/lang/Object", name := "<init>", desc := "()V" } : Jvm.MethodName) object_method_1_code (1 : Nat) (Option.none : Option Jvm.ClassFile.FieldType), Jvm.Cond.code ({ cls := "java/lang/StringUTF16", name := "compress", desc := "([CII)[B" } : Jvm.MethodName) jdk_52_method_16_code (6 : Nat) (Option.some (Jvm.ClassFile.FieldType.array Jvm.ClassFile.FieldType.byte)), Jvm.Cond.code ({ cls := "java/lang/StringUTF16", name := "compress", desc := "([CI[BII)I" } : Jvm.MethodName) jdk_52_method_21_code (7 : Nat) (Option.some Jvm.ClassFile.FieldType.int), Jvm.Cond.code ({ cls := "java/lang/StringUTF16", name := "coderFromArrayLen", desc := "([BI)B" } : Jvm.MethodName) jdk_52_method_15_code (2 : Nat) (Option.some Jvm.ClassFile.FieldType.byte), Jvm.Cond.code ({ cls := "java/lang/Math", name := "min", desc := "(II)I" } : Jvm.MethodName) jdk_29_method_69_code (2 : Nat) (Option.some Jvm.ClassFile.FieldType.int), Jvm.Cond.code ({ cls := "java/lang/Math", name := "max", desc := "(II)I" } : Jvm.MethodName) jdk_29_method_65_code (2 : Nat) (Option.some Jvm.ClassFile.FieldType.int), Jvm.Cond.code ({ cls := "com/example/covenantry/covenantry/IsoDateDigitsPinLaw", name := "val", desc := "(C)I" } : Jvm.MethodName) method_3_code (1 : Nat) (Option.some Jvm.ClassFile.FieldType.int), Jvm.Cond.code ({ cls := "com/example/covenantry/covenantry/IsoDateDigitsPinLaw", name := "term", desc := "(IIII)I" } : Jvm.MethodName) method_5_code (4 : Nat) (Option.some Jvm.ClassFile.FieldType.int), Jvm.Cond.code ({ cls := "com/example/covenantry/covenantry/IsoDate", name := "digits", desc := "(Ljava/lang/String;II)I" } : Jvm.MethodName) prog_12_method_4_code (6 : Nat) (Option.some Jvm.ClassFile.FieldType.int), Jvm.Cond.code ({ cls := "java/lang/String", name := "charAt", desc := "(I)C" } : Jvm.MethodName) jdk_42_method_56_code (2 : Nat) (Option.some Jvm.ClassFile.FieldType.char), Jvm.Cond.code ({ cls := "java/lang/String", name := "isLatin1", desc := "()Z" } : Jvm.MethodName) jdk_42_method_154_code (1 : Nat) (Option.some Jvm.ClassFile.FieldType.boolean), Jvm.Cond.code ({ cls := "java/lang/StringLatin1", name := "charAt", desc := "([BI)C" } : Jvm.MethodName) jdk_43_method_2_code (2 : Nat) (Option.some Jvm.ClassFile.FieldType.char), Jvm.Cond.code ({ cls := "java/lang/String", name := "checkIndex", desc := "(II)V" } : Jvm.MethodName) jdk_42_method_155_code (2 : Nat) (Option.none : Option Jvm.ClassFile.FieldType), Jvm.Cond.code ({ cls := "jdk/internal/util/Preconditions", name := "checkIndex", desc := "(IILjava/util/function/BiFunction;)I" } : Jvm.MethodName) jdk_41_method_11_code (3 : Nat) (Option.some Jvm.ClassFile.FieldType.int), Jvm.Cond.code ({ cls := "java/lang/StringUTF16", name := "toBytes", desc := "([CII)[B" } : Jvm.MethodName) jdk_52_method_14_code (5 : Nat) (Option.some (Jvm.ClassFile.FieldType.array Jvm.ClassFile.FieldType.byte)), Jvm.Cond.code ({ cls := "java/lang/StringUTF16", name := "newBytesFor", desc := "(I)[B" } : Jvm.MethodName) jdk_52_method_2_code (1 : Nat) (Option.some (Jvm.ClassFile.FieldType.array Jvm.ClassFile.FieldType.byte)), Jvm.Cond.code ({ cls := "java/lang/StringUTF16", name := "newBytesLength", desc := "(I)I" } : Jvm.MethodName) jdk_52_method_3_code (1 : Nat) (Option.some Jvm.ClassFile.FieldType.int), Jvm.Cond.code ({ cls := "java/lang/StringUTF16", name := "putChar", desc := "([BII)V" } : Jvm.MethodName) jdk_52_method_4_code (3 : Nat) (Option.none : Option Jvm.ClassFile.FieldType), Jvm.Cond.code ({ cls := "java/lang/StringUTF16", name := "getChar", desc := "([BI)C" } : Jvm.MethodName) jdk_52_method_5_code (2 : Nat) (Option.some Jvm.ClassFile.FieldType.char), Jvm.Cond.code ({ cls := "java/lang/StringUTF16", name := "charAt", desc := "([BI)C" } : Jvm.MethodName) jdk_52_method_83_code (2 : Nat) (Option.some Jvm.ClassFile.FieldType.char), Jvm.Cond.code ({ cls := "java/lang/StringUTF16", name := "checkIndex", desc := "(I[B)V" } : Jvm.MethodName) jdk_52_method_91_code (2 : Nat) (Option.none : Option Jvm.ClassFile.FieldType), Jvm.Cond.code ({ cls := "java/lang/StringUTF16", name := "length", desc := "([B)I" } : Jvm.MethodName) jdk_52_method_6_code (1 : Nat) (Option.some Jvm.ClassFile.FieldType.int), Jvm.Cond.code ({ cls := "com/example/covenantry/covenantry/IsoDateDigitsPinLaw", name := "pow10", desc := "(I)I" } : Jvm.MethodName) method_4_code (1 : Nat) (Option.some Jvm.ClassFile.FieldType.int)]
set_option maxRecDepth 65536 in
theorem codes_eq : words1.filter isCode = codes1 := rfl
theorem w_codes : ∀ c ∈ words1.filter isCode, c.before args0 about1 = true := by
  rw [codes_eq]
  intro c hc
  simp only [codes1, List.mem_cons, List.not_mem_nil, or_false] at hc
  rcases hc with rfl | rfl | rfl | rfl | rfl | rfl | rfl | rfl | rfl | rfl | rfl | rfl | rfl | rfl | rfl | rfl | rfl | rfl | rfl | rfl | rfl | rfl | rfl | rfl | rfl | rfl | rfl
  · exact w_c0
  · exact w_c1
  · exact w_c2
  · exact w_c3
  · exact w_c4
  · exact w_c5
  · exact w_c6
  · exact w_c7
  · exact w_c8
  · exact w_c9
  · exact w_c10
  · exact w_c11
  · exact w_c12
  · exact w_c13
  · exact w_c14
  · exact w_c15
  · exact w_c16
  · exact w_c17
  · exact w_c18
  · exact w_c19
  · exact w_c20
  · exact w_c21
  · exact w_c22
  · exact w_c23
  · exact w_c24
  · exact w_c25
  · exact w_c26
set_option maxRecDepth 65536 in
theorem w_t1 : (words1.take 24).all (fun c => isCode c || c.before args0 about1) = true := by decide +kernel
set_option maxRecDepth 65536 in
theorem w_t2 : ((words1.drop 24).take 24).all (fun c => isCode c || c.before args0 about1) = true := by decide +kernel
set_option maxRecDepth 65536 in
theorem w_t3 : (((words1.drop 24).drop 24).take 24).all (fun c => isCode c || c.before args0 about1) = true := by decide +kernel
set_option maxRecDepth 65536 in
theorem w_t4 : ((((words1.drop 24).drop 24).drop 24).take 24).all (fun c => isCode c || c.before args0 about1) = true := by decide +kernel
set_option maxRecDepth 65536 in
theorem w_t5 : ((((words1.drop 24).drop 24).drop 24).drop 24).all (fun c => isCode c || c.before args0 about1) = true := by decide +kernel
theorem w_tables : (allAtoms (Jvm.Cond.code x code maxLocals ret :: tables_1)).before args0 about1 = true := by
  rw [allAtoms_all]
  show words1.all (fun c => c.before args0 about1) = true
  refine all_split ?_ w_codes
  rw [← List.take_append_drop 24 words1, List.all_append, w_t1, ← List.take_append_drop 24 (words1.drop 24), List.all_append, w_t2, ← List.take_append_drop 24 ((words1.drop 24).drop 24), List.all_append, w_t3, ← List.take_append_drop 24 (((words1.drop 24).drop 24).drop 24), List.all_append, w_t4, w_t5]
  rfl
set_option maxRecDepth 65536 in
theorem w_rest : rest_1_c.before args0 about1 = true := by decide +kernel
set_option maxRecDepth 65536 in
theorem w_case : (Jvm.Cond.and given_1 narrow_1).before args0 about1 = true := by decide +kernel
theorem w_applies : (headSpec (Jvm.Cond.code x code maxLocals ret :: tables_1) room_1).applies x e0.platform about1 = true :=
  (Spec.applies_iff w_frames).mpr ⟨w_running, w_runnable, w_alone, w_named, w_hears, w_ripe, w_room, w_tables⟩
theorem atStart : AtStart classFile x code maxLocals ret World_1 tables_1 room_1 Calls_1 rest_1 Pre_1 launch0 p0 e0 about1 theMethod args0 below0 :=
  ⟨lists_1, trivial, launch0.admits_env _ _ _, launch0.least_env, fairChoices_fair.cas, fairChoices_fair.clock, w_frames, w_args, w_heap, w_applies, trivial, w_rest, w_case⟩
end start1
theorem witness_1 : WitnessClaimed_1 := ⟨start1.p0, start1.e0, start1.about1, start1.theMethod, start1.args0, start1.below0, start1.atStart⟩
end Jvm.Pilot.@@N@@
