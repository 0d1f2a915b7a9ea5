import JvmDerived
import JvmDerived.Pilot.@@N@@Statement
import JvmDerived.Pilot.@@N@@Code
set_option linter.unusedVariables false
set_option linter.unusedSimpArgs false
namespace Jvm.Pilot.@@N@@
open Jvm Jvm.ClassFile Sem Op Lib Jvm.Free Jvm.Stand Jvm.LawKit Jvm.RoadKit Bundle Jvm.Pilot.@@N@@.Jvm.D
abbrev OTr := List (Nat × Instr × Nat)
abbrev OR := Option (Prop × Nat × Array Slot × List Value)
/-- place j of the array at a holds v -/
def Rd (Z : State) (h : Heap) (a : Addr) (ty : FieldType) (j : Int32) (v : Value) : Prop := ∃ c, Arr Z h a c ty ∧ ¬ (j < 0 ∨ c.slots.size ≤ j.toNatClampNeg) ∧ c.slots[j.toNatClampNeg]? = some v
/-- the array at a has n places -/
def Ln (Z : State) (h : Heap) (a : Addr) (n : Int32) : Prop := ∃ c ty, Arr Z h a c ty ∧ c.slots.size.toInt32 = n
def okB (b : ByteArray) (t : OTr) : Bool := t.all fun x => decide (decode b x.1 = .ok (x.2.1, x.2.2))
def cII : ClassFile.Cond → Bool → Int32 → Int32 → Prop
  | .eq, true, x, y => x = y
  | .eq, false, x, y => ¬ x = y
  | .ne, true, x, y => ¬ x = y
  | .ne, false, x, y => x = y
  | .lt, true, x, y => x < y
  | .lt, false, x, y => ¬ x < y
  | .ge, true, x, y => ¬ x < y
  | .ge, false, x, y => x < y
  | .gt, true, x, y => y < x
  | .gt, false, x, y => ¬ y < x
  | .le, true, x, y => ¬ y < x
  | .le, false, x, y => y < x
def cAA : ClassFile.ACond → Bool → Value → Value → Prop
  | .eq, true, x, y => x = y
  | .eq, false, x, y => ¬ x = y
  | .ne, true, x, y => ¬ x = y
  | .ne, false, x, y => x = y
def oAnd (c : Prop) (r : OR) : OR := match r with | some (P, x) => some (c ∧ P, x) | none => none
def oLdI (L : Array Slot) (x : Nat) (f : Value → OR) : OR := match L[x]? with | some (.val (.int v)) => f (.int v) | _ => none
def oLdI' (L : Array Slot) (x : Nat) (f : Int32 → OR) : OR := match L[x]? with | some (.val (.int v)) => f v | _ => none
def oLdJ (L : Array Slot) (x : Nat) (f : Value → OR) : OR := match L[x]? with | some (.val (.long v)) => f (.long v) | _ => none
def oLdA (L : Array Slot) (x : Nat) (f : Value → OR) : OR := match L[x]? with | some (.val (.ref v)) => f (.ref v) | some (.val .null) => f .null | _ => none
def oG (o : List Value) (pc : Nat) (f : List Value → OR) (g : OR) : OR := match o with | .retAddr q :: o' => (bif Nat.beq q pc then f o' else g) | _ => g
def oLdG (L : Array Slot) (x : Nat) (f : Value → OR) : OR := match L[x]? with | some (.val v) => f v | _ => none
def oTop (S : List Value) (f : Value → List Value → OR) : OR := match S with | v :: r => f v r | _ => none
def oStG (L : Array Slot) (x : Nat) (v : Value) (f : Array Slot → OR) : OR := match L[x]? with | some .unset => f (L.setIfInBounds x (.val v)) | some (.val (.int _)) => f (L.setIfInBounds x (.val v)) | some (.val (.ref _)) => f (L.setIfInBounds x (.val v)) | some (.val .null) => f (L.setIfInBounds x (.val v)) | _ => none
def oSt (L : Array Slot) (x : Nat) (v : Value) (f : Array Slot → OR) : OR := match storeLocals L x v with | some L' => f L' | none => none
def oI (S : List Value) (f : Int32 → List Value → OR) : OR := match S with | .int v :: r => f v r | _ => none
def oJ (S : List Value) (f : Int64 → List Value → OR) : OR := match S with | .long v :: r => f v r | _ => none
def oR (S : List Value) (f : Addr → List Value → OR) : OR := match S with | .ref v :: r => f v r | _ => none
def oA (S : List Value) (f : Value → List Value → OR) : OR := match S with | .ref v :: r => f (.ref v) r | .null :: r => f .null r | _ => none
def oNul (S : List Value) (f : List Value → OR) (g : Addr → List Value → OR) : OR := match S with | .null :: r => f r | .ref v :: r => g v r | _ => none
def o1 (S : List Value) (f : Value → List Value → OR) : OR := match S with | .ref v :: r => f (.ref v) r | .null :: r => f .null r | .int v :: r => f (.int v) r | _ => none
def oD2 (S : List Value) (f : Int64 → List Value → OR) (g : Value → Value → List Value → OR) : OR := match S with | .long v :: r => f v r | S => o1 S fun v r => o1 r fun w r' => g v w r'
def oII (S : List Value) (f : Int32 → Int32 → List Value → OR) : OR := match S with | .int y :: .int x :: r => f x y r | _ => none
def oJJ (S : List Value) (f : Int64 → Int64 → List Value → OR) : OR := match S with | .long y :: .long x :: r => f x y r | _ => none
def oJI (S : List Value) (f : Int64 → Int32 → List Value → OR) : OR := match S with | .int y :: .long x :: r => f x y r | _ => none
def oIR (S : List Value) (f : Int32 → Addr → List Value → OR) : OR := match S with | .int y :: .ref x :: r => f y x r | _ => none
def oB (o : List Value) (f g : List Value → OR) : OR := match o with | .ref _ :: o' => f o' | .null :: o' => g o' | _ => none
def oV (o : List Value) (f : Value → List Value → OR) : OR := match o with | v :: o' => f v o' | _ => none
def oN (o : List Value) (f : Int32 → List Value → OR) : OR := match o with | .int v :: o' => f v o' | _ => none
def oM (o : List Value) (f : Int64 → List Value → OR) : OR := match o with | .long v :: o' => f v o' | _ => none
def oTo (pc : Nat) (d : Int) (f : Nat → OR) : OR := bif decide (0 ≤ (pc : Int) + d) then f ((pc : Int) + d).toNat else none
def ost (Z : State) (h : Heap) (a0 : Array Value) (own : String) (i : Instr) (n pc : Nat) (L : Array Slot) (S : List Value) (o : List Value) (k : Nat → Array Slot → List Value → List Value → OR) : OR :=
  match i with
  | .iload x => bif Nat.beq n 2 then oLdI L x fun v => k (pc + 2) L (v :: S) o else none
  | .iload_n x => bif Nat.beq n 1 then oLdI L x.val fun v => k (pc + 1) L (v :: S) o else none
  | .lload x => bif Nat.beq n 2 then oLdJ L x fun v => k (pc + 2) L (v :: S) o else none
  | .lload_n x => bif Nat.beq n 1 then oLdJ L x.val fun v => k (pc + 1) L (v :: S) o else none
  | .aload x => bif Nat.beq n 2 then oG o pc (fun o' => oLdG L x fun v => oAnd (v.isRef = true) (k (pc + 2) L (v :: S) o')) (oLdA L x fun v => k (pc + 2) L (v :: S) o) else none
  | .aload_n x => bif Nat.beq n 1 then oG o pc (fun o' => oLdG L x.val fun v => oAnd (v.isRef = true) (k (pc + 1) L (v :: S) o')) (oLdA L x.val fun v => k (pc + 1) L (v :: S) o) else none
  | .istore x => bif Nat.beq n 2 then oI S fun v r => oSt L x (.int v) fun L' => k (pc + 2) L' r o else none
  | .istore_n x => bif Nat.beq n 1 then oI S fun v r => oSt L x.val (.int v) fun L' => k (pc + 1) L' r o else none
  | .lstore x => bif Nat.beq n 2 then oJ S fun v r => oSt L x (.long v) fun L' => k (pc + 2) L' r o else none
  | .lstore_n x => bif Nat.beq n 1 then oJ S fun v r => oSt L x.val (.long v) fun L' => k (pc + 1) L' r o else none
  | .astore x => bif Nat.beq n 2 then oG o pc (fun o' => oTop S fun v r => oAnd (v.isRef = true) (oStG L x v fun L' => k (pc + 2) L' r o')) (oA S fun v r => oSt L x v fun L' => k (pc + 2) L' r o) else none
  | .astore_n x => bif Nat.beq n 1 then oG o pc (fun o' => oTop S fun v r => oAnd (v.isRef = true) (oStG L x.val v fun L' => k (pc + 1) L' r o')) (oA S fun v r => oSt L x.val v fun L' => k (pc + 1) L' r o) else none
  | .iconst i => bif Nat.beq n 1 then k (pc + 1) L (.int (Int32.ofInt i) :: S) o else none
  | .bipush i => bif Nat.beq n 2 then k (pc + 2) L (.int (Int8.ofInt i).toInt32 :: S) o else none
  | .sipush i => bif Nat.beq n 3 then k (pc + 3) L (.int (Int16.ofInt i).toInt32 :: S) o else none
  | .lconst i => bif Nat.beq n 1 then k (pc + 1) L (.long (Int64.ofNat i) :: S) o else none
  | .aconst_null => bif Nat.beq n 1 then k (pc + 1) L (.null :: S) o else none
  | .iadd => bif Nat.beq n 1 then oII S fun x y r => k (pc + 1) L (.int (x + y) :: r) o else none
  | .isub => bif Nat.beq n 1 then oII S fun x y r => k (pc + 1) L (.int (x - y) :: r) o else none
  | .imul => bif Nat.beq n 1 then oII S fun x y r => k (pc + 1) L (.int (x * y) :: r) o else none
  | .iand => bif Nat.beq n 1 then oII S fun x y r => k (pc + 1) L (.int (x &&& y) :: r) o else none
  | .ior => bif Nat.beq n 1 then oII S fun x y r => k (pc + 1) L (.int (x ||| y) :: r) o else none
  | .ixor => bif Nat.beq n 1 then oII S fun x y r => k (pc + 1) L (.int (x ^^^ y) :: r) o else none
  | .ishl => bif Nat.beq n 1 then oII S fun x y r => k (pc + 1) L (.int (x <<< (y &&& 31)) :: r) o else none
  | .ishr => bif Nat.beq n 1 then oII S fun x y r => k (pc + 1) L (.int (x >>> (y &&& 31)) :: r) o else none
  | .iushr => bif Nat.beq n 1 then oII S fun x y r => k (pc + 1) L (.int (XT.ushr x y) :: r) o else none
  | .idiv => bif Nat.beq n 1 then oII S fun x y r => oAnd (y ≠ 0) (k (pc + 1) L (.int (x / y) :: r) o) else none
  | .irem => bif Nat.beq n 1 then oII S fun x y r => oAnd (y ≠ 0) (k (pc + 1) L (.int (x % y) :: r) o) else none
  | .ladd => bif Nat.beq n 1 then oJJ S fun x y r => k (pc + 1) L (.long (x + y) :: r) o else none
  | .lsub => bif Nat.beq n 1 then oJJ S fun x y r => k (pc + 1) L (.long (x - y) :: r) o else none
  | .lmul => bif Nat.beq n 1 then oJJ S fun x y r => k (pc + 1) L (.long (x * y) :: r) o else none
  | .land => bif Nat.beq n 1 then oJJ S fun x y r => k (pc + 1) L (.long (x &&& y) :: r) o else none
  | .lor => bif Nat.beq n 1 then oJJ S fun x y r => k (pc + 1) L (.long (x ||| y) :: r) o else none
  | .lxor => bif Nat.beq n 1 then oJJ S fun x y r => k (pc + 1) L (.long (x ^^^ y) :: r) o else none
  | .lcmp => bif Nat.beq n 1 then oJJ S fun x y r => k (pc + 1) L (.int (XT.cmpL x y) :: r) o else none
  | .ldiv => bif Nat.beq n 1 then oJJ S fun x y r => oAnd (y ≠ 0) (k (pc + 1) L (.long (x / y) :: r) o) else none
  | .lrem => bif Nat.beq n 1 then oJJ S fun x y r => oAnd (y ≠ 0) (k (pc + 1) L (.long (x % y) :: r) o) else none
  | .lshl => bif Nat.beq n 1 then oJI S fun x y r => k (pc + 1) L (.long (x <<< (y.toInt64 &&& 63)) :: r) o else none
  | .lshr => bif Nat.beq n 1 then oJI S fun x y r => k (pc + 1) L (.long (x >>> (y.toInt64 &&& 63)) :: r) o else none
  | .lushr => bif Nat.beq n 1 then oJI S fun x y r => k (pc + 1) L (.long (XT.ushrL x y) :: r) o else none
  | .ineg => bif Nat.beq n 1 then oI S fun v r => k (pc + 1) L (.int (-v) :: r) o else none
  | .i2l => bif Nat.beq n 1 then oI S fun v r => k (pc + 1) L (.long (v.toInt64) :: r) o else none
  | .i2b => bif Nat.beq n 1 then oI S fun v r => k (pc + 1) L (.int (v.toInt8.toInt32) :: r) o else none
  | .i2c => bif Nat.beq n 1 then oI S fun v r => k (pc + 1) L (.int (v.toUInt32.toUInt16.toUInt32.toInt32) :: r) o else none
  | .i2s => bif Nat.beq n 1 then oI S fun v r => k (pc + 1) L (.int (v.toInt16.toInt32) :: r) o else none
  | .lneg => bif Nat.beq n 1 then oJ S fun v r => k (pc + 1) L (.long (-v) :: r) o else none
  | .l2i => bif Nat.beq n 1 then oJ S fun v r => k (pc + 1) L (.int (v.toInt32) :: r) o else none
  | .dup => bif Nat.beq n 1 then o1 S fun v r => k (pc + 1) L (v :: v :: r) o else none
  | .pop => bif Nat.beq n 1 then o1 S fun v r => k (pc + 1) L r o else none
  | .dup_x1 => bif Nat.beq n 1 then o1 S fun v r => o1 r fun w r' => k (pc + 1) L (v :: w :: v :: r') o else none
  | .dup2 => bif Nat.beq n 1 then oD2 S (fun v r => k (pc + 1) L (.long v :: .long v :: r) o) fun v w r => k (pc + 1) L (v :: w :: v :: w :: r) o else none
  | .iinc x d => bif Nat.beq n 3 then oLdI' L x fun v => oSt L x (.int (v + Int32.ofInt d)) fun L' => k (pc + 3) L' S o else none
  | .goto d => bif Nat.beq n 3 then oTo pc d fun q => k q L S o else none
  | .ifCond cd d => bif Nat.beq n 3 then oI S fun v r => oB o (fun o' => oAnd (cII cd true v 0) (oTo pc d fun q => k q L r o')) fun o' => oAnd (cII cd false v 0) (k (pc + 3) L r o') else none
  | .if_icmp cd d => bif Nat.beq n 3 then oII S fun x y r => oB o (fun o' => oAnd (cII cd true x y) (oTo pc d fun q => k q L r o')) fun o' => oAnd (cII cd false x y) (k (pc + 3) L r o') else none
  | .ifnull d => bif Nat.beq n 3 then oNul S (fun r => oTo pc d fun q => k q L r o) fun b r => k (pc + 3) L r o else none
  | .ifnonnull d => bif Nat.beq n 3 then oNul S (fun r => k (pc + 3) L r o) fun b r => oTo pc d fun q => k q L r o else none
  | .if_acmp cd d => bif Nat.beq n 3 then oA S fun y r1 => oA r1 fun x r => oB o (fun o' => oAnd (cAA cd true x y) (oTo pc d fun q => k q L r o')) fun o' => oAnd (cAA cd false x y) (k (pc + 3) L r o') else none
  | .iaload => bif Nat.beq n 1 then oIR S fun j a r => oV o fun v o' => oAnd (Rd Z h a .int j v) (k (pc + 1) L (v :: r) o') else none
  | .laload => bif Nat.beq n 1 then oIR S fun j a r => oV o fun v o' => oAnd (Rd Z h a .long j v) (k (pc + 1) L (v :: r) o') else none
  | .caload => bif Nat.beq n 1 then oIR S fun j a r => oV o fun v o' => oAnd (Rd Z h a .char j v) (k (pc + 1) L (v :: r) o') else none
  | .baload => bif Nat.beq n 1 then oIR S fun j a r => oV o fun v o' => oAnd (Rd Z h a .byte j v) (k (pc + 1) L (v :: r) o') else none
  | .aaload => bif Nat.beq n 1 then oIR S fun j a r => oV o fun v o' => oAnd (∃ ty, ty.isReference = true ∧ Rd Z h a ty j v) (k (pc + 1) L (v :: r) o') else none
  | .arraylength => bif Nat.beq n 1 then oR S fun a r => oN o fun n o' => oAnd (Ln Z h a n) (k (pc + 1) L (.int n :: r) o') else none
  | .ldc i => bif Nat.beq n 2 then oN o fun v o' => oAnd ((Jvm.Cond.constant own i v).before a0 Z = true) (k (pc + 2) L (.int v :: S) o') else none
  | .ldc_w i => bif Nat.beq n 3 then oN o fun v o' => oAnd ((Jvm.Cond.constant own i v).before a0 Z = true) (k (pc + 3) L (.int v :: S) o') else none
  | .ldc2_w i => bif Nat.beq n 3 then oM o fun v o' => oAnd ((Jvm.Cond.constantLong own i v).before a0 Z = true) (k (pc + 3) L (.long v :: S) o') else none
  | _ => none
def orun (Z : State) (h : Heap) (a0 : Array Value) (own : String) : OTr → List Value → Nat → Array Slot → List Value → OR
  | [], _, pc, L, S => some (True, pc, L, S)
  | x :: t, o, pc, L, S => bif Nat.beq x.1 pc then ost Z h a0 own x.2.1 x.2.2 pc L S o fun pc L S o => orun Z h a0 own t o pc L S else none
section OwnLaws
variable {r : Prop × Nat × Array Slot × List Value}
theorem oAnd_ok {c : Prop} {q : OR} {P : Prop} {x : Nat × Array Slot × List Value} (h : oAnd c q = some (P, x)) (hP : P) : ∃ P', c ∧ P' ∧ q = some (P', x) := by
  unfold oAnd at h
  split at h
  · simp only [Option.some.injEq, Prod.mk.injEq] at h
    obtain ⟨rfl, rfl⟩ := h
    exact ⟨_, hP.1, hP.2, rfl⟩
  · cases h
theorem oLdI_ok {L : Array Slot} {x : Nat} {f : Value → OR} (h : oLdI L x f = some r) : ∃ v, L[x]? = some (.val (.int v)) ∧ f (.int v) = some r := by
  unfold oLdI at h
  split at h
  · exact ⟨_, by assumption, h⟩
  · cases h
theorem oLdI'_ok {L : Array Slot} {x : Nat} {f : Int32 → OR} (h : oLdI' L x f = some r) : ∃ v, L[x]? = some (.val (.int v)) ∧ f v = some r := by
  unfold oLdI' at h
  split at h
  · exact ⟨_, by assumption, h⟩
  · cases h
theorem oLdJ_ok {L : Array Slot} {x : Nat} {f : Value → OR} (h : oLdJ L x f = some r) : ∃ v, L[x]? = some (.val (.long v)) ∧ f (.long v) = some r := by
  unfold oLdJ at h
  split at h
  · exact ⟨_, by assumption, h⟩
  · cases h
theorem oLdA_ok {L : Array Slot} {x : Nat} {f : Value → OR} (h : oLdA L x f = some r) : ∃ v, L[x]? = some (.val v) ∧ v.isRef = true ∧ f v = some r := by
  unfold oLdA at h
  split at h
  · exact ⟨_, by assumption, rfl, h⟩
  · exact ⟨_, by assumption, rfl, h⟩
  · cases h
theorem oSt_ok {L : Array Slot} {x : Nat} {v : Value} {f : Array Slot → OR} (h : oSt L x v f = some r) : ∃ L', storeLocals L x v = some L' ∧ f L' = some r := by
  unfold oSt at h
  split at h
  · exact ⟨_, by assumption, h⟩
  · cases h
theorem oG_ok {o : List Value} {pc : Nat} {f : List Value → OR} {g : OR} (h : oG o pc f g = some r) : (∃ o', f o' = some r) ∨ g = some r := by
  unfold oG at h
  split at h
  · rename_i q o'
    cases hb : Nat.beq q pc
    · rw [hb] at h; exact Or.inr h
    · rw [hb] at h; exact Or.inl ⟨_, h⟩
  · exact Or.inr h
theorem oLdG_ok {L : Array Slot} {x : Nat} {f : Value → OR} (h : oLdG L x f = some r) : ∃ v, L[x]? = some (.val v) ∧ f v = some r := by
  unfold oLdG at h
  split at h
  · exact ⟨_, by assumption, h⟩
  · cases h
theorem oTop_ok {S : List Value} {f : Value → List Value → OR} (h : oTop S f = some r) : ∃ v q, S = v :: q ∧ f v q = some r := by
  unfold oTop at h
  split at h
  · exact ⟨_, _, rfl, h⟩
  · cases h
theorem oStG_ok {L : Array Slot} {x : Nat} {v : Value} {f : Array Slot → OR} (h : oStG L x v f = some r) (hv : v.isRef = true) : ∃ L', storeLocals L x v = some L' ∧ f L' = some r := by
  have c1 : v.category = 1 := by rcases ref_cases hv with rfl | ⟨b, rfl⟩ <;> rfl
  unfold oStG at h
  split at h
  · rename_i e; exact ⟨_, storeLocals_cat1 e c1 (by simp), h⟩
  · rename_i e; exact ⟨_, storeLocals_cat1 e c1 (by simp [Value.category]), h⟩
  · rename_i e; exact ⟨_, storeLocals_cat1 e c1 (by simp [Value.category]), h⟩
  · rename_i e; exact ⟨_, storeLocals_cat1 e c1 (by simp [Value.category]), h⟩
  · cases h
theorem oI_ok {S : List Value} {f : Int32 → List Value → OR} (h : oI S f = some r) : ∃ v q, S = .int v :: q ∧ f v q = some r := by
  unfold oI at h
  split at h
  · exact ⟨_, _, rfl, h⟩
  · cases h
theorem oJ_ok {S : List Value} {f : Int64 → List Value → OR} (h : oJ S f = some r) : ∃ v q, S = .long v :: q ∧ f v q = some r := by
  unfold oJ at h
  split at h
  · exact ⟨_, _, rfl, h⟩
  · cases h
theorem oR_ok {S : List Value} {f : Addr → List Value → OR} (h : oR S f = some r) : ∃ v q, S = .ref v :: q ∧ f v q = some r := by
  unfold oR at h
  split at h
  · exact ⟨_, _, rfl, h⟩
  · cases h
theorem oA_ok {S : List Value} {f : Value → List Value → OR} (h : oA S f = some r) : ∃ v q, S = v :: q ∧ v.isRef = true ∧ f v q = some r := by
  unfold oA at h
  split at h
  · exact ⟨_, _, rfl, rfl, h⟩
  · exact ⟨_, _, rfl, rfl, h⟩
  · cases h
theorem oNul_ok {S : List Value} {f : List Value → OR} {g : Addr → List Value → OR} (h : oNul S f g = some r) : (∃ q, S = .null :: q ∧ f q = some r) ∨ ∃ b q, S = .ref b :: q ∧ g b q = some r := by
  unfold oNul at h
  split at h
  · exact Or.inl ⟨_, rfl, h⟩
  · exact Or.inr ⟨_, _, rfl, h⟩
  · cases h
theorem o1_ok {S : List Value} {f : Value → List Value → OR} (h : o1 S f = some r) : ∃ v q, S = v :: q ∧ v.category = 1 ∧ f v q = some r := by
  unfold o1 at h
  split at h
  · exact ⟨_, _, rfl, rfl, h⟩
  · exact ⟨_, _, rfl, rfl, h⟩
  · exact ⟨_, _, rfl, rfl, h⟩
  · cases h
theorem oD2_ok {S : List Value} {f : Int64 → List Value → OR} {g : Value → Value → List Value → OR} (h : oD2 S f g = some r) : (∃ v q, S = .long v :: q ∧ f v q = some r) ∨ ∃ v w q, S = v :: w :: q ∧ v.category = 1 ∧ w.category = 1 ∧ g v w q = some r := by
  unfold oD2 at h
  split at h
  · exact Or.inl ⟨_, _, rfl, h⟩
  · obtain ⟨v, q, rfl, e1, e2⟩ := o1_ok h
    obtain ⟨w, q', rfl, e3, e4⟩ := o1_ok e2
    exact Or.inr ⟨_, _, _, rfl, e1, e3, e4⟩
theorem oII_ok {S : List Value} {f : Int32 → Int32 → List Value → OR} (h : oII S f = some r) : ∃ x y q, S = .int y :: .int x :: q ∧ f x y q = some r := by
  unfold oII at h
  split at h
  · exact ⟨_, _, _, rfl, h⟩
  · cases h
theorem oJJ_ok {S : List Value} {f : Int64 → Int64 → List Value → OR} (h : oJJ S f = some r) : ∃ x y q, S = .long y :: .long x :: q ∧ f x y q = some r := by
  unfold oJJ at h
  split at h
  · exact ⟨_, _, _, rfl, h⟩
  · cases h
theorem oJI_ok {S : List Value} {f : Int64 → Int32 → List Value → OR} (h : oJI S f = some r) : ∃ x y q, S = .int y :: .long x :: q ∧ f x y q = some r := by
  unfold oJI at h
  split at h
  · exact ⟨_, _, _, rfl, h⟩
  · cases h
theorem oIR_ok {S : List Value} {f : Int32 → Addr → List Value → OR} (h : oIR S f = some r) : ∃ y x q, S = .int y :: .ref x :: q ∧ f y x q = some r := by
  unfold oIR at h
  split at h
  · exact ⟨_, _, _, rfl, h⟩
  · cases h
theorem oB_ok {o : List Value} {f g : List Value → OR} (h : oB o f g = some r) : (∃ o', f o' = some r) ∨ ∃ o', g o' = some r := by
  unfold oB at h
  split at h
  · exact Or.inl ⟨_, h⟩
  · exact Or.inr ⟨_, h⟩
  · cases h
theorem oV_ok {o : List Value} {f : Value → List Value → OR} (h : oV o f = some r) : ∃ v o', f v o' = some r := by
  unfold oV at h
  split at h
  · exact ⟨_, _, h⟩
  · cases h
theorem oN_ok {o : List Value} {f : Int32 → List Value → OR} (h : oN o f = some r) : ∃ v o', f v o' = some r := by
  unfold oN at h
  split at h
  · exact ⟨_, _, h⟩
  · cases h
theorem oM_ok {o : List Value} {f : Int64 → List Value → OR} (h : oM o f = some r) : ∃ v o', f v o' = some r := by
  unfold oM at h
  split at h
  · exact ⟨_, _, h⟩
  · cases h
theorem oTo_ok {pc : Nat} {d : Int} {f : Nat → OR} (h : oTo pc d f = some r) : ∃ q, 0 ≤ (pc : Int) + d ∧ ((pc : Int) + d).toNat = q ∧ f q = some r := by
  unfold oTo at h
  by_cases q : 0 ≤ (pc : Int) + d
  · simp only [q, decide_true, cond_true] at h
    exact ⟨_, q, rfl, h⟩
  · simp [q] at h
theorem bif_ok {n n' : Nat} {q : OR} (h : (bif Nat.beq n n' then q else none) = some r) : n = n' ∧ q = some r := by
  cases hb : Nat.beq n n'
  · rw [hb] at h; cases h
  · rw [hb] at h; exact ⟨Nat.eq_of_beq_eq_true hb, h⟩
theorem cII_ok {cd : ClassFile.Cond} {b : Bool} {x y : Int32} (h : cII cd b x y) : if_icmp.holds cd x y = b := by
  cases cd <;> cases b <;> simp only [cII] at h <;> simp [if_icmp.holds, h] <;> first | done | exact Int32.not_lt.mp h | exact Int32.not_le.mpr h | exact h
theorem cI0_ok {cd : ClassFile.Cond} {b : Bool} {x : Int32} (h : cII cd b x 0) : ifCond.holds cd x = b := by
  cases cd <;> cases b <;> simp only [cII] at h <;> simp [ifCond.holds, h] <;> first | done | exact Int32.not_lt.mp h | exact Int32.not_le.mpr h | exact h
theorem cAA_ok {cd : ClassFile.ACond} {b : Bool} {x y : Value} (h : cAA cd b x y) : XT.acmp cd x y = b := by
  cases cd <;> cases b <;> simp only [cAA] at h <;> simp [XT.acmp, h]
theorem lrem_mod (x y : Int64) : x - (x / y) * y = x % y := by
  apply Int64.toInt_inj.mp
  have h1 := Int64.le_toInt (x % y)
  have h2 := Int64.toInt_lt (x % y)
  rw [Int64.toInt_sub, Int64.toInt_mul, Int64.toInt_div, Int.bmod_mul_bmod, Int.sub_bmod_bmod, Int.mul_comm (x.toInt.tdiv y.toInt), ← Int.tmod_def, ← Int64.toInt_mod]
  exact Int.bmod_eq_of_le_mul_two (by omega) (by omega)
end OwnLaws
section OwnRun
variable {p : Program} {l : Launch} {e : Env} {R : Room} {s : State} {m : MethodId} {args : Array Value} {below : List Frame} {meth : Method} {c : Code} {T : State} {locs : List Loc} {cells slots : Nat} {Z : State} {a0 : Array Value} {h : Heap} {own : String}
set_option maxHeartbeats 4000000 in
theorem ost_ok (X : Stand p l e R s m args below meth c T locs cells slots) (hx : p.tables.exec = Jvm.exec) (hZ : Z.Warmed39 s.vm) (hown : s.vm.findClass own = some m.cls) (eT : T.heap = h) {i : Instr} {n pc : Nat} {L : Array Slot} {S o : List Value} {k : Nat → Array Slot → List Value → List Value → OR} {P : Prop} {x' : Nat × Array Slot × List Value} {target : State}
    (hr : ost Z h a0 own i n pc L S o k = some (P, x')) (hP : P) (hd : decode c.code pc = .ok (i, n)) (kk : ∀ pc L S o P', k pc L S o = some (P', x') → P' → Steps p.tables e below (T.setTop (mkF m pc L S)) target) : Steps p.tables e below (T.setTop (mkF m pc L S)) target := by
  unfold ost at hr
  split at hr
  · obtain ⟨rfl, hq⟩ := bif_ok hr
    obtain ⟨v, e1, e3⟩ := oLdI_ok hq
    exact XS.iload X.here hx rfl hd e1 (kk _ _ _ _ _ e3 hP)
  · obtain ⟨rfl, hq⟩ := bif_ok hr
    obtain ⟨v, e1, e3⟩ := oLdI_ok hq
    exact XS.iloadN X.here hx rfl hd e1 (kk _ _ _ _ _ e3 hP)
  · obtain ⟨rfl, hq⟩ := bif_ok hr
    obtain ⟨v, e1, e3⟩ := oLdJ_ok hq
    exact XT.lload X.here hx rfl hd e1 (kk _ _ _ _ _ e3 hP)
  · obtain ⟨rfl, hq⟩ := bif_ok hr
    obtain ⟨v, e1, e3⟩ := oLdJ_ok hq
    exact XT.lloadN X.here hx rfl hd e1 (kk _ _ _ _ _ e3 hP)
  · obtain ⟨rfl, hq⟩ := bif_ok hr
    rcases oG_ok hq with ⟨o', hr2⟩ | hr2
    · obtain ⟨v, e1, e3⟩ := oLdG_ok hr2
      obtain ⟨P', h1, h2, e4⟩ := oAnd_ok e3 hP
      exact XS.aload X.here hx rfl hd e1 h1 (kk _ _ _ _ _ e4 h2)
    · obtain ⟨v, e1, e2, e3⟩ := oLdA_ok hr2
      exact XS.aload X.here hx rfl hd e1 e2 (kk _ _ _ _ _ e3 hP)
  · obtain ⟨rfl, hq⟩ := bif_ok hr
    rcases oG_ok hq with ⟨o', hr2⟩ | hr2
    · obtain ⟨v, e1, e3⟩ := oLdG_ok hr2
      obtain ⟨P', h1, h2, e4⟩ := oAnd_ok e3 hP
      exact XS.aloadN X.here hx rfl hd e1 h1 (kk _ _ _ _ _ e4 h2)
    · obtain ⟨v, e1, e2, e3⟩ := oLdA_ok hr2
      exact XS.aloadN X.here hx rfl hd e1 e2 (kk _ _ _ _ _ e3 hP)
  · obtain ⟨rfl, hq⟩ := bif_ok hr
    obtain ⟨v, r, rfl, e3⟩ := oI_ok hq
    obtain ⟨L', e4, e5⟩ := oSt_ok e3
    exact XS.istore X.here hx rfl hd rfl e4 (kk _ _ _ _ _ e5 hP)
  · obtain ⟨rfl, hq⟩ := bif_ok hr
    obtain ⟨v, r, rfl, e3⟩ := oI_ok hq
    obtain ⟨L', e4, e5⟩ := oSt_ok e3
    exact XS.istoreN X.here hx rfl hd rfl e4 (kk _ _ _ _ _ e5 hP)
  · obtain ⟨rfl, hq⟩ := bif_ok hr
    obtain ⟨v, r, rfl, e3⟩ := oJ_ok hq
    obtain ⟨L', e4, e5⟩ := oSt_ok e3
    exact XT.lstore X.here hx rfl hd rfl e4 (kk _ _ _ _ _ e5 hP)
  · obtain ⟨rfl, hq⟩ := bif_ok hr
    obtain ⟨v, r, rfl, e3⟩ := oJ_ok hq
    obtain ⟨L', e4, e5⟩ := oSt_ok e3
    exact XT.lstoreN X.here hx rfl hd rfl e4 (kk _ _ _ _ _ e5 hP)
  · obtain ⟨rfl, hq⟩ := bif_ok hr
    rcases oG_ok hq with ⟨o', hr2⟩ | hr2
    · obtain ⟨v, r, rfl, e3⟩ := oTop_ok hr2
      obtain ⟨P', h1, h2, e4⟩ := oAnd_ok e3 hP
      obtain ⟨L', e5, e6⟩ := oStG_ok e4 h1
      exact XS.astore X.here hx rfl hd rfl h1 e5 (kk _ _ _ _ _ e6 h2)
    · obtain ⟨v, r, rfl, e2, e3⟩ := oA_ok hr2
      obtain ⟨L', e4, e5⟩ := oSt_ok e3
      exact XS.astore X.here hx rfl hd rfl e2 e4 (kk _ _ _ _ _ e5 hP)
  · obtain ⟨rfl, hq⟩ := bif_ok hr
    rcases oG_ok hq with ⟨o', hr2⟩ | hr2
    · obtain ⟨v, r, rfl, e3⟩ := oTop_ok hr2
      obtain ⟨P', h1, h2, e4⟩ := oAnd_ok e3 hP
      obtain ⟨L', e5, e6⟩ := oStG_ok e4 h1
      exact XS.astoreN X.here hx rfl hd rfl h1 e5 (kk _ _ _ _ _ e6 h2)
    · obtain ⟨v, r, rfl, e2, e3⟩ := oA_ok hr2
      obtain ⟨L', e4, e5⟩ := oSt_ok e3
      exact XS.astoreN X.here hx rfl hd rfl e2 e4 (kk _ _ _ _ _ e5 hP)
  · obtain ⟨rfl, hq⟩ := bif_ok hr
    exact XS.iconst X.here hx rfl hd (kk _ _ _ _ _ hq hP)
  · obtain ⟨rfl, hq⟩ := bif_ok hr
    exact XS.bipush X.here hx rfl hd (kk _ _ _ _ _ hq hP)
  · obtain ⟨rfl, hq⟩ := bif_ok hr
    exact XS.sipush X.here hx rfl hd (kk _ _ _ _ _ hq hP)
  · obtain ⟨rfl, hq⟩ := bif_ok hr
    exact XT.lconst X.here hx rfl hd (kk _ _ _ _ _ hq hP)
  · obtain ⟨rfl, hq⟩ := bif_ok hr
    exact XS.aconstNull X.here hx rfl hd (kk _ _ _ _ _ hq hP)
  · obtain ⟨rfl, hq⟩ := bif_ok hr
    obtain ⟨x, y, r, rfl, e3⟩ := oII_ok hq
    exact XS.iadd X.here hx rfl hd rfl (kk _ _ _ _ _ e3 hP)
  · obtain ⟨rfl, hq⟩ := bif_ok hr
    obtain ⟨x, y, r, rfl, e3⟩ := oII_ok hq
    exact XS.isub X.here hx rfl hd rfl (kk _ _ _ _ _ e3 hP)
  · obtain ⟨rfl, hq⟩ := bif_ok hr
    obtain ⟨x, y, r, rfl, e3⟩ := oII_ok hq
    exact XS.imul X.here hx rfl hd rfl (kk _ _ _ _ _ e3 hP)
  · obtain ⟨rfl, hq⟩ := bif_ok hr
    obtain ⟨x, y, r, rfl, e3⟩ := oII_ok hq
    exact XS.iand X.here hx rfl hd rfl (kk _ _ _ _ _ e3 hP)
  · obtain ⟨rfl, hq⟩ := bif_ok hr
    obtain ⟨x, y, r, rfl, e3⟩ := oII_ok hq
    exact XT.ior X.here hx rfl hd rfl (kk _ _ _ _ _ e3 hP)
  · obtain ⟨rfl, hq⟩ := bif_ok hr
    obtain ⟨x, y, r, rfl, e3⟩ := oII_ok hq
    exact XT.ixor X.here hx rfl hd rfl (kk _ _ _ _ _ e3 hP)
  · obtain ⟨rfl, hq⟩ := bif_ok hr
    obtain ⟨x, y, r, rfl, e3⟩ := oII_ok hq
    exact XT.ishl X.here hx rfl hd rfl (kk _ _ _ _ _ e3 hP)
  · obtain ⟨rfl, hq⟩ := bif_ok hr
    obtain ⟨x, y, r, rfl, e3⟩ := oII_ok hq
    exact XT.ishr X.here hx rfl hd rfl (kk _ _ _ _ _ e3 hP)
  · obtain ⟨rfl, hq⟩ := bif_ok hr
    obtain ⟨x, y, r, rfl, e3⟩ := oII_ok hq
    exact XT.iushr X.here hx rfl hd rfl (kk _ _ _ _ _ e3 hP)
  · obtain ⟨rfl, hq⟩ := bif_ok hr
    obtain ⟨x, y, r, rfl, e3⟩ := oII_ok hq
    obtain ⟨P', h1, h2, e4⟩ := oAnd_ok e3 hP
    exact XS.idiv X.here hx rfl hd rfl h1 (kk _ _ _ _ _ e4 h2)
  · obtain ⟨rfl, hq⟩ := bif_ok hr
    obtain ⟨x, y, r, rfl, e3⟩ := oII_ok hq
    obtain ⟨P', h1, h2, e4⟩ := oAnd_ok e3 hP
    exact iremM X hx rfl hd rfl h1 (kk _ _ _ _ _ e4 h2)
  · obtain ⟨rfl, hq⟩ := bif_ok hr
    obtain ⟨x, y, r, rfl, e3⟩ := oJJ_ok hq
    exact XT.ladd X.here hx rfl hd rfl (kk _ _ _ _ _ e3 hP)
  · obtain ⟨rfl, hq⟩ := bif_ok hr
    obtain ⟨x, y, r, rfl, e3⟩ := oJJ_ok hq
    exact XT.lsub X.here hx rfl hd rfl (kk _ _ _ _ _ e3 hP)
  · obtain ⟨rfl, hq⟩ := bif_ok hr
    obtain ⟨x, y, r, rfl, e3⟩ := oJJ_ok hq
    exact XT.lmul X.here hx rfl hd rfl (kk _ _ _ _ _ e3 hP)
  · obtain ⟨rfl, hq⟩ := bif_ok hr
    obtain ⟨x, y, r, rfl, e3⟩ := oJJ_ok hq
    exact XT.land X.here hx rfl hd rfl (kk _ _ _ _ _ e3 hP)
  · obtain ⟨rfl, hq⟩ := bif_ok hr
    obtain ⟨x, y, r, rfl, e3⟩ := oJJ_ok hq
    exact XT.lor X.here hx rfl hd rfl (kk _ _ _ _ _ e3 hP)
  · obtain ⟨rfl, hq⟩ := bif_ok hr
    obtain ⟨x, y, r, rfl, e3⟩ := oJJ_ok hq
    exact XT.lxor X.here hx rfl hd rfl (kk _ _ _ _ _ e3 hP)
  · obtain ⟨rfl, hq⟩ := bif_ok hr
    obtain ⟨x, y, r, rfl, e3⟩ := oJJ_ok hq
    exact XT.lcmp X.here hx rfl hd rfl (kk _ _ _ _ _ e3 hP)
  · obtain ⟨rfl, hq⟩ := bif_ok hr
    obtain ⟨x, y, r, rfl, e3⟩ := oJJ_ok hq
    obtain ⟨P', h1, h2, e4⟩ := oAnd_ok e3 hP
    exact XT.ldiv X.here hx rfl hd rfl h1 (kk _ _ _ _ _ e4 h2)
  · obtain ⟨rfl, hq⟩ := bif_ok hr
    obtain ⟨x, y, r, rfl, e3⟩ := oJJ_ok hq
    obtain ⟨P', h1, h2, e4⟩ := oAnd_ok e3 hP
    exact XT.lrem X.here hx rfl hd rfl h1 (by rw [lrem_mod]; exact kk _ _ _ _ _ e4 h2)
  · obtain ⟨rfl, hq⟩ := bif_ok hr
    obtain ⟨x, y, r, rfl, e3⟩ := oJI_ok hq
    exact XT.lshl X.here hx rfl hd rfl (kk _ _ _ _ _ e3 hP)
  · obtain ⟨rfl, hq⟩ := bif_ok hr
    obtain ⟨x, y, r, rfl, e3⟩ := oJI_ok hq
    exact XT.lshr X.here hx rfl hd rfl (kk _ _ _ _ _ e3 hP)
  · obtain ⟨rfl, hq⟩ := bif_ok hr
    obtain ⟨x, y, r, rfl, e3⟩ := oJI_ok hq
    exact XT.lushr X.here hx rfl hd rfl (kk _ _ _ _ _ e3 hP)
  · obtain ⟨rfl, hq⟩ := bif_ok hr
    obtain ⟨v, r, rfl, e3⟩ := oI_ok hq
    exact XS.ineg X.here hx rfl hd rfl (kk _ _ _ _ _ e3 hP)
  · obtain ⟨rfl, hq⟩ := bif_ok hr
    obtain ⟨v, r, rfl, e3⟩ := oI_ok hq
    exact XT.i2l X.here hx rfl hd rfl (kk _ _ _ _ _ e3 hP)
  · obtain ⟨rfl, hq⟩ := bif_ok hr
    obtain ⟨v, r, rfl, e3⟩ := oI_ok hq
    exact XT.i2b X.here hx rfl hd rfl (kk _ _ _ _ _ e3 hP)
  · obtain ⟨rfl, hq⟩ := bif_ok hr
    obtain ⟨v, r, rfl, e3⟩ := oI_ok hq
    exact XT.i2c X.here hx rfl hd rfl (kk _ _ _ _ _ e3 hP)
  · obtain ⟨rfl, hq⟩ := bif_ok hr
    obtain ⟨v, r, rfl, e3⟩ := oI_ok hq
    exact XT.i2s X.here hx rfl hd rfl (kk _ _ _ _ _ e3 hP)
  · obtain ⟨rfl, hq⟩ := bif_ok hr
    obtain ⟨v, r, rfl, e3⟩ := oJ_ok hq
    exact XT.lneg X.here hx rfl hd rfl (kk _ _ _ _ _ e3 hP)
  · obtain ⟨rfl, hq⟩ := bif_ok hr
    obtain ⟨v, r, rfl, e3⟩ := oJ_ok hq
    exact XT.l2i X.here hx rfl hd rfl (kk _ _ _ _ _ e3 hP)
  · obtain ⟨rfl, hq⟩ := bif_ok hr
    obtain ⟨v, r, rfl, e2, e3⟩ := o1_ok hq
    exact XS.dup X.here hx rfl hd rfl e2 (kk _ _ _ _ _ e3 hP)
  · obtain ⟨rfl, hq⟩ := bif_ok hr
    obtain ⟨v, r, rfl, e2, e3⟩ := o1_ok hq
    exact XT.pop X.here hx rfl hd rfl e2 (kk _ _ _ _ _ e3 hP)
  · obtain ⟨rfl, hq⟩ := bif_ok hr
    obtain ⟨v, r, rfl, e2, e3⟩ := o1_ok hq
    obtain ⟨w, r', rfl, e4, e5⟩ := o1_ok e3
    exact XT.dupX1 X.here hx rfl hd rfl e2 e4 (kk _ _ _ _ _ e5 hP)
  · obtain ⟨rfl, hq⟩ := bif_ok hr
    rcases oD2_ok hq with ⟨v, r, rfl, e3⟩ | ⟨v, w, r, rfl, e1, e2, e3⟩
    · exact XT.dup2L X.here hx rfl hd rfl (kk _ _ _ _ _ e3 hP)
    · exact XT.dup2 X.here hx rfl hd rfl e1 e2 (kk _ _ _ _ _ e3 hP)
  · obtain ⟨rfl, hq⟩ := bif_ok hr
    obtain ⟨v, e1, e3⟩ := oLdI'_ok hq
    obtain ⟨L', e4, e5⟩ := oSt_ok e3
    exact XS.iinc X.here hx rfl hd e1 e4 (kk _ _ _ _ _ e5 hP)
  · obtain ⟨rfl, hq⟩ := bif_ok hr
    obtain ⟨q, e1, e2, e3⟩ := oTo_ok hq
    exact XS.goto X.here hx rfl rfl hd e1 e2 (kk _ _ _ _ _ e3 hP)
  · obtain ⟨rfl, hq⟩ := bif_ok hr
    obtain ⟨v, r, rfl, e3⟩ := oI_ok hq
    rcases oB_ok e3 with ⟨o', e4⟩ | ⟨o', e4⟩
    · obtain ⟨P', h1, h2, e5⟩ := oAnd_ok e4 hP
      obtain ⟨q, e6, e7, e8⟩ := oTo_ok e5
      exact XS.ifYes X.here hx rfl rfl hd rfl (cI0_ok h1) e6 e7 (kk _ _ _ _ _ e8 h2)
    · obtain ⟨P', h1, h2, e5⟩ := oAnd_ok e4 hP
      exact XS.ifNo X.here hx rfl hd rfl (cI0_ok h1) (kk _ _ _ _ _ e5 h2)
  · obtain ⟨rfl, hq⟩ := bif_ok hr
    obtain ⟨x, y, r, rfl, e3⟩ := oII_ok hq
    rcases oB_ok e3 with ⟨o', e4⟩ | ⟨o', e4⟩
    · obtain ⟨P', h1, h2, e5⟩ := oAnd_ok e4 hP
      obtain ⟨q, e6, e7, e8⟩ := oTo_ok e5
      exact XS.icmpYes X.here hx rfl rfl hd rfl (cII_ok h1) e6 e7 (kk _ _ _ _ _ e8 h2)
    · obtain ⟨P', h1, h2, e5⟩ := oAnd_ok e4 hP
      exact XS.icmpNo X.here hx rfl hd rfl (cII_ok h1) (kk _ _ _ _ _ e5 h2)
  · obtain ⟨rfl, hq⟩ := bif_ok hr
    rcases oNul_ok hq with ⟨r, rfl, e3⟩ | ⟨b, r, rfl, e3⟩
    · obtain ⟨q, e6, e7, e8⟩ := oTo_ok e3
      exact XS.ifnullYes X.here hx rfl rfl hd rfl e6 e7 (kk _ _ _ _ _ e8 hP)
    · exact XS.ifnullNo X.here hx rfl hd rfl (kk _ _ _ _ _ e3 hP)
  · obtain ⟨rfl, hq⟩ := bif_ok hr
    rcases oNul_ok hq with ⟨r, rfl, e3⟩ | ⟨b, r, rfl, e3⟩
    · exact XT.ifnonnullNo X.here hx rfl hd rfl (kk _ _ _ _ _ e3 hP)
    · obtain ⟨q, e6, e7, e8⟩ := oTo_ok e3
      exact XT.ifnonnullYes X.here hx rfl rfl hd rfl e6 e7 (kk _ _ _ _ _ e8 hP)
  · obtain ⟨rfl, hq⟩ := bif_ok hr
    obtain ⟨y, r1, rfl, ey, e2⟩ := oA_ok hq
    obtain ⟨x, r, rfl, ex, e3⟩ := oA_ok e2
    rcases oB_ok e3 with ⟨o', e4⟩ | ⟨o', e4⟩
    · obtain ⟨P', h1, h2, e5⟩ := oAnd_ok e4 hP
      obtain ⟨q, e6, e7, e8⟩ := oTo_ok e5
      exact XT.acmpYes X.here hx rfl rfl hd rfl ex ey (cAA_ok h1) e6 e7 (kk _ _ _ _ _ e8 h2)
    · obtain ⟨P', h1, h2, e5⟩ := oAnd_ok e4 hP
      exact XT.acmpNo X.here hx rfl hd rfl ex ey (cAA_ok h1) (kk _ _ _ _ _ e5 h2)
  · obtain ⟨rfl, hq⟩ := bif_ok hr
    obtain ⟨j, a, r, rfl, e3⟩ := oIR_ok hq
    obtain ⟨v, o', e4⟩ := oV_ok e3
    obtain ⟨P', ⟨cl, h1, h3, h4⟩, h2, e5⟩ := oAnd_ok e4 hP
    exact X.iaload hx (by rw [eT]; exact h1.1) (State.isArrayOf_alike hZ.alike h1.2.1) h1.2.2 h3 h4 (g := mkF m pc L _) rfl rfl hd _ (kk _ _ _ _ _ e5 h2)
  · obtain ⟨rfl, hq⟩ := bif_ok hr
    obtain ⟨j, a, r, rfl, e3⟩ := oIR_ok hq
    obtain ⟨v, o', e4⟩ := oV_ok e3
    obtain ⟨P', ⟨cl, h1, h3, h4⟩, h2, e5⟩ := oAnd_ok e4 hP
    exact X.laload hx (by rw [eT]; exact h1.1) (State.isArrayOf_alike hZ.alike h1.2.1) h1.2.2 h3 h4 (g := mkF m pc L _) rfl rfl hd _ (kk _ _ _ _ _ e5 h2)
  · obtain ⟨rfl, hq⟩ := bif_ok hr
    obtain ⟨j, a, r, rfl, e3⟩ := oIR_ok hq
    obtain ⟨v, o', e4⟩ := oV_ok e3
    obtain ⟨P', ⟨cl, h1, h3, h4⟩, h2, e5⟩ := oAnd_ok e4 hP
    exact X.caload hx (by rw [eT]; exact h1.1) (State.isArrayOf_alike hZ.alike h1.2.1) h1.2.2 h3 h4 (g := mkF m pc L _) rfl rfl hd _ (kk _ _ _ _ _ e5 h2)
  · obtain ⟨rfl, hq⟩ := bif_ok hr
    obtain ⟨j, a, r, rfl, e3⟩ := oIR_ok hq
    obtain ⟨v, o', e4⟩ := oV_ok e3
    obtain ⟨P', ⟨cl, h1, h3, h4⟩, h2, e5⟩ := oAnd_ok e4 hP
    exact X.baloadBytes hx (by rw [eT]; exact h1.1) (State.isArrayOf_alike hZ.alike h1.2.1) h1.2.2 h3 h4 (g := mkF m pc L _) rfl rfl hd _ (kk _ _ _ _ _ e5 h2)
  · obtain ⟨rfl, hq⟩ := bif_ok hr
    obtain ⟨j, a, r, rfl, e3⟩ := oIR_ok hq
    obtain ⟨v, o', e4⟩ := oV_ok e3
    obtain ⟨P', ⟨ty, hty, cl, h1, h3, h4⟩, h2, e5⟩ := oAnd_ok e4 hP
    exact X.aaload hx (by rw [eT]; exact h1.1) (State.isArrayOf_alike hZ.alike h1.2.1) hty h1.2.2 h3 h4 (g := mkF m pc L _) rfl rfl hd _ (kk _ _ _ _ _ e5 h2)
  · obtain ⟨rfl, hq⟩ := bif_ok hr
    obtain ⟨a, r, rfl, e3⟩ := oR_ok hq
    obtain ⟨n, o', e4⟩ := oN_ok e3
    obtain ⟨P', ⟨cl, ty, h1, rfl⟩, h2, e5⟩ := oAnd_ok e4 hP
    exact X.arraylength hx (by rw [eT]; exact h1.1) (State.isArrayOf_alike hZ.alike h1.2.1) (g := mkF m pc L _) rfl rfl hd _ (kk _ _ _ _ _ e5 h2)
  · obtain ⟨rfl, hq⟩ := bif_ok hr
    obtain ⟨v, o', e4⟩ := oN_ok hq
    obtain ⟨P', h1, h2, e5⟩ := oAnd_ok e4 hP
    exact Stand.ldcI X hx hown (mvT hZ h1) rfl hd (kk _ _ _ _ _ e5 h2)
  · obtain ⟨rfl, hq⟩ := bif_ok hr
    obtain ⟨v, o', e4⟩ := oN_ok hq
    obtain ⟨P', h1, h2, e5⟩ := oAnd_ok e4 hP
    exact Stand.ldcWI X hx hown (mvT hZ h1) rfl hd (kk _ _ _ _ _ e5 h2)
  · obtain ⟨rfl, hq⟩ := bif_ok hr
    obtain ⟨v, o', e4⟩ := oM_ok hq
    obtain ⟨P', h1, h2, e5⟩ := oAnd_ok e4 hP
    exact Stand.ldc2J X hx hown (mvT hZ h1) rfl hd (kk _ _ _ _ _ e5 h2)
  · cases hr
theorem orun_ok (X : Stand p l e R s m args below meth c T locs cells slots) (hx : p.tables.exec = Jvm.exec) (hZ : Z.Warmed39 s.vm) (hown : s.vm.findClass own = some m.cls) (eT : T.heap = h) {b : ByteArray} (hby : c.code = b) {target : State} : ∀ (t : OTr) (o : List Value) (pc : Nat) (L : Array Slot) (S : List Value) (P : Prop) (pc' : Nat) (L' : Array Slot) (S' : List Value),
    okB b t = true → orun Z h a0 own t o pc L S = some (P, pc', L', S') → P → Steps p.tables e below (T.setTop (mkF m pc' L' S')) target → Steps p.tables e below (T.setTop (mkF m pc L S)) target
  | [], o, pc, L, S, P, pc', L', S', _, hr, _, hs => by
    simp only [orun, Option.some.injEq, Prod.mk.injEq] at hr
    obtain ⟨-, rfl, rfl, rfl⟩ := hr
    exact hs
  | y :: t, o, pc, L, S, P, pc', L', S', hok, hr, hP, hs => by
    simp only [okB, List.all_cons, Bool.and_eq_true, decide_eq_true_eq] at hok
    obtain ⟨h1, h2⟩ := bif_ok hr
    subst h1
    exact ost_ok X hx hZ hown eT h2 hP (hb hby hok.1) fun pc L S o P' q hP' => orun_ok X hx hZ hown eT hby t o pc L S P' pc' L' S' hok.2 q hP' hs
end OwnRun
theorem nb1 : nar .boolean (1 : Int32) = 1 := by decide
theorem nb0 : nar .boolean (0 : Int32) = 0 := by decide
theorem sb1 : some (Value.int (nar .boolean (1 : Int32))) = some (.int 1) := by rw [nb1]
theorem sb0 : some (Value.int (nar .boolean (0 : Int32))) = some (.int 0) := by rw [nb0]
section OwnGo
/-- where the run stands (the narrow frame): its heap is h; what was written lies in new cells -/
def Nw (Z : State) (n0 : Nat) (h : Heap) (p : Program) (l : Launch) (e : Env) (R : Room) (s : State) (m : MethodId) (args : Array Value) (below : List Frame) (meth : Method) (c : Code) (T : State) (cells slots : Nat) : Prop :=
  ∃ locs, Stand p l e R s m args below meth c T locs cells slots ∧ T.heap = h ∧ Fr n0 locs ∧ n0 ≤ h.size ∧ Z.Warmed39 s.vm
def Cx (Z : State) (own : String) (b : ByteArray) (ml : Nat) (p : Program) (m : MethodId) (c : Code) : Prop := p.tables.exec = Jvm.exec ∧ Z.vm.findClass own = some m.cls ∧ c.code = b ∧ c.maxLocals = ml
def Ld (p : Program) (e : Env) (below : List Frame) (T : State) (g : JFrame) (T' : State) (g' : JFrame) : Prop := ∀ target, Steps p.tables e below (T'.setTop g') target → Steps p.tables e below (T.setTop g) target
/-- the frame returns v -/
def Fn (p : Program) (e : Env) (below : List Frame) (m : MethodId) (T : State) (g : JFrame) (v : Option Value) : Prop :=
  ∀ fs : List Frame, (∀ (f : JFrame) (acts : List Action), f.method = m → f.locked = none → f.entered = [] → (doReturn e (T.setTop f) acts v).1 = T.setFrames fs) → Steps p.tables e below (T.setTop g) (T.setFrames fs)
variable {p : Program} {l : Launch} {e : Env} {R : Room} {s : State} {m : MethodId} {args : Array Value} {below : List Frame} {meth : Method} {c : Code} {T T1 T2 : State} {cells slots : Nat} {Z : State} {a0 : Array Value} {h h1 h2 : Heap} {own : String} {n0 : Nat} {b : ByteArray} {ml : Nat} {g g1 g2 : JFrame}
theorem Ld.refl : Ld p e below T g T g := fun _ k => k
theorem Ld.trans (A : Ld p e below T g T1 g1) (B : Ld p e below T1 g1 T2 g2) : Ld p e below T g T2 g2 := fun t k => A t (B t k)
theorem Ld.cast {g' : JFrame} (A : Ld p e below T g T1 g1) (q : g1 = g') : Ld p e below T g T1 g' := q ▸ A
theorem Nw.size (N : Nw Z n0 h p l e R s m args below meth c T cells slots) : n0 ≤ h.size := by obtain ⟨_, _, _, _, q, _⟩ := N; exact q
theorem Nw.mono {cells' slots' : Nat} (N : Nw Z n0 h p l e R s m args below meth c T cells slots) (q1 : cells ≤ cells') (q2 : slots ≤ slots') : Nw Z n0 h p l e R s m args below meth c T cells' slots' := by
  obtain ⟨L, X, r⟩ := N; exact ⟨L, X.mono q1 q2, r⟩
theorem Nw.old (N : Nw Z n0 h p l e R s m args below meth c T cells slots) (O : Old Z n0 s.heap) : Old Z n0 h := by
  obtain ⟨locs, X, eT, F, q, hZ⟩ := N
  subst eT
  obtain ⟨-, s2, -, -, -, s6⟩ := X.same
  refine ⟨O.1, Nat.le_trans O.2.1 s2, fun a c hc => ?_⟩
  obtain ⟨c', h1, h2, h3, h4⟩ := s6 a c (O.2.2 a c hc)
  have ha : a < n0 := O.1 ▸ (Array.getElem?_eq_some_iff.mp hc).1
  have e : c'.slots = c.slots := Array.ext_getElem? fun i => h4 i fun q => absurd (F _ q) (Nat.not_le.mpr ha)
  rw [e] at h2
  exact h1.trans (by rw [h2])
theorem cx_own (K : Cx Z own b ml p m c) (hZ : Z.Warmed39 s.vm) : s.vm.findClass own = some m.cls := by rw [hZ.alike.findClass]; exact K.2.1
theorem goRun (K : Cx Z own b ml p m c) (N : Nw Z n0 h p l e R s m args below meth c T cells slots) (a0 : Array Value) (t : OTr) (o : List Value) {pc : Nat} {L : Array Slot} {S : List Value} {P : Prop} {pc' : Nat} {L' : Array Slot} {S' : List Value}
    (ok : okB b t = true) (hr : orun Z h a0 own t o pc L S = some (P, pc', L', S')) (hP : P) : Ld p e below T (mkF m pc L S) T (mkF m pc' L' S') := fun _ k => by
  obtain ⟨_, X, eT, _, _, hZ⟩ := N
  exact orun_ok X K.1 hZ (cx_own K hZ) eT K.2.2.1 t o pc L S P pc' L' S' ok hr hP k
theorem goNew (K : Cx Z own b ml p m c) (N : Nw Z n0 h p l e R s m args below meth c T cells slots) {C : String} {index n : Nat} (w : (Jvm.Cond.classLink own index C).before a0 Z = true) (wi : (Jvm.Cond.instantiable C n).before a0 Z = true) (wz : (Jvm.Cond.initialized C).before a0 Z = true)
    {pc : Nat} {L : Array Slot} {S : List Value} (hd : decode b pc = .ok (.new index, 3)) (hc : cells + 1 ≤ R.cells) (hl : slots + n ≤ R.slots) :
    ∃ T' h' a, a = h.size ∧ Nw Z n0 h' p l e R s m args below meth c T' (cells + 1) (slots + n) ∧ Ext h h' ∧ Exa Z h' a C ∧ (∀ {O nm d : String} {ty : FieldType}, Laid Z a0 C O nm d → parseFieldDescriptor d = some ty → Fld Z h' a O nm d (defaultValue ty)) ∧ Ld p e below T (mkF m pc L S) T' (mkF m (pc + 3) L (.ref a :: S)) := by
  obtain ⟨Lc, X, eT, F, q, hZ⟩ := N
  obtain ⟨T', h', X', e', E, A, D, -, st⟩ := newO X K.1 hZ (cx_own K hZ) w wi wz eT (g := mkF m pc L S) rfl (hb K.2.2.1 hd) hc hl
  exact ⟨T', h', _, rfl, ⟨Lc, X', e', F, Nat.le_trans q E.1, hZ⟩, E, A, D, st⟩
theorem goGet (K : Cx Z own b ml p m c) (N : Nw Z n0 h p l e R s m args below meth c T cells slots) {O n d : String} {index : Nat} (w : (Jvm.Cond.fieldLink own index O n d).before a0 Z = true) {a : Addr} {v : Value} (F : Fld Z h a O n d v)
    {pc : Nat} {L : Array Slot} {S : List Value} (hd : decode b pc = .ok (.getfield index, 3)) : ∃ T', Nw Z n0 h p l e R s m args below meth c T' cells slots ∧ Ld p e below T (mkF m pc L (.ref a :: S)) T' (mkF m (pc + 3) L (v :: S)) := by
  obtain ⟨Lc, X, eT, r, q, hZ⟩ := N
  obtain ⟨T', X', e', st⟩ := getF X K.1 hZ (cx_own K hZ) (host := "") (Or.inl w) Via.refl eT F (g := mkF m pc L (.ref a :: S)) rfl rfl (hb K.2.2.1 hd)
  exact ⟨T', ⟨Lc, X', e', r, q, hZ⟩, st⟩
theorem goSta (K : Cx Z own b ml p m c) (N : Nw Z n0 h p l e R s m args below meth c T cells slots) {O n d : String} {index : Nat} (w : (Jvm.Cond.fieldLink own index O n d).before a0 Z = true) {v : Value} (F : Sta Z h O n d v)
    {pc : Nat} {L : Array Slot} {S : List Value} (hd : decode b pc = .ok (.getstatic index, 3)) : ∃ T', Nw Z n0 h p l e R s m args below meth c T' cells slots ∧ Ld p e below T (mkF m pc L S) T' (mkF m (pc + 3) L (v :: S)) := by
  obtain ⟨Lc, X, eT, r, q, hZ⟩ := N
  obtain ⟨T', X', e', st⟩ := getS (host := "") X K.1 hZ (cx_own K hZ) w Via.refl eT F (g := mkF m pc L S) rfl (hb K.2.2.1 hd)
  exact ⟨T', ⟨Lc, X', e', r, q, hZ⟩, st⟩
theorem goPut (K : Cx Z own b ml p m c) (N : Nw Z n0 h p l e R s m args below meth c T cells slots) {O n d C : String} {index kk : Nat} {ty : FieldType} (w : (Jvm.Cond.fieldLink own index O n d).before a0 Z = true) {a : Addr} {v old : Value} (F : Fld Z h a O n d old) (E : Exa Z h a C)
    (Ly : (Jvm.Cond.lays C O n d).before a0 Z = true ∨ ((Jvm.Cond.laysFinal C O n d).before a0 Z = true ∧ own = O ∧ meth.name = "<init>")) (wi : (Jvm.Cond.instantiable C kk).before a0 Z = true) (hty : parseFieldDescriptor d = some ty) (hn : narrow ty v = v) (hf : fits ty v = true) (ha : n0 ≤ a)
    {pc : Nat} {L : Array Slot} {S : List Value} (hd : decode b pc = .ok (.putfield index, 3)) :
    ∃ T' h', Nw Z n0 h' p l e R s m args below meth c T' cells slots ∧ Wr h h' a (Jvm.RoadKit.slotOf Z O n d) v ∧ Ld p e below T (mkF m pc L (v :: .ref a :: S)) T' (mkF m (pc + 3) L S) := by
  obtain ⟨Lc, X, eT, r, q, hZ⟩ := N
  obtain ⟨T', h', X', e', W, st⟩ := putF X K.1 hZ (cx_own K hZ) (host := "") (Or.inl w) Via.refl eT F E Ly wi hty hn hf (g := mkF m pc L (v :: .ref a :: S)) rfl rfl (hb K.2.2.1 hd)
  exact ⟨T', h', ⟨_, X', e', Fr.snoc X' r ha, by rw [W.size]; exact q, hZ⟩, W, st⟩
theorem goInit (K : Cx Z own b ml p m c) (N : Nw Z n0 h p l e R s m args below meth c T cells slots) {index : Nat} (w1 : (Jvm.Cond.methodLink own index ⟨"java/lang/Object", "<init>", "()V"⟩).before a0 Z = true) (w2 : (Jvm.Cond.instanceMethod ⟨"java/lang/Object", "<init>", "()V"⟩).before a0 Z = true) {ob : ByteArray} (w3 : (Jvm.Cond.code ⟨"java/lang/Object", "<init>", "()V"⟩ ob 1 none).before a0 Z = true) (ho : ob = ⟨#[0xb1]⟩)
    {a : Addr} {pc : Nat} {L : Array Slot} {S : List Value} (hsz : L.size = ml) (hd : decode b pc = .ok (.invokespecial index, 3)) (hf : 1 ≤ R.frames) {W : Nat} (hW : (S.map fun v => v.category).sum ≤ W) (hlo : W + 12 ≤ R.locals) :
    ∃ T', Nw Z n0 h p l e R s m args below meth c T' cells slots ∧ Ld p e below T (mkF m pc L (.ref a :: S)) T' (mkF m (pc + 3) L S) := by
  subst ho
  obtain ⟨Lc, X, eT, r, q, hZ⟩ := N
  obtain ⟨T', X', e', st⟩ := initO X K.1 hZ (cx_own K hZ) w1 w2 w3 eT (g := mkF m pc L (.ref a :: S)) rfl (by rw [K.2.2.2]; exact hsz) rfl (hb K.2.2.1 hd) hf (W := W) (by show 2 * 0 + _ ≤ _; omega) hlo
  exact ⟨T', ⟨Lc, X', e', r, q, hZ⟩, st⟩
theorem goNewP (K : Cx Z own b ml p m c) (N : Nw Z n0 h p l e R s m args below meth c T cells slots) {aty : ArrayType} (w : (Jvm.Cond.arrayClass (newarray.typeOf aty)).before a0 Z = true) {n : Int32} (hn : ¬ n < 0) {cap : Nat} (hcap : n.toNatClampNeg ≤ cap) (hbg : cap * 8 ≤ 536870912) (hc : cells + 1 ≤ R.cells) (hl : slots + cap ≤ R.slots)
    {pc : Nat} {L : Array Slot} {S : List Value} (hd : decode b pc = .ok (.newarray aty, 2)) :
    ∃ T' h' a cA, a = h.size ∧ Nw Z n0 h' p l e R s m args below meth c T' (cells + 1) (slots + cap) ∧ Ext h h' ∧ Arr Z h' a (newA cA (newarray.typeOf aty) n) (newarray.typeOf aty) ∧ Ld p e below T (mkF m pc L (.int n :: S)) T' (mkF m (pc + 2) L (.ref a :: S)) := by
  obtain ⟨Lc, X, eT, r, q, hZ⟩ := N
  obtain ⟨T', h', cA, X', e', E, A, st⟩ := newP X K.1 hZ w eT (g := mkF m pc L (.int n :: S)) rfl (hb K.2.2.1 hd) rfl hn hcap hbg hc hl
  exact ⟨T', h', _, cA, rfl, ⟨Lc, X', e', r, Nat.le_trans q E.1, hZ⟩, E, A, st⟩
theorem goStI (K : Cx Z own b ml p m c) (N : Nw Z n0 h p l e R s m args below meth c T cells slots) {a : Addr} {cl : Cell} (A : Arr Z h a cl .int) {j x : Int32} (hj : ¬ (j < 0 ∨ cl.slots.size ≤ j.toNatClampNeg)) (ha : n0 ≤ a) {pc : Nat} {L : Array Slot} {S : List Value} (hd : decode b pc = .ok (.iastore, 1)) :
    ∃ T' h', Nw Z n0 h' p l e R s m args below meth c T' cells slots ∧ Wr h h' a j.toNatClampNeg (.int x) ∧ Ld p e below T (mkF m pc L (.int x :: .int j :: .ref a :: S)) T' (mkF m (pc + 1) L S) := by
  obtain ⟨Lc, X, eT, r, q, hZ⟩ := N
  obtain ⟨T', h', X', e', W, st⟩ := stI X K.1 hZ eT A hj (g := mkF m pc L (.int x :: .int j :: .ref a :: S)) rfl rfl (hb K.2.2.1 hd)
  exact ⟨T', h', ⟨_, X', e', Fr.snoc X' r ha, by rw [W.size]; exact q, hZ⟩, W, st⟩
theorem goStJ (K : Cx Z own b ml p m c) (N : Nw Z n0 h p l e R s m args below meth c T cells slots) {a : Addr} {cl : Cell} (A : Arr Z h a cl .long) {j : Int32} {x : Int64} (hj : ¬ (j < 0 ∨ cl.slots.size ≤ j.toNatClampNeg)) (ha : n0 ≤ a) {pc : Nat} {L : Array Slot} {S : List Value} (hd : decode b pc = .ok (.lastore, 1)) :
    ∃ T' h', Nw Z n0 h' p l e R s m args below meth c T' cells slots ∧ Wr h h' a j.toNatClampNeg (.long x) ∧ Ld p e below T (mkF m pc L (.long x :: .int j :: .ref a :: S)) T' (mkF m (pc + 1) L S) := by
  obtain ⟨Lc, X, eT, r, q, hZ⟩ := N
  obtain ⟨T', h', X', e', W, st⟩ := stJ X K.1 hZ eT A hj (g := mkF m pc L (.long x :: .int j :: .ref a :: S)) rfl rfl (hb K.2.2.1 hd)
  exact ⟨T', h', ⟨_, X', e', Fr.snoc X' r ha, by rw [W.size]; exact q, hZ⟩, W, st⟩
theorem goStC (K : Cx Z own b ml p m c) (N : Nw Z n0 h p l e R s m args below meth c T cells slots) {a : Addr} {cl : Cell} (A : Arr Z h a cl .char) {j x : Int32} (hj : ¬ (j < 0 ∨ cl.slots.size ≤ j.toNatClampNeg)) (ha : n0 ≤ a) {pc : Nat} {L : Array Slot} {S : List Value} (hd : decode b pc = .ok (.castore, 1)) :
    ∃ T' h', Nw Z n0 h' p l e R s m args below meth c T' cells slots ∧ Wr h h' a j.toNatClampNeg (.int (nar .char x)) ∧ Ld p e below T (mkF m pc L (.int x :: .int j :: .ref a :: S)) T' (mkF m (pc + 1) L S) := by
  obtain ⟨Lc, X, eT, r, q, hZ⟩ := N
  obtain ⟨T', h', X', e', W, st⟩ := stC X K.1 hZ eT A hj (g := mkF m pc L (.int x :: .int j :: .ref a :: S)) rfl rfl (hb K.2.2.1 hd)
  exact ⟨T', h', ⟨_, X', e', Fr.snoc X' r ha, by rw [W.size]; exact q, hZ⟩, W, st⟩
theorem goStB (K : Cx Z own b ml p m c) (N : Nw Z n0 h p l e R s m args below meth c T cells slots) {a : Addr} {cl : Cell} (A : Arr Z h a cl .byte) {j x : Int32} (hj : ¬ (j < 0 ∨ cl.slots.size ≤ j.toNatClampNeg)) (ha : n0 ≤ a) {pc : Nat} {L : Array Slot} {S : List Value} (hd : decode b pc = .ok (.bastore, 1)) :
    ∃ T' h', Nw Z n0 h' p l e R s m args below meth c T' cells slots ∧ Wr h h' a j.toNatClampNeg (.int (nar .byte x)) ∧ Ld p e below T (mkF m pc L (.int x :: .int j :: .ref a :: S)) T' (mkF m (pc + 1) L S) := by
  obtain ⟨Lc, X, eT, r, q, hZ⟩ := N
  obtain ⟨T', h', X', e', W, st⟩ := stB X K.1 hZ eT A hj (g := mkF m pc L (.int x :: .int j :: .ref a :: S)) rfl rfl (hb K.2.2.1 hd)
  exact ⟨T', h', ⟨_, X', e', Fr.snoc X' r ha, by rw [W.size]; exact q, hZ⟩, W, st⟩
/-- what a body does: it returns v, leaves the heap h' with Q v h', writes new cells alone -/
def Con (l : Launch) (Z : State) (n0 : Nat) (y : MethodName) (bytes : ByteArray) (maxL : Nat) (ret : Option FieldType) (ws : List Jvm.Cond) (rm : Room) (as' : Array Value) (h : Heap) (Q : Option Value → Heap → Prop) : Prop :=
  n0 ≤ h.size → MetFree l y (head1 (Jvm.Cond.code y bytes maxL ret :: ws) rm) (fun a U => a = as' ∧ Z.Warmed39 U.vm ∧ U.heap = h) (fun _ _ _ _ _ => True) (fun _ U o U' => ∃ v L, o = .returned v ∧ (n0 ≤ U'.heap.size ∧ Fr n0 L ∧ Q v U'.heap) ∧ FrameEnd U o U' L rm.cells rm.slots)
theorem Con.of {y : MethodName} {bytes : ByteArray} {maxL : Nat} {ret : Option FieldType} {ws : List Jvm.Cond} {rm : Room} {as' : Array Value} {Q : Option Value → Heap → Prop} (pn : plainName y.cls = true) {L0 : Array Slot} (ef : ∀ m, entryFrame m as' maxL = mkF m 0 L0 [])
    (body : ∀ {p : Program} {e : Env} {s : State} {m : MethodId} {below : List Frame} {meth : Method} {c : Code} {T : State}, Cx Z y.cls bytes maxL p m c → meth.sig.returnType = ret → meth.name = y.name → Nw Z n0 h p l e rm s m as' below meth c T 0 0 →
      ∃ (v : Option Value) (T' : State) (g' : JFrame) (h' : Heap) (k n : Nat), Nw Z n0 h' p l e rm s m as' below meth c T' k n ∧ k ≤ rm.cells ∧ n ≤ rm.slots ∧ (ret = none → v = none) ∧ Q v h' ∧ Ld p e below T (mkF m 0 L0 []) T' g' ∧ Fn p e below m T' g' v) : Con l Z n0 y bytes maxL ret ws rm as' h Q := fun hn => by
  refine MetFree.of_bodySF (plainFor_of_name pn) hisR ?_
  intro p e s m args below meth c s₁ Bd hml0 hP hK
  obtain ⟨rfl, hZ, hh⟩ := hP
  have hown : s.vm.findClass y.cls = some m.cls := findClass_of_methodNamed Bd.named
  have X0 := Stand.of_body Bd
  have e0 : s₁.heap = h := by rw [← hh, Bd.state]; rfl
  obtain ⟨v, T', g', h', k, n, ⟨Lc, X, eT, F, q, -⟩, q1, q2, q3, hQ, hL, hF⟩ := body (T := s₁) ⟨Bd.exec, by rw [← hZ.alike.findClass]; exact hown, Bd.bytes, hml0⟩ Bd.returns (name_of_methodNamed Bd.named Bd.method).1 ⟨[], X0, e0, Fr.nil n0, hn, hZ⟩
  subst eT
  obtain ⟨fs, hr, hrun, hended, hW, hsame⟩ := X.leave (v := v) (fun q => q3 (by rw [← Bd.returns]; exact q))
  refine ⟨_, _, castTop (ef m) (hL _ (hF fs hr)), hrun, hended, v, _, rfl, ⟨q, F, hQ⟩, ⟨_, rfl⟩, hW, hsame.mono q1 q2⟩
theorem Con.ofH {y : MethodName} {bytes : ByteArray} {maxL : Nat} {ret : Option FieldType} {ws : List Jvm.Cond} {rm : Room} {as' : Array Value} {Q : Option Value → Heap → Prop} (pn : plainFor y = true) {L0 : Array Slot} (ef : ∀ m, entryFrame m as' maxL = mkF m 0 L0 [])
    (body : ∀ {p : Program} {e : Env} {s : State} {m : MethodId} {below : List Frame} {meth : Method} {c : Code} {T : State}, Cx Z y.cls bytes maxL p m c → meth.sig.returnType = ret → meth.name = y.name → Nw Z n0 h p l e rm s m as' below meth c T 0 0 → s.heap = h →
      ∃ (v : Option Value) (T' : State) (g' : JFrame) (h' : Heap) (k n : Nat), Nw Z n0 h' p l e rm s m as' below meth c T' k n ∧ k ≤ rm.cells ∧ n ≤ rm.slots ∧ (ret = none → v = none) ∧ Q v h' ∧ Ld p e below T (mkF m 0 L0 []) T' g' ∧ Fn p e below m T' g' v) : Con l Z n0 y bytes maxL ret ws rm as' h Q := fun hn => by
  refine MetFree.of_bodySF pn hisR ?_
  intro p e s m args below meth c s₁ Bd hml0 hP hK
  obtain ⟨rfl, hZ, hh⟩ := hP
  have hown : s.vm.findClass y.cls = some m.cls := findClass_of_methodNamed Bd.named
  have X0 := Stand.of_body Bd
  have e0 : s₁.heap = h := by rw [← hh, Bd.state]; rfl
  obtain ⟨v, T', g', h', k, n, ⟨Lc, X, eT, F, q, -⟩, q1, q2, q3, hQ, hL, hF⟩ := body (T := s₁) ⟨Bd.exec, by rw [← hZ.alike.findClass]; exact hown, Bd.bytes, hml0⟩ Bd.returns (name_of_methodNamed Bd.named Bd.method).1 ⟨[], X0, e0, Fr.nil n0, hn, hZ⟩ hh
  subst eT
  obtain ⟨fs, hr, hrun, hended, hW, hsame⟩ := X.leave (v := v) (fun q => q3 (by rw [← Bd.returns]; exact q))
  refine ⟨_, _, castTop (ef m) (hL _ (hF fs hr)), hrun, hended, v, _, rfl, ⟨q, F, hQ⟩, ⟨_, rfl⟩, hW, hsame.mono q1 q2⟩
theorem finI {L : Array Slot} {S : List Value} {z : Int32} {pc : Nat} (K : Cx Z own b ml p m c) (N : Nw Z n0 h p l e R s m args below meth c T cells slots) (hret : meth.sig.returnType = some .int) (hd : decode b pc = .ok (.ireturn, 1)) : Fn p e below m T (mkF m pc L (.int z :: S)) (some (.int z)) := fun fs hl => by
  obtain ⟨_, X, -⟩ := N
  exact retOut X K.1 (t := .int) (i := .ireturn) hret rfl (Or.inl ⟨rfl, Or.inl rfl, z, rfl⟩) (hb K.2.2.1 hd) hl
theorem finN {L : Array Slot} {S : List Value} {z : Int32} {t : FieldType} {pc : Nat} (K : Cx Z own b ml p m c) (N : Nw Z n0 h p l e R s m args below meth c T cells slots) (hret : meth.sig.returnType = some t) (ht : t = .boolean ∨ t = .byte ∨ t = .char ∨ t = .short) (hd : decode b pc = .ok (.ireturn, 1)) : Fn p e below m T (mkF m pc L (.int z :: S)) (some (.int (nar t z))) := fun fs hl => by
  obtain ⟨_, X, -⟩ := N
  exact retN X K.1 (t := t) hret ht (hb K.2.2.1 hd) hl
theorem finJ {L : Array Slot} {S : List Value} {z : Int64} {pc : Nat} (K : Cx Z own b ml p m c) (N : Nw Z n0 h p l e R s m args below meth c T cells slots) (hret : meth.sig.returnType = some .long) (hd : decode b pc = .ok (.lreturn, 1)) : Fn p e below m T (mkF m pc L (.long z :: S)) (some (.long z)) := fun fs hl => by
  obtain ⟨_, X, -⟩ := N
  exact retOut X K.1 (t := .long) (i := .lreturn) hret rfl (Or.inr (Or.inl ⟨rfl, rfl, z, rfl⟩)) (hb K.2.2.1 hd) hl
theorem finA {L : Array Slot} {S : List Value} {z : Value} {t : FieldType} {pc : Nat} (K : Cx Z own b ml p m c) (N : Nw Z n0 h p l e R s m args below meth c T cells slots) (hret : meth.sig.returnType = some t) (ht : t.isReference = true) (hn : narrow t z = z) (hz : z.isRef = true) (hd : decode b pc = .ok (.areturn, 1)) : Fn p e below m T (mkF m pc L (z :: S)) (some z) := fun fs hl => by
  obtain ⟨_, X, -⟩ := N
  exact retOut X K.1 (t := t) (i := .areturn) hret hn (Or.inr (Or.inr (Or.inr (Or.inr ⟨rfl, ht, hz⟩)))) (hb K.2.2.1 hd) hl
theorem finV {L : Array Slot} {pc : Nat} (K : Cx Z own b ml p m c) (N : Nw Z n0 h p l e R s m args below meth c T cells slots) (hret : meth.sig.returnType = none) (hd : decode b pc = .ok (.return_, 1)) : Fn p e below m T (mkF m pc L []) none := fun fs hl => by
  obtain ⟨_, X, -⟩ := N
  exact X.returnOut K.1 hret (hb K.2.2.1 hd) hl
section OwnCalls
variable {y : MethodName} {bytes : ByteArray} {maxL : Nat} {ret : Option FieldType} {rm : Room} {index : Nat} {argsL rest : List Value} {Q : Option Value → Heap → Prop} {pc : Nat} {L : Array Slot} {W : Nat} {ps : List FieldType} {rt : Option FieldType}
theorem goS (K : Cx Z own b ml p m c) (N : Nw Z n0 h p l e R s m args below meth c T cells slots)
    (w1 : (Jvm.Cond.methodLink own index y).before a0 Z = true) (w2 : (Jvm.Cond.static y).before a0 Z = true) (w3 : (Jvm.Cond.initialized y.cls).before a0 Z = true) (w4 : (Jvm.Cond.code y bytes maxL ret).before a0 Z = true)
    (hM : Con l Z n0 y bytes maxL ret [] rm argsL.toArray h Q) (hy : y.cls ≠ "java/lang/invoke/MethodHandle" ∧ y.cls ≠ "java/lang/invoke/VarHandle") (hf : rm.frames + 1 ≤ R.frames) (hl : W + (maxL + 11) + rm.locals ≤ R.locals) (hc : cells + rm.cells ≤ R.cells) (hs : slots + rm.slots ≤ R.slots)
    (hsz : L.size = ml) (hp : parseMethodDescriptor y.desc = some ⟨ps, rt⟩) (hlen : argsL.length = ps.length) (hW : (rest.map fun v => v.category).sum ≤ W) (hd : decode b pc = .ok (.invokestatic index, 3)) :
    ∃ v T' h', Nw Z n0 h' p l e R s m args below meth c T' (cells + rm.cells) (slots + rm.slots) ∧ Q v h' ∧ Ld p e below T (mkF m pc L (argsL.reverse ++ rest)) T' (mkF m (pc + 3) L (v.toList ++ rest)) := by
  obtain ⟨Lc, X, eT, r, q, hZ⟩ := N
  obtain ⟨v, _, ⟨T', L', k', n'⟩, -, X', ⟨Lc', hQ, l', y', z'⟩, st⟩ := Jvm.LawKit.callS X K.1 (y := y) (cx_own K hZ) (mvT hZ w1) (mvT hZ w2) (mvT hZ w3) (mvT hZ w4) hy (backOf (W := W) (Q := fun v h L => n0 ≤ h.size ∧ Fr n0 L ∧ Q v h) (hM q) hZ w4 w3 hf hl) (g := mkF m pc L (argsL.reverse ++ rest)) rfl (by rw [K.2.2.2]; exact hsz) (argsL := argsL) (rest := rest) (lenOf hp hlen) rfl (by show 2 * 0 + _ ≤ _; omega) (hb K.2.2.1 hd) (fun _ _ => ⟨rfl, eT, hc, hs⟩)
  dsimp only [Pt.U, Pt.locs, Pt.cells, Pt.slots] at X' l' y' z' st hQ
  subst l' y' z'
  exact ⟨v, T', T'.heap, ⟨_, X', rfl, Fr.app r hQ.2.1, hQ.1, hZ⟩, hQ.2.2, st⟩
theorem goSp (K : Cx Z own b ml p m c) (N : Nw Z n0 h p l e R s m args below meth c T cells slots) {a : Addr}
    (w1 : (Jvm.Cond.methodLink own index y).before a0 Z = true) (w2 : (Jvm.Cond.instanceMethod y).before a0 Z = true) (w3 : (Jvm.Cond.initialized y.cls).before a0 Z = true) (w4 : (Jvm.Cond.code y bytes maxL none).before a0 Z = true)
    (hM : Con l Z n0 y bytes maxL none [] rm (Value.ref a :: argsL).toArray h Q) (hi : y.name = "<init>") (hy : y.cls ≠ "java/lang/invoke/MethodHandle" ∧ y.cls ≠ "java/lang/invoke/VarHandle") (hf : rm.frames + 1 ≤ R.frames) (hl : W + (maxL + 11) + rm.locals ≤ R.locals) (hc : cells + rm.cells ≤ R.cells) (hs : slots + rm.slots ≤ R.slots)
    (hsz : L.size = ml) (hp : parseMethodDescriptor y.desc = some ⟨ps, rt⟩) (hlen : argsL.length = ps.length) (hW : (rest.map fun v => v.category).sum ≤ W) (hd : decode b pc = .ok (.invokespecial index, 3)) :
    ∃ v T' h', Nw Z n0 h' p l e R s m args below meth c T' (cells + rm.cells) (slots + rm.slots) ∧ Q v h' ∧ Ld p e below T (mkF m pc L (argsL.reverse ++ .ref a :: rest)) T' (mkF m (pc + 3) L (v.toList ++ rest)) := by
  obtain ⟨Lc, X, eT, r, q, hZ⟩ := N
  obtain ⟨v, _, ⟨T', L', k', n'⟩, -, X', ⟨Lc', hQ, l', y', z'⟩, st⟩ := X.specialBack K.1 (y := y) hi (cx_own K hZ) (mvT hZ w1) (mvT hZ w2) (mvT hZ w4) hy (backOf (W := W) (Q := fun v h L => n0 ≤ h.size ∧ Fr n0 L ∧ Q v h) (hM q) hZ w4 w3 hf hl) (g := mkF m pc L (argsL.reverse ++ .ref a :: rest)) rfl (by rw [K.2.2.2]; exact hsz) (Steps.refl _) (a := a) (argsL := argsL) (rest := rest) (lenOf hp hlen) rfl (by show 2 * 0 + _ ≤ _; omega) (hb K.2.2.1 hd) (fun _ _ => ⟨rfl, eT, hc, hs⟩)
  dsimp only [Pt.U, Pt.locs, Pt.cells, Pt.slots] at X' l' y' z' st hQ
  subst l' y' z'
  exact ⟨v, T', T'.heap, ⟨_, X', rfl, Fr.app r hQ.2.1, hQ.1, hZ⟩, hQ.2.2, fun t k => st.trans k⟩
theorem goVi (K : Cx Z own b ml p m c) (N : Nw Z n0 h p l e R s m args below meth c T cells slots) {a : Addr} {C : String} (E : Exa Z h a C)
    (w1 : (Jvm.Cond.methodLink own index y).before a0 Z = true) (w2 : (Jvm.Cond.declares y).before a0 Z = true) (w5 : (Jvm.Cond.selects C y y).before a0 Z = true) (w6 : (Jvm.Cond.instanceMethod y).before a0 Z = true) (w3 : (Jvm.Cond.initialized y.cls).before a0 Z = true) (w4 : (Jvm.Cond.code y bytes maxL ret).before a0 Z = true)
    (hM : Con l Z n0 y bytes maxL ret [] rm (Value.ref a :: argsL).toArray h Q) (hy : y.cls ≠ "java/lang/invoke/MethodHandle" ∧ y.cls ≠ "java/lang/invoke/VarHandle") (hf : rm.frames + 1 ≤ R.frames) (hl : W + (maxL + 11) + rm.locals ≤ R.locals) (hc : cells + rm.cells ≤ R.cells) (hs : slots + rm.slots ≤ R.slots)
    (hsz : L.size = ml) (hp : parseMethodDescriptor y.desc = some ⟨ps, rt⟩) (hlen : argsL.length = ps.length) (hW : (rest.map fun v => v.category).sum ≤ W) (hd : decode b pc = .ok (.invokevirtual index, 3)) :
    ∃ v T' h', Nw Z n0 h' p l e R s m args below meth c T' (cells + rm.cells) (slots + rm.slots) ∧ Q v h' ∧ Ld p e below T (mkF m pc L (argsL.reverse ++ .ref a :: rest)) T' (mkF m (pc + 3) L (v.toList ++ rest)) := by
  obtain ⟨Lc, X, eT, r, q, hZ⟩ := N
  obtain ⟨cB, kB, q1, q2, q3⟩ := isOf hZ eT E
  obtain ⟨v, _, ⟨T', L', k', n'⟩, -, X', ⟨Lc', hQ, l', y', z'⟩, st⟩ := X.virtualBack K.1 (y := y) (z := y) (cx_own K hZ) (mvT hZ w1) (mvT hZ w2) (notFace_of_selects (args := #[]) (mvT hZ w5)) (mvT hZ w5) (mvT hZ w6) hy (backOf (W := W) (Q := fun v h L => n0 ≤ h.size ∧ Fr n0 L ∧ Q v h) (hM q) hZ w4 w3 hf hl) q1 q3 (g := mkF m pc L (argsL.reverse ++ .ref a :: rest)) rfl (by rw [K.2.2.2]; exact hsz) (Steps.refl _) (argsL := argsL) (rest := rest) (lenOf hp hlen) rfl (by show 2 * 0 + _ ≤ _; omega) (hb K.2.2.1 hd) (fun _ _ => ⟨rfl, eT, hc, hs⟩)
  dsimp only [Pt.U, Pt.locs, Pt.cells, Pt.slots] at X' l' y' z' st hQ
  subst l' y' z'
  exact ⟨v, T', T'.heap, ⟨_, X', rfl, Fr.app r hQ.2.1, hQ.1, hZ⟩, hQ.2.2, fun t k => st.trans k⟩
end OwnCalls
end OwnGo
section OwnArr
variable {Z : State} {h h' : Heap} {a b : Addr} {ty : FieldType} {vs : List Value} {v : Value} {sl : Nat} {ws : List Addr}
/-- the array at a holds just vs -/
def Av (Z : State) (h : Heap) (a : Addr) (ty : FieldType) (vs : List Value) : Prop := ∃ c : Cell, Arr Z h a c ty ∧ c.slots.toList = vs ∧ vs.length < 2 ^ 31
theorem Av.lt (F : Av Z h a ty vs) : a < h.size := by obtain ⟨_, A, -⟩ := F; exact A.lt
theorem Av.ext (F : Av Z h a ty vs) (E : Ext h h') : Av Z h' a ty vs := by obtain ⟨c, A, r⟩ := F; exact ⟨c, A.ext E, r⟩
theorem Av.keep (F : Av Z h a ty vs) (K : Keep h h' ws) (q : a ∉ ws) : Av Z h' a ty vs := by obtain ⟨c, A, r⟩ := F; exact ⟨c, ⟨K.2.1 a c A.1 q, A.2⟩, r⟩
theorem Av.other (F : Av Z h a ty vs) (W : Wr h h' b sl v) (q : a ≠ b) : Av Z h' a ty vs := by obtain ⟨c, A, r⟩ := F; exact ⟨c, A.other W q, r⟩
theorem keep_ext (E : Ext h h') : Keep h h' ws := (Keep.refl h ws).ext E
theorem Av.new {k : ClassId} {z : Int32} {n : Nat} (A : Arr Z h a (newA k ty z) ty) (q : ¬ z < 0) (hn : z.toInt = n) : Av Z h a ty (List.replicate n (defaultValue ty)) := by
  have e : z.toNatClampNeg = n := by simp [Int32.toNatClampNeg, hn]
  refine ⟨_, A, by simp [newA, e], ?_⟩
  have := Int32.toInt_lt z
  simp only [List.length_replicate]; omega
theorem clamp_of {j : Int32} {i : Nat} (hj : j.toInt = i) : j.toNatClampNeg = i := by simp [Int32.toNatClampNeg, hj]
theorem not_neg_of {j : Int32} {i : Nat} (hj : j.toInt = i) : ¬ j < 0 := by rw [Int32.lt_iff_toInt_lt, hj]; show ¬ (i : Int) < 0; omega
theorem Av.inb {c : Cell} (e : c.slots.toList = vs) {j : Int32} {i : Nat} (hj : j.toInt = i) (hi : i < vs.length) : ¬ (j < 0 ∨ c.slots.size ≤ j.toNatClampNeg) := by
  rintro (q | q)
  · exact not_neg_of hj q
  · rw [clamp_of hj] at q; rw [← e, Array.length_toList] at hi; omega
theorem Av.rd (F : Av Z h a ty vs) {j : Int32} {i : Nat} (hj : j.toInt = i) (hv : vs[i]? = some v) : Rd Z h a ty j v := by
  obtain ⟨c, A, e, -⟩ := F
  refine ⟨c, A, Av.inb e hj (List.getElem?_eq_some_iff.mp hv).1, ?_⟩
  rw [clamp_of hj, ← hv, ← e, Array.getElem?_toList]
theorem Av.ln (F : Av Z h a ty vs) {n : Int32} (hn : n.toInt = vs.length) : Ln Z h a n := by
  obtain ⟨c, A, e, q⟩ := F
  refine ⟨c, ty, A, ?_⟩
  rw [← Array.length_toList, e]
  apply Int32.toInt_inj.mp
  rw [hn]; exact Int32.toInt_ofNat_of_lt q
theorem Av.set {c : Cell} (A : Arr Z h a c ty) (e : c.slots.toList = vs) (q : vs.length < 2 ^ 31) {j : Int32} {i : Nat} (hj : j.toInt = i) (W : Wr h h' a j.toNatClampNeg v) : Av Z h' a ty (vs.set i v) := by
  rw [clamp_of hj] at W
  refine ⟨_, A.same W, ?_, by simpa using q⟩
  simp [Cell.setSlot, e]
theorem Av.ne {a b : Addr} {ty' : FieldType} {us : List Value} (F : Av Z h a ty vs) (G : Av Z h b ty' us) (q : ty ≠ ty') : a ≠ b := fun e => by
  subst e
  obtain ⟨c, A, -⟩ := F
  obtain ⟨c', B, -⟩ := G
  cases A.1.symm.trans B.1
  obtain ⟨-, k, hk, comp, h1⟩ := A.2.1
  obtain ⟨-, k', hk', comp', h2⟩ := B.2.1
  cases hk.symm.trans hk'
  rw [h1] at h2; cases h2; exact q rfl
theorem Av.ne_exa {a0 : Array Value} {C : String} {k : Nat} (F : Av Z h a ty vs) (G : Exa Z h b C) (wi : (Jvm.Cond.instantiable C k).before a0 Z = true) : b ≠ a := by
  obtain ⟨c, A, -⟩ := F
  exact ne_arr G wi A
theorem n_ti {i : Nat} (q : i < 2147483648) : (Int32.ofNat i).toInt = i := Int32.toInt_ofNat_of_lt q
theorem n_one (i : Nat) : Int32.ofNat i + (1 : Int32) = Int32.ofNat (i + 1) := (Int32.ofNat_add i 1).symm
theorem n_lt {i j : Nat} (hi : i < 2147483648) (hj : j < 2147483648) : Int32.ofNat i < Int32.ofNat j ↔ i < j := by rw [Int32.lt_iff_toInt_lt, n_ti hi, n_ti hj]; omega
theorem n_eq {i j : Nat} (hi : i < 2147483648) (hj : j < 2147483648) : Int32.ofNat i = Int32.ofNat j ↔ i = j := by rw [← Int32.toInt_inj, n_ti hi, n_ti hj]; omega
end OwnArr
section OwnSto
variable {p : Program} {l : Launch} {e : Env} {R : Room} {s : State} {m : MethodId} {args : Array Value} {below : List Frame} {meth : Method} {c : Code} {T : State} {cells slots : Nat} {Z : State} {a0 : Array Value} {h : Heap} {own : String} {n0 : Nat} {b : ByteArray} {ml : Nat} {a : Addr} {vs : List Value} {j : Int32} {i : Nat} {pc : Nat} {L : Array Slot} {S : List Value}
theorem avStI (K : Cx Z own b ml p m c) (N : Nw Z n0 h p l e R s m args below meth c T cells slots) (F : Av Z h a .int vs) {x : Int32} (hj : j.toInt = i) (hi : i < vs.length) (ha : n0 ≤ a) (hd : decode b pc = .ok (.iastore, 1)) :
    ∃ T' h', Nw Z n0 h' p l e R s m args below meth c T' cells slots ∧ Keep h h' [a] ∧ Av Z h' a .int (vs.set i (.int x)) ∧ Ld p e below T (mkF m pc L (.int x :: .int j :: .ref a :: S)) T' (mkF m (pc + 1) L S) := by
  obtain ⟨cl, A, q1, q2⟩ := F
  obtain ⟨T', h', N', W, st⟩ := goStI K N A (Av.inb q1 hj hi) ha hd
  exact ⟨T', h', N', Keep.of_wr W, Av.set A q1 q2 hj W, st⟩
theorem avStJ (K : Cx Z own b ml p m c) (N : Nw Z n0 h p l e R s m args below meth c T cells slots) (F : Av Z h a .long vs) {x : Int64} (hj : j.toInt = i) (hi : i < vs.length) (ha : n0 ≤ a) (hd : decode b pc = .ok (.lastore, 1)) :
    ∃ T' h', Nw Z n0 h' p l e R s m args below meth c T' cells slots ∧ Keep h h' [a] ∧ Av Z h' a .long (vs.set i (.long x)) ∧ Ld p e below T (mkF m pc L (.long x :: .int j :: .ref a :: S)) T' (mkF m (pc + 1) L S) := by
  obtain ⟨cl, A, q1, q2⟩ := F
  obtain ⟨T', h', N', W, st⟩ := goStJ K N A (Av.inb q1 hj hi) ha hd
  exact ⟨T', h', N', Keep.of_wr W, Av.set A q1 q2 hj W, st⟩
theorem avStC (K : Cx Z own b ml p m c) (N : Nw Z n0 h p l e R s m args below meth c T cells slots) (F : Av Z h a .char vs) {x : Int32} (hj : j.toInt = i) (hi : i < vs.length) (ha : n0 ≤ a) (hd : decode b pc = .ok (.castore, 1)) :
    ∃ T' h', Nw Z n0 h' p l e R s m args below meth c T' cells slots ∧ Keep h h' [a] ∧ Av Z h' a .char (vs.set i (.int (nar .char x))) ∧ Ld p e below T (mkF m pc L (.int x :: .int j :: .ref a :: S)) T' (mkF m (pc + 1) L S) := by
  obtain ⟨cl, A, q1, q2⟩ := F
  obtain ⟨T', h', N', W, st⟩ := goStC K N A (Av.inb q1 hj hi) ha hd
  exact ⟨T', h', N', Keep.of_wr W, Av.set A q1 q2 hj W, st⟩
theorem avStB (K : Cx Z own b ml p m c) (N : Nw Z n0 h p l e R s m args below meth c T cells slots) (F : Av Z h a .byte vs) {x : Int32} (hj : j.toInt = i) (hi : i < vs.length) (ha : n0 ≤ a) (hd : decode b pc = .ok (.bastore, 1)) :
    ∃ T' h', Nw Z n0 h' p l e R s m args below meth c T' cells slots ∧ Keep h h' [a] ∧ Av Z h' a .byte (vs.set i (.int (nar .byte x))) ∧ Ld p e below T (mkF m pc L (.int x :: .int j :: .ref a :: S)) T' (mkF m (pc + 1) L S) := by
  obtain ⟨cl, A, q1, q2⟩ := F
  obtain ⟨T', h', N', W, st⟩ := goStB K N A (Av.inb q1 hj hi) ha hd
  exact ⟨T', h', N', Keep.of_wr W, Av.set A q1 q2 hj W, st⟩
end OwnSto
section OwnRef
variable {p : Program} {l : Launch} {e : Env} {R : Room} {s : State} {m : MethodId} {args : Array Value} {below : List Frame} {meth : Method} {c : Code} {T : State} {cells slots : Nat} {Z : State} {a0 : Array Value} {h h' : Heap} {own : String} {n0 : Nat} {b : ByteArray} {ml : Nat} {a : Addr} {vs : List Value} {j : Int32} {i : Nat} {pc : Nat} {L : Array Slot} {S : List Value} {C : String} {ws : List Addr}
/-- the array at a takes objects of C -/
def Ovc (Z : State) (h : Heap) (a : Addr) (C : String) : Prop := ∃ cell : Cell, h[a]? = some cell ∧ Ovr Z cell.cls C
theorem Ovc.keep (F : Ovc Z h a C) (K : Keep h h' ws) : Ovc Z h' a C := by
  obtain ⟨cell, h1, h2⟩ := F
  obtain ⟨c', q, r1, -⟩ := K.2.2 a cell h1
  exact ⟨c', q, r1 ▸ h2⟩
theorem goNewR (K : Cx Z own b ml p m c) (N : Nw Z n0 h p l e R s m args below meth c T cells slots) {index : Nat} (w1 : (Jvm.Cond.classLink own index C).before a0 Z = true) (w2 : (Jvm.Cond.arrayOver (.object C)).before a0 Z = true) {n : Int32} {k : Nat} (hn : n.toInt = k) {cap : Nat} (hcap : k ≤ cap) (hbg : cap * 8 ≤ 536870912) (hc : cells + 1 ≤ R.cells) (hl : slots + cap ≤ R.slots)
    (hd : decode b pc = .ok (.anewarray index, 3)) :
    ∃ T' h' a, a = h.size ∧ Nw Z n0 h' p l e R s m args below meth c T' (cells + 1) (slots + cap) ∧ Ext h h' ∧ Av Z h' a (.object C) (List.replicate k .null) ∧ Ovc Z h' a C ∧ Ld p e below T (mkF m pc L (.int n :: S)) T' (mkF m (pc + 3) L (.ref a :: S)) := by
  obtain ⟨Lc, X, eT, r, q, hZ⟩ := N
  obtain ⟨T', h', cA, X', e', E, A, O, st⟩ := newR X K.1 hZ (cx_own K hZ) w1 w2 eT (g := mkF m pc L (.int n :: S)) rfl (hb K.2.2.1 hd) rfl (not_neg_of hn) (cap := cap) (by rw [clamp_of hn]; exact hcap) hbg hc hl
  exact ⟨T', h', _, rfl, ⟨Lc, X', e', r, Nat.le_trans q E.1, hZ⟩, E, Av.new A (not_neg_of hn) hn, ⟨_, A.1, O⟩, st⟩
theorem avStR (K : Cx Z own b ml p m c) (N : Nw Z n0 h p l e R s m args below meth c T cells slots) (F : Av Z h a (.object C) vs) (O : Ovc Z h a C) {v : Value} (hv : v = .null ∨ ∃ y, v = .ref y ∧ Exa Z h y C) (hj : j.toInt = i) (hi : i < vs.length) (ha : n0 ≤ a) (hd : decode b pc = .ok (.aastore, 1)) :
    ∃ T' h', Nw Z n0 h' p l e R s m args below meth c T' cells slots ∧ Keep h h' [a] ∧ Av Z h' a (.object C) (vs.set i v) ∧ Ld p e below T (mkF m pc L (v :: .int j :: .ref a :: S)) T' (mkF m (pc + 1) L S) := by
  obtain ⟨cl, A, q1, q2⟩ := F
  obtain ⟨cell, o1, o2⟩ := O
  cases o1.symm.trans A.1
  have sto : Sto Z h a v := by
    rcases hv with rfl | ⟨y, rfl, X⟩
    · exact Or.inl rfl
    · exact Sto.of A o2 (Ins.self X)
  obtain ⟨Lc, X, eT, r, q, hZ⟩ := N
  obtain ⟨T', h', X', e', W, st⟩ := stR X K.1 hZ eT A (Av.inb q1 hj hi) rfl sto (g := mkF m pc L (v :: .int j :: .ref a :: S)) rfl rfl (hb K.2.2.1 hd)
  exact ⟨T', h', ⟨_, X', e', Fr.snoc X' r ha, by rw [W.size]; exact q, hZ⟩, Keep.of_wr W, Av.set A q1 q2 hj W, st⟩
end OwnRef

theorem tw {a0 : Array Value} {Z : State} (hw : ∀ d ∈ tables_1, d.before a0 Z = true) (k : Nat) {d : Jvm.Cond} (q : tables_1[k]? = some d) : d.before a0 Z = true := hw d (List.mem_of_getElem? q)
variable {p : Program} {l : Launch} {e : Env} {R : Room} {s : State} {m : MethodId} {args : Array Value} {below : List Frame} {meth : Method} {c : Code} {T : State} {cells slots : Nat} {Z : State} {a0 : Array Value} {h : Heap} {n0 : Nat}
def SF (Z : State) (z : Int32) (fm : Value) : Prop := (Sta Z Z.heap "java/lang/String" "COMPACT_STRINGS" "Z" (.int z)) ∧ (¬ z = 0) ∧ (Sta Z Z.heap "jdk/internal/util/Preconditions" "SIOOBE_FORMATTER" "Ljava/util/function/BiFunction;" fm) ∧ (fm.isRef = true) ∧ (Sta Z Z.heap "java/lang/StringUTF16" "$assertionsDisabled" "Z" (.int 1)) ∧ (Sta Z Z.heap "java/lang/StringUTF16" "HI_BYTE_SHIFT" "I" (.int 0)) ∧ (Sta Z Z.heap "java/lang/StringUTF16" "LO_BYTE_SHIFT" "I" (.int 8))
section OwnStr
def lo8 (c : Int32) : Int32 := c.toInt8.toInt32
def hi8 (c : Int32) : Int32 := (c >>> (8 : Int32)).toInt8.toInt32
def u16 (cs : List Int32) : List Int32 := cs.flatMap fun c => [lo8 c, hi8 c]
def Ch (c : Int32) : Prop := 0 ≤ c.toInt ∧ c.toInt ≤ 65535
theorem u16_len (cs : List Int32) : (u16 cs).length = 2 * cs.length := by
  induction cs with
  | nil => rfl
  | cons c cs ih => simp only [u16, List.flatMap_cons, List.length_append, List.length_cons, List.length_nil] at ih ⊢; omega
theorem u16_cons (c : Int32) (cs : List Int32) : u16 (c :: cs) = lo8 c :: hi8 c :: u16 cs := rfl
theorem u16_lo : ∀ (cs : List Int32) (i : Nat) (c : Int32), cs[i]? = some c → (u16 cs)[2 * i]? = some (lo8 c) ∧ (u16 cs)[2 * i + 1]? = some (hi8 c)
  | [], i, c, h => by simp at h
  | d :: cs, 0, c, h => by simp at h; subst h; exact ⟨rfl, rfl⟩
  | d :: cs, i + 1, c, h => by
    have := u16_lo cs i c (by simpa using h)
    rw [u16_cons, show 2 * (i + 1) = 2 * i + 2 by omega, show 2 * i + 2 + 1 = 2 * i + 1 + 2 by omega]
    simpa using this
theorem nn_nat {x : Int32} (h0 : 0 ≤ x.toInt) : (x.toBitVec.toNat : Int) = x.toInt := by
  have : x.toInt = x.toBitVec.toInt := rfl
  rw [this] at h0 ⊢
  rw [BitVec.toInt_eq_toNat_cond] at h0 ⊢
  split at h0 <;> rename_i q
  · simp [q]
  · have := x.toBitVec.isLt; omega
theorem lo8_and (x : Int32) : (lo8 x &&& (255 : Int32)).toBitVec.toNat = x.toBitVec.toNat % 256 := by
  show (((x.toBitVec.signExtend 8).signExtend 32) &&& 255#32).toNat = _
  rw [BitVec.signExtend_eq_setWidth_of_le _ (show 8 ≤ 32 by decide)]
  have e : ((x.toBitVec.setWidth 8).signExtend 32) &&& 255#32 = (x.toBitVec.setWidth 8).setWidth 32 := by
    apply BitVec.eq_of_getLsbD_eq
    intro i hi
    rw [BitVec.getLsbD_and, BitVec.getLsbD_signExtend, BitVec.getLsbD_setWidth]
    have h255 : ∀ i, (255#32).getLsbD i = decide (i < 8) := by
      intro i
      by_cases q : i < 8
      · have : i = 0 ∨ i = 1 ∨ i = 2 ∨ i = 3 ∨ i = 4 ∨ i = 5 ∨ i = 6 ∨ i = 7 := by omega
        rcases this with rfl | rfl | rfl | rfl | rfl | rfl | rfl | rfl <;> rfl
      · rw [decide_eq_false q, BitVec.getLsbD]
        exact Nat.testBit_lt_two_pow (Nat.lt_of_lt_of_le (show 255 < 2 ^ 8 by decide) (Nat.pow_le_pow_right (by decide) (by omega)))
    rw [h255]
    by_cases q : i < 8
    · simp [q, hi]
    · simp [q, hi]
  rw [e, BitVec.toNat_setWidth, BitVec.toNat_setWidth]
  omega
theorem toC_small {x : Int32} (h : x.toBitVec.toNat < 65536) : x.toUInt32.toUInt16.toUInt32.toInt32 = x := by
  apply Int32.toBitVec_inj.mp
  apply BitVec.eq_of_toNat_eq
  show ((x.toBitVec.setWidth 16).setWidth 32).toNat = _
  rw [BitVec.toNat_setWidth, BitVec.toNat_setWidth]
  omega
theorem ch_lt {c : Int32} (h : Ch c) : c.toBitVec.toNat < 65536 := by have := nn_nat h.1; have := h.2; omega
theorem latin_back {c : Int32} (h : Ch c) (h2 : c.toInt ≤ 255) : (lo8 c &&& (255 : Int32)).toUInt32.toUInt16.toUInt32.toInt32 = c := by
  have e := lo8_and c
  have n1 := nn_nat h.1
  have e2 : lo8 c &&& (255 : Int32) = c := by
    apply Int32.toBitVec_inj.mp
    apply BitVec.eq_of_toNat_eq
    rw [e]; omega
  rw [e2]; exact toC_small (ch_lt h)
theorem shr8 {c : Int32} (h : Ch c) : (c >>> (8 : Int32)).toBitVec.toNat = c.toBitVec.toNat / 256 := by
  have n1 := ch_lt h
  show (c.toBitVec.sshiftRight' ((8#32).smod 32)).toNat = _
  have e : c.toBitVec.msb = false := by rw [BitVec.msb_eq_decide]; simp; omega
  rw [show (8#32).smod 32 = 8#32 from by decide, BitVec.sshiftRight_eq', BitVec.sshiftRight_eq_of_msb_false e]
  rw [BitVec.toNat_ushiftRight, show (8#32).toNat = 8 from rfl, Nat.shiftRight_eq_div_pow]
theorem utf_back {c : Int32} (h : Ch c) : (((lo8 c &&& (255 : Int32)) <<< ((0 : Int32) &&& 31)) ||| ((hi8 c &&& (255 : Int32)) <<< ((8 : Int32) &&& 31))).toUInt32.toUInt16.toUInt32.toInt32 = c := by
  have n1 := ch_lt h
  have a1 := lo8_and c
  have a2 : (hi8 c &&& (255 : Int32)).toBitVec.toNat = c.toBitVec.toNat / 256 := by
    have := lo8_and (c >>> (8 : Int32))
    rw [shr8 h] at this
    show (lo8 (c >>> (8 : Int32)) &&& (255 : Int32)).toBitVec.toNat = _
    rw [this]; omega
  have e : ((lo8 c &&& (255 : Int32)) <<< ((0 : Int32) &&& 31)) ||| ((hi8 c &&& (255 : Int32)) <<< ((8 : Int32) &&& 31)) = c := by
    apply Int32.toBitVec_inj.mp
    apply BitVec.eq_of_toNat_eq
    show (((lo8 c &&& (255 : Int32)).toBitVec <<< (((0 : Int32) &&& 31).toBitVec.smod 32)) ||| ((hi8 c &&& (255 : Int32)).toBitVec <<< (((8 : Int32) &&& 31).toBitVec.smod 32))).toNat = _
    rw [show ((0 : Int32) &&& 31).toBitVec.smod 32 = 0#32 from by decide, show ((8 : Int32) &&& 31).toBitVec.smod 32 = 8#32 from by decide]
    rw [BitVec.toNat_or, BitVec.shiftLeft_eq', BitVec.shiftLeft_eq', BitVec.toNat_shiftLeft, BitVec.toNat_shiftLeft, a1, a2, show (0#32).toNat = 0 from rfl, show (8#32).toNat = 8 from rfl, Nat.shiftLeft_zero, Nat.shiftLeft_eq]
    rw [Nat.mod_eq_of_lt (show c.toBitVec.toNat % 256 < 2 ^ 32 by omega), Nat.mod_eq_of_lt (show c.toBitVec.toNat / 256 * 2 ^ 8 < 2 ^ 32 by omega), Nat.or_comm, Nat.mul_comm, ← Nat.two_pow_add_eq_or_of_lt (by omega)]
    omega
  rw [e]; exact toC_small n1
theorem ch_nar (x : Int32) : Ch (nar .char x) := by
  have e : (nar .char x).toBitVec.toNat < 65536 := by
    show ((x.toBitVec.setWidth 16).setWidth 32).toNat < _
    rw [BitVec.toNat_setWidth, BitVec.toNat_setWidth]; omega
  have e2 : (nar .char x).toInt = (nar .char x).toBitVec.toNat := by
    show (nar .char x).toBitVec.toInt = _
    rw [BitVec.toInt_eq_toNat_cond, if_pos (by omega)]
  constructor <;> omega
theorem nar_ch {c : Int32} (h : Ch c) : nar .char c = c := toC_small (ch_lt h)
theorem nar_nar (x : Int32) : nar .char x.toUInt32.toUInt16.toUInt32.toInt32 = nar .char x := nar_ch (ch_nar x)
theorem nar_lo (x : Int32) : nar .byte x.toInt8.toInt32 = lo8 x := by simp [nar, lo8]
theorem sh0 (c : Int32) : c >>> ((0 : Int32) &&& 31) = c := by
  apply Int32.toBitVec_inj.mp
  show c.toBitVec.sshiftRight' (((0 : Int32) &&& 31).toBitVec.smod 32) = _
  rw [show ((0 : Int32) &&& 31).toBitVec.smod 32 = 0#32 from by decide]; simp
theorem sh8 (c : Int32) : c >>> ((8 : Int32) &&& 31) = c >>> (8 : Int32) := rfl
def Cd1 (Z : State) (h : Heap) (x : Addr) : Prop := Fld Z h x "java/lang/String" "coder" "B" (.int 1)
theorem Cd1.keep {Z : State} {h h' : Heap} {x : Addr} {ws : List Addr} (F : Cd1 Z h x) (K : Keep h h' ws) (q : x ∉ ws) : Cd1 Z h' x := Fld.keep F K q
/-- the String at x, its bytes at t, spells cs -/
def Stv (Z : State) (h : Heap) (x t : Addr) (cs : List Int32) : Prop :=
  Exa Z h x "java/lang/String" ∧ (∀ c ∈ cs, Ch c) ∧ cs.length ≤ 4000 ∧ Fld Z h x "java/lang/String" "value" "[B" (.ref t) ∧
    ((Fld Z h x "java/lang/String" "coder" "B" (.int 0) ∧ (∀ c ∈ cs, c.toInt ≤ 255) ∧ Av Z h t .byte ((cs.map lo8).map Value.int)) ∨ (Cd1 Z h x ∧ Av Z h t .byte ((u16 cs).map Value.int)))
variable {Z : State} {h h' : Heap} {x t : Addr} {cs : List Int32} {ws : List Addr}
theorem Stv.keep (F : Stv Z h x t cs) (K : Keep h h' ws) (q1 : x ∉ ws) (q2 : t ∉ ws) : Stv Z h' x t cs := by
  obtain ⟨a, b, c, d, f⟩ := F
  refine ⟨a.keep K, b, c, d.keep K q1, ?_⟩
  rcases f with ⟨f1, f2, f3⟩ | ⟨f1, f3⟩
  · exact Or.inl ⟨f1.keep K q1, f2, f3.keep K q2⟩
  · exact Or.inr ⟨f1.keep K q1, f3.keep K q2⟩
theorem Stv.ext (F : Stv Z h x t cs) (K : Ext h h') : Stv Z h' x t cs := F.keep (ws := []) (keep_ext K) nin0 nin0
end OwnStr
section OwnStrW
variable {Z : State} {h h' : Heap} {a t : Addr} {k : ClassId} {ty : FieldType} {z : Int32} {vs : List Value} {dv : Value}
theorem Arv.toAv (F : Arv Z h a k ty z vs dv) (q : z.toInt = vs.length) : Av Z h a ty vs := by
  obtain ⟨c, A, -, S, -, H, -⟩ := F
  have e : c.slots.size = vs.length := by rw [S]; simp [Int32.toNatClampNeg, q]
  have hz := Int32.toInt_lt z
  refine ⟨c, A, ?_, by omega⟩
  apply List.ext_getElem?
  intro i
  rw [Array.getElem?_toList]
  by_cases hi : i < vs.length
  · rw [H i (by omega)]; simp [List.getD_eq_getElem?_getD, hi]
  · rw [Array.getElem?_eq_none (by omega), List.getElem?_eq_none (by omega)]
end OwnStrW
section OwnMask
theorem and_nat (x : Int32) : (x &&& (255 : Int32)).toBitVec.toNat ≤ 255 := by
  rw [Int32.toBitVec_and, BitVec.toNat_and]; exact Nat.and_le_right
theorem nat_int {x : Int32} (q : x.toBitVec.toNat < 2147483648) : x.toInt = x.toBitVec.toNat := by
  show x.toBitVec.toInt = _
  rw [BitVec.toInt_eq_toNat_cond, if_pos (by omega)]
theorem c255 (x : Int32) : Ch ((x &&& (255 : Int32)).toUInt32.toUInt16.toUInt32.toInt32) ∧ ((x &&& (255 : Int32)).toUInt32.toUInt16.toUInt32.toInt32).toInt ≤ 255 := by
  have q := and_nat x
  rw [toC_small (by omega)]
  have e := nat_int (x := x &&& (255 : Int32)) (by omega)
  refine ⟨⟨by omega, by omega⟩, by omega⟩
theorem nar_obj {s : String} {v : Value} (h : v.isRef = true) : narrow (.object s) v = v := by rcases ref_cases h with rfl | ⟨b, rfl⟩ <;> rfl
theorem fit_obj {s : String} {v : Value} (h : v.isRef = true) : fits (.object s) v = true := by rcases ref_cases h with rfl | ⟨b, rfl⟩ <;> rfl
end OwnMask

theorem n_shr1 {n : Nat} (q : n < 2147483648) : (Int32.ofNat n >>> ((1 : Int32) &&& 31)) = Int32.ofNat (n / 2) := by
  have e : (Int32.ofNat n).toBitVec = BitVec.ofNat 32 n := rfl
  apply Int32.toBitVec_inj.mp
  apply BitVec.eq_of_toNat_eq
  show ((Int32.ofNat n).toBitVec.sshiftRight' (((1 : Int32) &&& 31).toBitVec.smod 32)).toNat = (BitVec.ofNat 32 (n / 2)).toNat
  have m : (Int32.ofNat n).toBitVec.msb = false := by rw [e, BitVec.msb_eq_decide]; simp; omega
  rw [show ((1 : Int32) &&& 31).toBitVec.smod 32 = 1#32 from by decide, BitVec.sshiftRight_eq', BitVec.sshiftRight_eq_of_msb_false m, BitVec.toNat_ushiftRight, e, show (1#32).toNat = 1 from rfl, Nat.shiftRight_eq_div_pow, BitVec.toNat_ofNat, BitVec.toNat_ofNat]
  omega
theorem n_shl1 {n : Nat} (q : n < 1073741824) : (Int32.ofNat n <<< ((1 : Int32) &&& 31)) = Int32.ofNat (2 * n) := by
  rw [show (2 * n) = n + n by omega, Int32.ofNat_add]
  generalize Int32.ofNat n = z
  apply Int32.toBitVec_inj.mp
  show z.toBitVec <<< (((1 : Int32) &&& 31).toBitVec.smod 32) = z.toBitVec + z.toBitVec
  rw [show ((1 : Int32) &&& 31).toBitVec.smod 32 = 1#32 from by decide, BitVec.shiftLeft_eq']
  apply BitVec.eq_of_toNat_eq
  rw [BitVec.toNat_shiftLeft, BitVec.toNat_add, show (1#32).toNat = 1 from rfl, Nat.shiftLeft_eq]
  congr 1; omega
theorem n_shr0 (x : Int32) : x >>> ((0 : Int32) &&& 31) = x := sh0 x
theorem gti {xs : List Int32} {i : Nat} {c : Int32} (q : xs[i]? = some c) : (xs.map Value.int)[i]? = some (.int c) := by simp [q]
theorem pn0 : plainName "jdk/internal/util/Preconditions" = true := by first | (simp [plainName, overriddenIn]; done) | decide +kernel
theorem pd0 : parseMethodDescriptor "(IILjava/util/function/BiFunction;)I" = some ⟨[.int, .int, .object "java/util/function/BiFunction"], some (.int)⟩ := by decide +kernel
theorem pn1 : plainName "java/lang/String" = true := by first | (simp [plainName, overriddenIn]; done) | decide +kernel
theorem pd1 : parseMethodDescriptor "(II)V" = some ⟨[.int, .int], none⟩ := by decide +kernel
theorem pn2 : plainName "java/lang/StringLatin1" = true := by first | (simp [plainName, overriddenIn]; done) | decide +kernel
theorem pd2 : parseMethodDescriptor "([BI)C" = some ⟨[.array .byte, .int], some (.char)⟩ := by decide +kernel
theorem pd3 : parseMethodDescriptor "()Z" = some ⟨[], some (.boolean)⟩ := by decide +kernel
theorem pd4 : parseMethodDescriptor "(I)C" = some ⟨[.int], some (.char)⟩ := by decide +kernel
theorem lt_in {i n : Nat} (q : i < n) (r : n < 2147483648) : Int32.ofNat i < Int32.ofNat n := (n_lt (by omega) r).mpr q
set_option maxHeartbeats 1000000 in
theorem con_pcin (i n : Nat) (hi : i < n) (hn : n < 2147483648) : Con l Z n0 ⟨"jdk/internal/util/Preconditions", "checkIndex", "(IILjava/util/function/BiFunction;)I"⟩ jdk_41_method_11_code 3 (some (.int)) [] ({ frames := 0, cells := 0, slots := 0, locals := 0 } : Room) #[.int (Int32.ofNat i), .int (Int32.ofNat n), .null] h (fun v h' => v = some (.int (Int32.ofNat i)) ∧ h = h') := by
  refine Con.ofH (plainFor_of_name pn0) (L0 := #[.val (.int (Int32.ofNat i)), .val (.int (Int32.ofNat n)), .val (.null)]) (fun m => by first | (simp [entryFrame, mkF, argsToLocals, Value.category]; done) | rfl) ?_
  intro p e s m below meth c T K hret hnm N hs
  have g1 : Ld p e below T (mkF m 0 #[.val (.int (Int32.ofNat i)), .val (.int (Int32.ofNat n)), .val (.null)] []) T (mkF m 17 #[.val (.int (Int32.ofNat i)), .val (.int (Int32.ofNat n)), .val (.null)] [(.int (Int32.ofNat i))]) := goRun K N #[] [(0, .iload_n 0, 1), (1, .ifCond .lt 8, 3), (4, .iload_n 0, 1), (5, .iload_n 1, 1), (6, .if_icmp .lt 10, 3), (16, .iload_n 0, 1)] [.null, .ref 0] (P := (¬ (Int32.ofNat i) < (0 : Int32)) ∧ ((Int32.ofNat i) < (Int32.ofNat n)) ∧ True) (by decide +kernel) rfl ⟨(not_neg_of (n_ti (by omega))), (lt_in hi hn), trivial⟩
  exact ⟨_, T, _, h, _, _, N, by decide, by decide, fun q => (nomatch q), ⟨rfl, rfl⟩, g1, finI K N hret (by decide +kernel)⟩
set_option maxHeartbeats 1000000 in
theorem con_pcir (fa : Addr) (i n : Nat) (hi : i < n) (hn : n < 2147483648) : Con l Z n0 ⟨"jdk/internal/util/Preconditions", "checkIndex", "(IILjava/util/function/BiFunction;)I"⟩ jdk_41_method_11_code 3 (some (.int)) [] ({ frames := 0, cells := 0, slots := 0, locals := 0 } : Room) #[.int (Int32.ofNat i), .int (Int32.ofNat n), .ref fa] h (fun v h' => v = some (.int (Int32.ofNat i)) ∧ h = h') := by
  refine Con.ofH (plainFor_of_name pn0) (L0 := #[.val (.int (Int32.ofNat i)), .val (.int (Int32.ofNat n)), .val (.ref fa)]) (fun m => by first | (simp [entryFrame, mkF, argsToLocals, Value.category]; done) | rfl) ?_
  intro p e s m below meth c T K hret hnm N hs
  have g1 : Ld p e below T (mkF m 0 #[.val (.int (Int32.ofNat i)), .val (.int (Int32.ofNat n)), .val (.ref fa)] []) T (mkF m 17 #[.val (.int (Int32.ofNat i)), .val (.int (Int32.ofNat n)), .val (.ref fa)] [(.int (Int32.ofNat i))]) := goRun K N #[] [(0, .iload_n 0, 1), (1, .ifCond .lt 8, 3), (4, .iload_n 0, 1), (5, .iload_n 1, 1), (6, .if_icmp .lt 10, 3), (16, .iload_n 0, 1)] [.null, .ref 0] (P := (¬ (Int32.ofNat i) < (0 : Int32)) ∧ ((Int32.ofNat i) < (Int32.ofNat n)) ∧ True) (by decide +kernel) rfl ⟨(not_neg_of (n_ti (by omega))), (lt_in hi hn), trivial⟩
  exact ⟨_, T, _, h, _, _, N, by decide, by decide, fun q => (nomatch q), ⟨rfl, rfl⟩, g1, finI K N hret (by decide +kernel)⟩
set_option maxHeartbeats 1000000 in
theorem con_ci (hw : ∀ d ∈ tables_1, d.before a0 Z = true) {z : Int32} {fm : Value} (sf : SF Z z fm) (i n : Nat) (hi : i < n) (hn : n < 2147483648) (O : Old Z n0 h) : Con l Z n0 ⟨"java/lang/String", "checkIndex", "(II)V"⟩ jdk_42_method_155_code 2 none [] ({ frames := 1, cells := 0, slots := 0, locals := 14 } : Room) #[.int (Int32.ofNat i), .int (Int32.ofNat n)] h (fun v h' => v = none ∧ h = h') := by
  refine Con.ofH (plainFor_of_name pn1) (L0 := #[.val (.int (Int32.ofNat i)), .val (.int (Int32.ofNat n))]) (fun m => by first | (simp [entryFrame, mkF, argsToLocals, Value.category]; done) | rfl) ?_
  intro p e s m below meth c T K hret hnm N hs
  have O0 : Old Z n0 s.heap := by rw [hs]; exact O
  obtain ⟨fm', hfm⟩ : ∃ y, y = fm := ⟨_, rfl⟩
  have g1 : Ld p e below T (mkF m 0 #[.val (.int (Int32.ofNat i)), .val (.int (Int32.ofNat n))] []) T (mkF m 2 #[.val (.int (Int32.ofNat i)), .val (.int (Int32.ofNat n))] [(.int (Int32.ofNat n)), (.int (Int32.ofNat i))]) := goRun K N #[] [(0, .iload_n 0, 1), (1, .iload_n 1, 1)] [] (P := True) (by decide +kernel) rfl trivial
  rcases ref_cases (sf.2.2.2.1) with hfe | ⟨fa, hfe⟩
  · have hst := sf.2.2.1.ext (N.old O0).2
    rw [hfe] at hst
    obtain ⟨T2, N2, g2⟩ := goSta K N (tw hw 92 rfl) hst (pc := 2) (L := #[.val (.int (Int32.ofNat i)), .val (.int (Int32.ofNat n))]) (S := [(.int (Int32.ofNat n)), (.int (Int32.ofNat i))]) (by decide +kernel)
    obtain ⟨v3, T3, _, N3, ⟨rfl, rfl⟩, g3⟩ := goS K N2 (tw hw 94 rfl) (tw hw 95 rfl) (tw hw 93 rfl) (tw hw 96 rfl) (con_pcin i n hi hn) (argsL := [(.int (Int32.ofNat i)), (.int (Int32.ofNat n)), (.null)]) (W := 0) (rest := []) (by decide) (by decide) (by decide) (by decide) (by decide) (L := #[.val (.int (Int32.ofNat i)), .val (.int (Int32.ofNat n))]) rfl pd0 rfl (Nat.le_of_eq rfl) (pc := 5) (by decide +kernel)
    have g4 : Ld p e below T3 (mkF m 8 #[.val (.int (Int32.ofNat i)), .val (.int (Int32.ofNat n))] [(.int (Int32.ofNat i))]) T3 (mkF m 9 #[.val (.int (Int32.ofNat i)), .val (.int (Int32.ofNat n))] []) := goRun K N3 #[] [(8, .pop, 1)] [] (P := True) (by decide +kernel) rfl trivial
    exact ⟨none, T3, _, h, _, _, N3, by decide, by decide, fun _ => rfl, ⟨rfl, rfl⟩, g1.trans (g2.trans (g3.trans g4)), finV K N3 hret (by decide +kernel)⟩
  · have hst := sf.2.2.1.ext (N.old O0).2
    rw [hfe] at hst
    obtain ⟨T2, N2, g2⟩ := goSta K N (tw hw 92 rfl) hst (pc := 2) (L := #[.val (.int (Int32.ofNat i)), .val (.int (Int32.ofNat n))]) (S := [(.int (Int32.ofNat n)), (.int (Int32.ofNat i))]) (by decide +kernel)
    obtain ⟨v3, T3, _, N3, ⟨rfl, rfl⟩, g3⟩ := goS K N2 (tw hw 94 rfl) (tw hw 95 rfl) (tw hw 93 rfl) (tw hw 96 rfl) (con_pcir fa i n hi hn) (argsL := [(.int (Int32.ofNat i)), (.int (Int32.ofNat n)), (.ref fa)]) (W := 0) (rest := []) (by decide) (by decide) (by decide) (by decide) (by decide) (L := #[.val (.int (Int32.ofNat i)), .val (.int (Int32.ofNat n))]) rfl pd0 rfl (Nat.le_of_eq rfl) (pc := 5) (by decide +kernel)
    have g4 : Ld p e below T3 (mkF m 8 #[.val (.int (Int32.ofNat i)), .val (.int (Int32.ofNat n))] [(.int (Int32.ofNat i))]) T3 (mkF m 9 #[.val (.int (Int32.ofNat i)), .val (.int (Int32.ofNat n))] []) := goRun K N3 #[] [(8, .pop, 1)] [] (P := True) (by decide +kernel) rfl trivial
    exact ⟨none, T3, _, h, _, _, N3, by decide, by decide, fun _ => rfl, ⟨rfl, rfl⟩, g1.trans (g2.trans (g3.trans g4)), finV K N3 hret (by decide +kernel)⟩
set_option maxHeartbeats 1000000 in
theorem con_lca (hw : ∀ d ∈ tables_1, d.before a0 Z = true) {z : Int32} {fm : Value} (sf : SF Z z fm) {t : Addr} {cs : List Int32} (F : Av Z h t .byte ((cs.map lo8).map Value.int)) (hl : cs.length < 100000) {i : Nat} {cc : Int32} (hc : cs[i]? = some cc) (h1 : Ch cc) (h2 : cc.toInt ≤ 255) (O : Old Z n0 h) : Con l Z n0 ⟨"java/lang/StringLatin1", "charAt", "([BI)C"⟩ jdk_43_method_2_code 2 (some (.char)) [] ({ frames := 2, cells := 0, slots := 0, locals := 27 } : Room) #[.ref t, .int (Int32.ofNat i)] h (fun v h' => v = some (.int cc) ∧ h = h') := by
  refine Con.ofH (plainFor_of_name pn2) (L0 := #[.val (.ref t), .val (.int (Int32.ofNat i))]) (fun m => by first | (simp [entryFrame, mkF, argsToLocals, Value.category]; done) | rfl) ?_
  intro p e s m below meth c T K hret hnm N hs
  have O0 : Old Z n0 s.heap := by rw [hs]; exact O
  have hi : i < cs.length := (List.getElem?_eq_some_iff.mp hc).1
  have g1 : Ld p e below T (mkF m 0 #[.val (.ref t), .val (.int (Int32.ofNat i))] []) T (mkF m 3 #[.val (.ref t), .val (.int (Int32.ofNat i))] [(.int (Int32.ofNat cs.length)), (.int (Int32.ofNat i))]) := goRun K N #[] [(0, .iload_n 1, 1), (1, .aload_n 0, 1), (2, .arraylength, 1)] [.int (Int32.ofNat cs.length)] (P := (Ln Z h t (Int32.ofNat cs.length)) ∧ True) (by decide +kernel) rfl ⟨(F.ln (by rw [n_ti (by omega)]; simp)), trivial⟩
  obtain ⟨v2, T2, _, N2, ⟨rfl, rfl⟩, g2⟩ := goS K N (tw hw 89 rfl) (tw hw 90 rfl) (tw hw 40 rfl) (tw hw 91 rfl) (con_ci hw sf i cs.length hi (by omega) O) (argsL := [(.int (Int32.ofNat i)), (.int (Int32.ofNat cs.length))]) (W := 0) (rest := []) (by decide) (by decide) (by decide) (by decide) (by decide) (L := #[.val (.ref t), .val (.int (Int32.ofNat i))]) rfl pd1 rfl (Nat.le_of_eq rfl) (pc := 3) (by decide +kernel)
  have g3 : Ld p e below T2 (mkF m 6 #[.val (.ref t), .val (.int (Int32.ofNat i))] []) T2 (mkF m 14 #[.val (.ref t), .val (.int (Int32.ofNat i))] [(.int (((lo8 cc) &&& (255 : Int32)).toUInt32.toUInt16.toUInt32.toInt32))]) := goRun K N2 #[] [(6, .aload_n 0, 1), (7, .iload_n 1, 1), (8, .baload, 1), (9, .sipush 255, 3), (12, .iand, 1), (13, .i2c, 1)] [.int (lo8 cc)] (P := (Rd Z h t .byte (Int32.ofNat i) (.int (lo8 cc))) ∧ True) (by decide +kernel) rfl ⟨(F.rd (n_ti (by omega)) (gti (by simp [hc]))), trivial⟩
  rw [latin_back h1 h2] at g3
  exact ⟨_, T2, _, h, _, _, N2, by decide, by decide, fun q => (nomatch q), ⟨by rw [nar_ch h1], rfl⟩, g1.trans (g2.trans g3), finN K N2 hret (Or.inr (Or.inr (Or.inl rfl))) (by decide +kernel)⟩
set_option maxHeartbeats 1000000 in
theorem con_il0 (hw : ∀ d ∈ tables_1, d.before a0 Z = true) {z : Int32} {fm : Value} (sf : SF Z z fm) {a : Addr} (F : Fld Z h a "java/lang/String" "coder" "B" (.int 0)) (O : Old Z n0 h) : Con l Z n0 ⟨"java/lang/String", "isLatin1", "()Z"⟩ jdk_42_method_154_code 1 (some (.boolean)) [] ({ frames := 0, cells := 0, slots := 0, locals := 0 } : Room) #[.ref a] h (fun v h' => v = some (.int 1) ∧ h = h') := by
  refine Con.ofH (plainFor_of_name pn1) (L0 := #[.val (.ref a)]) (fun m => by first | (simp [entryFrame, mkF, argsToLocals, Value.category]; done) | rfl) ?_
  intro p e s m below meth c T K hret hnm N hs
  have O0 : Old Z n0 s.heap := by rw [hs]; exact O
  obtain ⟨T1, N1, g1⟩ := goSta K N (tw hw 51 rfl) (sf.1.ext (N.old O0).2) (pc := 0) (L := #[.val (.ref a)]) (S := []) (by decide +kernel)
  have g2 : Ld p e below T1 (mkF m 3 #[.val (.ref a)] [(.int z)]) T1 (mkF m 7 #[.val (.ref a)] [(.ref a)]) := goRun K N1 #[] [(3, .ifCond .eq 14, 3), (6, .aload_n 0, 1)] [.null] (P := (¬ z = (0 : Int32)) ∧ True) (by decide +kernel) rfl ⟨sf.2.1, trivial⟩
  obtain ⟨T3, N3, g3⟩ := goGet K N1 (tw hw 63 rfl) F (pc := 7) (L := #[.val (.ref a)]) (S := []) (by decide +kernel)
  have g4 : Ld p e below T3 (mkF m 10 #[.val (.ref a)] [(.int (0 : Int32))]) T3 (mkF m 18 #[.val (.ref a)] [(.int (1 : Int32))]) := goRun K N3 #[] [(10, .ifCond .ne 7, 3), (13, .iconst 1, 1), (14, .goto 4, 3)] [.null] (P := ((0 : Int32) = (0 : Int32)) ∧ True) (by decide +kernel) rfl ⟨rfl, trivial⟩
  exact ⟨_, T3, _, h, _, _, N3, by decide, by decide, fun q => (nomatch q), ⟨sb1, rfl⟩, g1.trans (g2.trans (g3.trans g4)), finN K N3 hret (Or.inl rfl) (by decide +kernel)⟩
set_option maxHeartbeats 1000000 in
theorem con_il1 (hw : ∀ d ∈ tables_1, d.before a0 Z = true) {z : Int32} {fm : Value} (sf : SF Z z fm) {a : Addr} (F : Fld Z h a "java/lang/String" "coder" "B" (.int 1)) (O : Old Z n0 h) : Con l Z n0 ⟨"java/lang/String", "isLatin1", "()Z"⟩ jdk_42_method_154_code 1 (some (.boolean)) [] ({ frames := 0, cells := 0, slots := 0, locals := 0 } : Room) #[.ref a] h (fun v h' => v = some (.int 0) ∧ h = h') := by
  refine Con.ofH (plainFor_of_name pn1) (L0 := #[.val (.ref a)]) (fun m => by first | (simp [entryFrame, mkF, argsToLocals, Value.category]; done) | rfl) ?_
  intro p e s m below meth c T K hret hnm N hs
  have O0 : Old Z n0 s.heap := by rw [hs]; exact O
  obtain ⟨T1, N1, g1⟩ := goSta K N (tw hw 51 rfl) (sf.1.ext (N.old O0).2) (pc := 0) (L := #[.val (.ref a)]) (S := []) (by decide +kernel)
  have g2 : Ld p e below T1 (mkF m 3 #[.val (.ref a)] [(.int z)]) T1 (mkF m 7 #[.val (.ref a)] [(.ref a)]) := goRun K N1 #[] [(3, .ifCond .eq 14, 3), (6, .aload_n 0, 1)] [.null] (P := (¬ z = (0 : Int32)) ∧ True) (by decide +kernel) rfl ⟨sf.2.1, trivial⟩
  obtain ⟨T3, N3, g3⟩ := goGet K N1 (tw hw 63 rfl) F (pc := 7) (L := #[.val (.ref a)]) (S := []) (by decide +kernel)
  have g4 : Ld p e below T3 (mkF m 10 #[.val (.ref a)] [(.int (1 : Int32))]) T3 (mkF m 18 #[.val (.ref a)] [(.int (0 : Int32))]) := goRun K N3 #[] [(10, .ifCond .ne 7, 3), (17, .iconst 0, 1)] [.ref 0] (P := (¬ (1 : Int32) = (0 : Int32)) ∧ True) (by decide +kernel) rfl ⟨(by decide), trivial⟩
  exact ⟨_, T3, _, h, _, _, N3, by decide, by decide, fun q => (nomatch q), ⟨sb0, rfl⟩, g1.trans (g2.trans (g3.trans g4)), finN K N3 hret (Or.inl rfl) (by decide +kernel)⟩
theorem pn3 : plainName "java/lang/StringUTF16" = true := by first | (simp [plainName, overriddenIn]; done) | decide +kernel
theorem pd5 : parseMethodDescriptor "([B)I" = some ⟨[.array .byte], some (.int)⟩ := by decide +kernel
set_option maxHeartbeats 1000000 in
theorem con_ul {t : Addr} {vs : List Value} {n : Nat} (F : Av Z h t .byte vs) (hl : vs.length = 2 * n) (hn : n < 100000) : Con l Z n0 ⟨"java/lang/StringUTF16", "length", "([B)I"⟩ jdk_52_method_6_code 1 (some (.int)) [] ({ frames := 0, cells := 0, slots := 0, locals := 0 } : Room) #[.ref t] h (fun v h' => v = some (.int (Int32.ofNat n)) ∧ h = h') := by
  refine Con.ofH (plainFor_of_name pn3) (L0 := #[.val (.ref t)]) (fun m => by first | (simp [entryFrame, mkF, argsToLocals, Value.category]; done) | rfl) ?_
  intro p e s m below meth c T K hret hnm N hs
  have g1 : Ld p e below T (mkF m 0 #[.val (.ref t)] []) T (mkF m 4 #[.val (.ref t)] [(.int ((Int32.ofNat (2 * n)) >>> ((1 : Int32) &&& 31)))]) := goRun K N #[] [(0, .aload_n 0, 1), (1, .arraylength, 1), (2, .iconst 1, 1), (3, .ishr, 1)] [.int (Int32.ofNat (2 * n))] (P := (Ln Z h t (Int32.ofNat (2 * n))) ∧ True) (by decide +kernel) rfl ⟨(F.ln (by rw [n_ti (by omega), hl])), trivial⟩
  rw [n_shr1 (by omega), show 2 * n / 2 = n by omega] at g1
  exact ⟨_, T, _, h, _, _, N, by decide, by decide, fun q => (nomatch q), ⟨rfl, rfl⟩, g1, finI K N hret (by decide +kernel)⟩
set_option maxHeartbeats 1000000 in
theorem con_gc (hw : ∀ d ∈ tables_1, d.before a0 Z = true) {z : Int32} {fm : Value} (sf : SF Z z fm) {t : Addr} {cs : List Int32} (F : Av Z h t .byte ((u16 cs).map Value.int)) (hl : cs.length < 100000) {i : Nat} {cc : Int32} (hc : cs[i]? = some cc) (h1 : Ch cc) (O : Old Z n0 h) : Con l Z n0 ⟨"java/lang/StringUTF16", "getChar", "([BI)C"⟩ jdk_52_method_5_code 2 (some (.char)) [] ({ frames := 0, cells := 0, slots := 0, locals := 0 } : Room) #[.ref t, .int (Int32.ofNat i)] h (fun v h' => v = some (.int cc) ∧ h = h') := by
  refine Con.ofH (plainFor_of_name pn3) (L0 := #[.val (.ref t), .val (.int (Int32.ofNat i))]) (fun m => by first | (simp [entryFrame, mkF, argsToLocals, Value.category]; done) | rfl) ?_
  intro p e s m below meth c T K hret hnm N hs
  have O0 : Old Z n0 s.heap := by rw [hs]; exact O
  have hi : i < cs.length := (List.getElem?_eq_some_iff.mp hc).1
  obtain ⟨u1, u2⟩ := u16_lo cs i cc hc
  obtain ⟨T1, N1, g1⟩ := goSta K N (tw hw 111 rfl) (sf.2.2.2.2.1.ext (N.old O0).2) (pc := 0) (L := #[.val (.ref t), .val (.int (Int32.ofNat i))]) (S := []) (by decide +kernel)
  have g2 : Ld p e below T1 (mkF m 3 #[.val (.ref t), .val (.int (Int32.ofNat i))] [(.int (1 : Int32))]) T1 (mkF m 32 #[.val (.ref t), .val (.int ((Int32.ofNat i) <<< ((1 : Int32) &&& 31)))] []) := goRun K N1 #[] [(3, .ifCond .ne 25, 3), (28, .iload_n 1, 1), (29, .iconst 1, 1), (30, .ishl, 1), (31, .istore_n 1, 1)] [.ref 0] (P := (¬ (1 : Int32) = (0 : Int32)) ∧ True) (by decide +kernel) rfl ⟨(by decide), trivial⟩
  rw [n_shl1 (by omega)] at g2
  have g3 : Ld p e below T1 (mkF m 32 #[.val (.ref t), .val (.int (Int32.ofNat (2 * i)))] []) T1 (mkF m 42 #[.val (.ref t), .val (.int ((Int32.ofNat (2 * i)) + (1 : Int32)))] [(.int ((lo8 cc) &&& (255 : Int32)))]) := goRun K N1 #[] [(32, .aload_n 0, 1), (33, .iload_n 1, 1), (34, .iinc 1 1, 3), (37, .baload, 1), (38, .sipush 255, 3), (41, .iand, 1)] [.int (lo8 cc)] (P := (Rd Z h t .byte (Int32.ofNat (2 * i)) (.int (lo8 cc))) ∧ True) (by decide +kernel) rfl ⟨(F.rd (n_ti (by omega)) (gti u1)), trivial⟩
  rw [n_one] at g3
  obtain ⟨T4, N4, g4⟩ := goSta K N1 (tw hw 112 rfl) (sf.2.2.2.2.2.1.ext (N1.old O0).2) (pc := 42) (L := #[.val (.ref t), .val (.int (Int32.ofNat (2 * i + 1)))]) (S := [(.int ((lo8 cc) &&& (255 : Int32)))]) (by decide +kernel)
  have g5 : Ld p e below T4 (mkF m 45 #[.val (.ref t), .val (.int (Int32.ofNat (2 * i + 1)))] [(.int (0 : Int32)), (.int ((lo8 cc) &&& (255 : Int32)))]) T4 (mkF m 53 #[.val (.ref t), .val (.int (Int32.ofNat (2 * i + 1)))] [(.int ((hi8 cc) &&& (255 : Int32))), (.int (((lo8 cc) &&& (255 : Int32)) <<< ((0 : Int32) &&& 31)))]) := goRun K N4 #[] [(45, .ishl, 1), (46, .aload_n 0, 1), (47, .iload_n 1, 1), (48, .baload, 1), (49, .sipush 255, 3), (52, .iand, 1)] [.int (hi8 cc)] (P := (Rd Z h t .byte (Int32.ofNat (2 * i + 1)) (.int (hi8 cc))) ∧ True) (by decide +kernel) rfl ⟨(F.rd (n_ti (by omega)) (gti u2)), trivial⟩
  obtain ⟨T6, N6, g6⟩ := goSta K N4 (tw hw 113 rfl) (sf.2.2.2.2.2.2.ext (N4.old O0).2) (pc := 53) (L := #[.val (.ref t), .val (.int (Int32.ofNat (2 * i + 1)))]) (S := [(.int ((hi8 cc) &&& (255 : Int32))), (.int (((lo8 cc) &&& (255 : Int32)) <<< ((0 : Int32) &&& 31)))]) (by decide +kernel)
  have g7 : Ld p e below T6 (mkF m 56 #[.val (.ref t), .val (.int (Int32.ofNat (2 * i + 1)))] [(.int (8 : Int32)), (.int ((hi8 cc) &&& (255 : Int32))), (.int (((lo8 cc) &&& (255 : Int32)) <<< ((0 : Int32) &&& 31)))]) T6 (mkF m 59 #[.val (.ref t), .val (.int (Int32.ofNat (2 * i + 1)))] [(.int (((((lo8 cc) &&& (255 : Int32)) <<< ((0 : Int32) &&& 31)) ||| (((hi8 cc) &&& (255 : Int32)) <<< ((8 : Int32) &&& 31))).toUInt32.toUInt16.toUInt32.toInt32))]) := goRun K N6 #[] [(56, .ishl, 1), (57, .ior, 1), (58, .i2c, 1)] [] (P := True) (by decide +kernel) rfl trivial
  rw [utf_back h1] at g7
  exact ⟨_, T6, _, h, _, _, N6, by decide, by decide, fun q => (nomatch q), ⟨by rw [nar_ch h1], rfl⟩, g1.trans (g2.trans (g3.trans (g4.trans (g5.trans (g6.trans g7))))), finN K N6 hret (Or.inr (Or.inr (Or.inl rfl))) (by decide +kernel)⟩
theorem pd6 : parseMethodDescriptor "(I[B)V" = some ⟨[.int, .array .byte], none⟩ := by decide +kernel
set_option maxHeartbeats 1000000 in
theorem con_uci (hw : ∀ d ∈ tables_1, d.before a0 Z = true) {z : Int32} {fm : Value} (sf : SF Z z fm) {t : Addr} {vs : List Value} {n : Nat} (F : Av Z h t .byte vs) (hl : vs.length = 2 * n) (hn : n < 100000) (i : Nat) (hi : i < n) (O : Old Z n0 h) : Con l Z n0 ⟨"java/lang/StringUTF16", "checkIndex", "(I[B)V"⟩ jdk_52_method_91_code 2 none [] ({ frames := 2, cells := 0, slots := 0, locals := 27 } : Room) #[.int (Int32.ofNat i), .ref t] h (fun v h' => v = none ∧ h = h') := by
  refine Con.ofH (plainFor_of_name pn3) (L0 := #[.val (.int (Int32.ofNat i)), .val (.ref t)]) (fun m => by first | (simp [entryFrame, mkF, argsToLocals, Value.category]; done) | rfl) ?_
  intro p e s m below meth c T K hret hnm N hs
  have O0 : Old Z n0 s.heap := by rw [hs]; exact O
  have g1 : Ld p e below T (mkF m 0 #[.val (.int (Int32.ofNat i)), .val (.ref t)] []) T (mkF m 2 #[.val (.int (Int32.ofNat i)), .val (.ref t)] [(.ref t), (.int (Int32.ofNat i))]) := goRun K N #[] [(0, .iload_n 0, 1), (1, .aload_n 1, 1)] [] (P := True) (by decide +kernel) rfl trivial
  obtain ⟨v2, T2, _, N2, ⟨rfl, rfl⟩, g2⟩ := goS K N (tw hw 123 rfl) (tw hw 124 rfl) (tw hw 54 rfl) (tw hw 125 rfl) (con_ul F hl hn) (argsL := [(.ref t)]) (W := 1) (rest := [(.int (Int32.ofNat i))]) (by decide) (by decide) (by decide) (by decide) (by decide) (L := #[.val (.int (Int32.ofNat i)), .val (.ref t)]) rfl pd5 rfl (Nat.le_of_eq rfl) (pc := 2) (by decide +kernel)
  obtain ⟨v3, T3, _, N3, ⟨rfl, rfl⟩, g3⟩ := goS K N2 (tw hw 126 rfl) (tw hw 90 rfl) (tw hw 40 rfl) (tw hw 91 rfl) (con_ci hw sf i n hi (by omega) O) (argsL := [(.int (Int32.ofNat i)), (.int (Int32.ofNat n))]) (W := 0) (rest := []) (by decide) (by decide) (by decide) (by decide) (by decide) (L := #[.val (.int (Int32.ofNat i)), .val (.ref t)]) rfl pd1 rfl (Nat.le_of_eq rfl) (pc := 5) (by decide +kernel)
  exact ⟨none, T3, _, h, _, _, N3, by decide, by decide, fun _ => rfl, ⟨rfl, rfl⟩, g1.trans (g2.trans g3), finV K N3 hret (by decide +kernel)⟩
set_option maxHeartbeats 1000000 in
theorem con_uca (hw : ∀ d ∈ tables_1, d.before a0 Z = true) {z : Int32} {fm : Value} (sf : SF Z z fm) {t : Addr} {cs : List Int32} (F : Av Z h t .byte ((u16 cs).map Value.int)) (hl : cs.length < 100000) {i : Nat} {cc : Int32} (hc : cs[i]? = some cc) (h1 : Ch cc) (O : Old Z n0 h) : Con l Z n0 ⟨"java/lang/StringUTF16", "charAt", "([BI)C"⟩ jdk_52_method_83_code 2 (some (.char)) [] ({ frames := 3, cells := 0, slots := 0, locals := 40 } : Room) #[.ref t, .int (Int32.ofNat i)] h (fun v h' => v = some (.int cc) ∧ h = h') := by
  refine Con.ofH (plainFor_of_name pn3) (L0 := #[.val (.ref t), .val (.int (Int32.ofNat i))]) (fun m => by first | (simp [entryFrame, mkF, argsToLocals, Value.category]; done) | rfl) ?_
  intro p e s m below meth c T K hret hnm N hs
  have O0 : Old Z n0 s.heap := by rw [hs]; exact O
  have hi : i < cs.length := (List.getElem?_eq_some_iff.mp hc).1
  have g1 : Ld p e below T (mkF m 0 #[.val (.ref t), .val (.int (Int32.ofNat i))] []) T (mkF m 2 #[.val (.ref t), .val (.int (Int32.ofNat i))] [(.ref t), (.int (Int32.ofNat i))]) := goRun K N #[] [(0, .iload_n 1, 1), (1, .aload_n 0, 1)] [] (P := True) (by decide +kernel) rfl trivial
  obtain ⟨v2, T2, _, N2, ⟨rfl, rfl⟩, g2⟩ := goS K N (tw hw 120 rfl) (tw hw 121 rfl) (tw hw 54 rfl) (tw hw 122 rfl) (con_uci hw sf F (by rw [List.length_map, u16_len]) hl i hi O) (argsL := [(.int (Int32.ofNat i)), (.ref t)]) (W := 0) (rest := []) (by decide) (by decide) (by decide) (by decide) (by decide) (L := #[.val (.ref t), .val (.int (Int32.ofNat i))]) rfl pd6 rfl (Nat.le_of_eq rfl) (pc := 2) (by decide +kernel)
  have g3 : Ld p e below T2 (mkF m 5 #[.val (.ref t), .val (.int (Int32.ofNat i))] []) T2 (mkF m 7 #[.val (.ref t), .val (.int (Int32.ofNat i))] [(.int (Int32.ofNat i)), (.ref t)]) := goRun K N2 #[] [(5, .aload_n 0, 1), (6, .iload_n 1, 1)] [] (P := True) (by decide +kernel) rfl trivial
  obtain ⟨v4, T4, _, N4, ⟨rfl, rfl⟩, g4⟩ := goS K N2 (tw hw 114 rfl) (tw hw 115 rfl) (tw hw 54 rfl) (tw hw 116 rfl) (con_gc hw sf F hl hc h1 O) (argsL := [(.ref t), (.int (Int32.ofNat i))]) (W := 0) (rest := []) (by decide) (by decide) (by decide) (by decide) (by decide) (L := #[.val (.ref t), .val (.int (Int32.ofNat i))]) rfl pd2 rfl (Nat.le_of_eq rfl) (pc := 7) (by decide +kernel)
  exact ⟨_, T4, _, h, _, _, N4, by decide, by decide, fun q => (nomatch q), ⟨by rw [nar_ch h1], rfl⟩, g1.trans (g2.trans (g3.trans g4)), finN K N4 hret (Or.inr (Or.inr (Or.inl rfl))) (by decide +kernel)⟩
set_option maxHeartbeats 1000000 in
theorem con_ca (hw : ∀ d ∈ tables_1, d.before a0 Z = true) {z : Int32} {fm : Value} (sf : SF Z z fm) {a t : Addr} {cs : List Int32} (F : Stv Z h a t cs) {i : Nat} {cc : Int32} (hc : cs[i]? = some cc) (O : Old Z n0 h) : Con l Z n0 ⟨"java/lang/String", "charAt", "(I)C"⟩ jdk_42_method_56_code 2 (some (.char)) [] ({ frames := 4, cells := 0, slots := 0, locals := 53 } : Room) #[.ref a, .int (Int32.ofNat i)] h (fun v h' => v = some (.int cc) ∧ h = h') := by
  refine Con.ofH (plainFor_of_name pn1) (L0 := #[.val (.ref a), .val (.int (Int32.ofNat i))]) (fun m => by first | (simp [entryFrame, mkF, argsToLocals, Value.category]; done) | rfl) ?_
  intro p e s m below meth c T K hret hnm N hs
  have O0 : Old Z n0 s.heap := by rw [hs]; exact O
  obtain ⟨X, f1, f2, f3, f4⟩ := F
  have h1 : Ch cc := f1 _ (List.mem_of_getElem? hc)
  have g1 : Ld p e below T (mkF m 0 #[.val (.ref a), .val (.int (Int32.ofNat i))] []) T (mkF m 1 #[.val (.ref a), .val (.int (Int32.ofNat i))] [(.ref a)]) := goRun K N #[] [(0, .aload_n 0, 1)] [] (P := True) (by decide +kernel) rfl trivial
  rcases f4 with ⟨f5, f6, f7⟩ | ⟨f5, f7⟩
  · obtain ⟨v2, T2, _, N2, ⟨rfl, rfl⟩, g2⟩ := goVi K N (a := a) X (tw hw 80 rfl) (tw hw 81 rfl) (tw hw 83 rfl) (tw hw 82 rfl) (tw hw 40 rfl) (tw hw 84 rfl) (con_il0 hw sf f5 O) (argsL := []) (W := 0) (rest := []) (by decide) (by decide) (by decide) (by decide) (by decide) (L := #[.val (.ref a), .val (.int (Int32.ofNat i))]) rfl pd3 rfl (Nat.le_of_eq rfl) (pc := 1) (by decide +kernel)
    have g3 : Ld p e below T2 (mkF m 4 #[.val (.ref a), .val (.int (Int32.ofNat i))] [(.int (1 : Int32))]) T2 (mkF m 8 #[.val (.ref a), .val (.int (Int32.ofNat i))] [(.ref a)]) := goRun K N2 #[] [(4, .ifCond .eq 12, 3), (7, .aload_n 0, 1)] [.null] (P := (¬ (1 : Int32) = (0 : Int32)) ∧ True) (by decide +kernel) rfl ⟨(by decide), trivial⟩
    obtain ⟨T4, N4, g4⟩ := goGet K N2 (tw hw 65 rfl) f3 (pc := 8) (L := #[.val (.ref a), .val (.int (Int32.ofNat i))]) (S := []) (by decide +kernel)
    have g5 : Ld p e below T4 (mkF m 11 #[.val (.ref a), .val (.int (Int32.ofNat i))] [(.ref t)]) T4 (mkF m 12 #[.val (.ref a), .val (.int (Int32.ofNat i))] [(.int (Int32.ofNat i)), (.ref t)]) := goRun K N4 #[] [(11, .iload_n 1, 1)] [] (P := True) (by decide +kernel) rfl trivial
    obtain ⟨v6, T6, _, N6, ⟨rfl, rfl⟩, g6⟩ := goS K N4 (tw hw 85 rfl) (tw hw 86 rfl) (tw hw 87 rfl) (tw hw 88 rfl) (con_lca hw sf f7 (by omega) hc h1 (f6 _ (List.mem_of_getElem? hc)) O) (argsL := [(.ref t), (.int (Int32.ofNat i))]) (W := 0) (rest := []) (by decide) (by decide) (by decide) (by decide) (by decide) (L := #[.val (.ref a), .val (.int (Int32.ofNat i))]) rfl pd2 rfl (Nat.le_of_eq rfl) (pc := 12) (by decide +kernel)
    exact ⟨_, T6, _, h, _, _, N6, by decide, by decide, fun q => (nomatch q), ⟨by rw [nar_ch h1], rfl⟩, g1.trans (g2.trans (g3.trans (g4.trans (g5.trans g6)))), finN K N6 hret (Or.inr (Or.inr (Or.inl rfl))) (by decide +kernel)⟩
  · obtain ⟨v2, T2, _, N2, ⟨rfl, rfl⟩, g2⟩ := goVi K N (a := a) X (tw hw 80 rfl) (tw hw 81 rfl) (tw hw 83 rfl) (tw hw 82 rfl) (tw hw 40 rfl) (tw hw 84 rfl) (con_il1 hw sf f5 O) (argsL := []) (W := 0) (rest := []) (by decide) (by decide) (by decide) (by decide) (by decide) (L := #[.val (.ref a), .val (.int (Int32.ofNat i))]) rfl pd3 rfl (Nat.le_of_eq rfl) (pc := 1) (by decide +kernel)
    have g3 : Ld p e below T2 (mkF m 4 #[.val (.ref a), .val (.int (Int32.ofNat i))] [(.int (0 : Int32))]) T2 (mkF m 17 #[.val (.ref a), .val (.int (Int32.ofNat i))] [(.ref a)]) := goRun K N2 #[] [(4, .ifCond .eq 12, 3), (16, .aload_n 0, 1)] [.ref 0] (P := ((0 : Int32) = (0 : Int32)) ∧ True) (by decide +kernel) rfl ⟨rfl, trivial⟩
    obtain ⟨T4, N4, g4⟩ := goGet K N2 (tw hw 65 rfl) f3 (pc := 17) (L := #[.val (.ref a), .val (.int (Int32.ofNat i))]) (S := []) (by decide +kernel)
    have g5 : Ld p e below T4 (mkF m 20 #[.val (.ref a), .val (.int (Int32.ofNat i))] [(.ref t)]) T4 (mkF m 21 #[.val (.ref a), .val (.int (Int32.ofNat i))] [(.int (Int32.ofNat i)), (.ref t)]) := goRun K N4 #[] [(20, .iload_n 1, 1)] [] (P := True) (by decide +kernel) rfl trivial
    obtain ⟨v6, T6, _, N6, ⟨rfl, rfl⟩, g6⟩ := goS K N4 (tw hw 117 rfl) (tw hw 118 rfl) (tw hw 54 rfl) (tw hw 119 rfl) (con_uca hw sf f7 (by omega) hc h1 O) (argsL := [(.ref t), (.int (Int32.ofNat i))]) (W := 0) (rest := []) (by decide) (by decide) (by decide) (by decide) (by decide) (L := #[.val (.ref a), .val (.int (Int32.ofNat i))]) rfl pd2 rfl (Nat.le_of_eq rfl) (pc := 21) (by decide +kernel)
    exact ⟨_, T6, _, h, _, _, N6, by decide, by decide, fun q => (nomatch q), ⟨by rw [nar_ch h1], rfl⟩, g1.trans (g2.trans (g3.trans (g4.trans (g5.trans g6)))), finN K N6 hret (Or.inr (Or.inr (Or.inl rfl))) (by decide +kernel)⟩
theorem take_succ_of {α : Type} {cs : List α} {i : Nat} {c : α} (q : cs[i]? = some c) : cs.take (i + 1) = cs.take i ++ [c] := by
  rw [List.take_add_one, q]; rfl
theorem u16_app (a b : List Int32) : u16 (a ++ b) = u16 a ++ u16 b := by simp [u16]
def wv (cs : List Int32) (i : Nat) : List Value := (u16 (cs.take i)).map Value.int ++ List.replicate (2 * (cs.length - i)) (.int 0)
theorem wv_len {cs : List Int32} {i : Nat} (q : i ≤ cs.length) : (wv cs i).length = 2 * cs.length := by
  simp only [wv, List.length_append, List.length_map, u16_len, List.length_take, List.length_replicate]; omega
theorem wv_0 (cs : List Int32) : wv cs 0 = List.replicate (2 * cs.length) (.int 0) := by simp [wv, u16]
theorem wv_n (cs : List Int32) : wv cs cs.length = (u16 cs).map Value.int := by simp [wv]
theorem set2 {α : Type} (A R : List α) (z1 z2 x y : α) {k : Nat} (hk : k = A.length) : ((A ++ z1 :: z2 :: R).set k x).set (k + 1) y = A ++ x :: y :: R := by
  subst hk; simp
theorem set1 {α : Type} (A R : List α) (z x : α) {k : Nat} (hk : k = A.length) : (A ++ z :: R).set k x = A ++ x :: R := by
  subst hk; simp
theorem wv_set {cs : List Int32} {i : Nat} {c : Int32} (q : cs[i]? = some c) : ((wv cs i).set (2 * i) (.int (lo8 c))).set (2 * i + 1) (.int (hi8 c)) = wv cs (i + 1) := by
  have hi : i < cs.length := (List.getElem?_eq_some_iff.mp q).1
  unfold wv
  rw [show 2 * (cs.length - i) = (2 * (cs.length - (i + 1))) + 1 + 1 by omega, List.replicate_succ, List.replicate_succ]
  rw [set2 _ _ _ _ _ _ (by rw [List.length_map, u16_len, List.length_take]; omega), take_succ_of q, u16_app]
  simp [u16]
def bv (cs : List Int32) (i : Nat) : List Value := ((cs.take i).map lo8).map Value.int ++ List.replicate (cs.length - i) (.int 0)
theorem bv_len {cs : List Int32} {i : Nat} (q : i ≤ cs.length) : (bv cs i).length = cs.length := by
  simp only [bv, List.length_append, List.length_map, List.length_take, List.length_replicate]; omega
theorem bv_0 (cs : List Int32) : bv cs 0 = List.replicate cs.length (.int 0) := by simp [bv]
theorem bv_n (cs : List Int32) : bv cs cs.length = (cs.map lo8).map Value.int := by simp [bv]
theorem bv_set {cs : List Int32} {i : Nat} {c : Int32} (q : cs[i]? = some c) : (bv cs i).set i (.int (lo8 c)) = bv cs (i + 1) := by
  have hi : i < cs.length := (List.getElem?_eq_some_iff.mp q).1
  unfold bv
  rw [show cs.length - i = (cs.length - (i + 1)) + 1 by omega, List.replicate_succ, take_succ_of q]
  rw [set1 _ _ _ _ (by simp; omega)]
  simp
theorem ushr_0 (n : Nat) : XT.ushr (Int32.ofNat n - Int32.ofNat n) (31 : Int32) = 0 := by rw [Int32.sub_self]; decide
theorem ushr_1 {n : Nat} (q : 0 < n) (r : n < 1073741824) : XT.ushr (Int32.ofNat n - Int32.ofNat (2 * n)) (31 : Int32) = 1 := by
  apply Int32.toBitVec_inj.mp
  apply BitVec.eq_of_toNat_eq
  show (((BitVec.ofNat 32 n) - (BitVec.ofNat 32 (2 * n))) >>> (((31 : Int32) &&& 31).toBitVec.toNat)).toNat = 1
  rw [show ((31 : Int32) &&& 31).toBitVec.toNat = 31 from by decide, BitVec.toNat_ushiftRight, BitVec.toNat_sub, BitVec.toNat_ofNat, BitVec.toNat_ofNat, Nat.shiftRight_eq_div_pow]
  omega
theorem gt255 {c : Int32} (h : ¬ c.toInt ≤ 255) : ¬ ¬ (255 : Int32) < c := fun z => z (by rw [Int32.lt_iff_toInt_lt, show (255 : Int32).toInt = 255 from rfl]; omega)
theorem le255 {c : Int32} (h : c.toInt ≤ 255) : ¬ (255 : Int32) < c := by rw [Int32.lt_iff_toInt_lt, show (255 : Int32).toInt = 255 from rfl]; omega
theorem pd7 : parseMethodDescriptor "([CI[BII)I" = some ⟨[.array .char, .int, .array .byte, .int, .int], some (.int)⟩ := by decide +kernel
theorem pd8 : parseMethodDescriptor "([CII)[B" = some ⟨[.array .char, .int, .int], some (.array .byte)⟩ := by decide +kernel
theorem pd9 : parseMethodDescriptor "([BI)B" = some ⟨[.array .byte, .int], some (.byte)⟩ := by decide +kernel
theorem pd10 : parseMethodDescriptor "([CIILjava/lang/Void;)V" = some ⟨[.array .char, .int, .int, .object "java/lang/Void"], none⟩ := by decide +kernel
theorem pd11 : parseMethodDescriptor "([C)V" = some ⟨[.array .char], none⟩ := by decide +kernel
theorem pd12 : parseMethodDescriptor "(I)I" = some ⟨[.int], some (.int)⟩ := by decide +kernel
theorem pd13 : parseMethodDescriptor "(I)[B" = some ⟨[.int], some (.array .byte)⟩ := by decide +kernel
theorem pd14 : parseMethodDescriptor "([BII)V" = some ⟨[.array .byte, .int, .int], none⟩ := by decide +kernel
set_option maxHeartbeats 1000000 in
theorem con_nbl (hw : ∀ d ∈ tables_1, d.before a0 Z = true) (n : Nat) (hn : n < 100000) : Con l Z n0 ⟨"java/lang/StringUTF16", "newBytesLength", "(I)I"⟩ jdk_52_method_3_code 1 (some (.int)) [] ({ frames := 0, cells := 0, slots := 0, locals := 0 } : Room) #[.int (Int32.ofNat n)] h (fun v h' => v = some (.int (Int32.ofNat (2 * n))) ∧ h = h') := by
  refine Con.ofH (plainFor_of_name pn3) (L0 := #[.val (.int (Int32.ofNat n))]) (fun m => by first | (simp [entryFrame, mkF, argsToLocals, Value.category]; done) | rfl) ?_
  intro p e s m below meth c T K hret hnm N hs
  have g1 : Ld p e below T (mkF m 0 #[.val (.int (Int32.ofNat n))] []) T (mkF m 58 #[.val (.int (Int32.ofNat n))] [(.int ((Int32.ofNat n) <<< ((1 : Int32) &&& 31)))]) := goRun K N a0 [(0, .iload_n 0, 1), (1, .ifCond .ge 11, 3), (12, .iload_n 0, 1), (13, .ldc 20, 2), (15, .if_icmp .lt 40, 3), (55, .iload_n 0, 1), (56, .iconst 1, 1), (57, .ishl, 1)] [.ref 0, .int (1073741823 : Int32), .ref 0] (P := (¬ (Int32.ofNat n) < (0 : Int32)) ∧ ((Jvm.Cond.constant "java/lang/StringUTF16" 20 (1073741823 : Int32)).before a0 Z = true) ∧ ((Int32.ofNat n) < (1073741823 : Int32)) ∧ True) (by decide +kernel) rfl ⟨(not_neg_of (n_ti (by omega))), (tw hw 107 rfl), ((n_lt (i := n) (j := 1073741823) (by omega) (by omega)).mpr (by omega)), trivial⟩
  rw [n_shl1 (by omega)] at g1
  exact ⟨_, T, _, h, _, _, N, by decide, by decide, fun q => (nomatch q), ⟨rfl, rfl⟩, g1, finI K N hret (by decide +kernel)⟩
set_option maxHeartbeats 1000000 in
theorem con_nbf (hw : ∀ d ∈ tables_1, d.before a0 Z = true) (n : Nat) (hn : n ≤ 18) : Con l Z n0 ⟨"java/lang/StringUTF16", "newBytesFor", "(I)[B"⟩ jdk_52_method_2_code 1 (some (.array .byte)) [] ({ frames := 1, cells := 1, slots := 36, locals := 12 } : Room) #[.int (Int32.ofNat n)] h (fun v h' => ∃ t, v = some (.ref t) ∧ t = h.size ∧ Ext h h' ∧ Av Z h' t .byte (List.replicate (2 * n) (.int 0))) := by
  refine Con.ofH (plainFor_of_name pn3) (L0 := #[.val (.int (Int32.ofNat n))]) (fun m => by first | (simp [entryFrame, mkF, argsToLocals, Value.category]; done) | rfl) ?_
  intro p e s m below meth c T K hret hnm N hs
  have g1 : Ld p e below T (mkF m 0 #[.val (.int (Int32.ofNat n))] []) T (mkF m 1 #[.val (.int (Int32.ofNat n))] [(.int (Int32.ofNat n))]) := goRun K N #[] [(0, .iload_n 0, 1)] [] (P := True) (by decide +kernel) rfl trivial
  obtain ⟨v2, T2, _, N2, ⟨rfl, rfl⟩, g2⟩ := goS K N (tw hw 104 rfl) (tw hw 105 rfl) (tw hw 54 rfl) (tw hw 106 rfl) (con_nbl hw n (by omega)) (argsL := [(.int (Int32.ofNat n))]) (W := 0) (rest := []) (by decide) (by decide) (by decide) (by decide) (by decide) (L := #[.val (.int (Int32.ofNat n))]) rfl pd12 rfl (Nat.le_of_eq rfl) (pc := 1) (by decide +kernel)
  have hn1 : (Int32.ofNat (2 * n)).toInt = ((2 * n : Nat) : Int) := n_ti (by omega)
  obtain ⟨T3, h3, a3, cA3, ea3, N3, E3, A3, g3⟩ := goNewP K N2 (aty := .byte) (tw hw 56 rfl) (n := Int32.ofNat (2 * n)) (not_neg_of hn1) (cap := 36) (by rw [clamp_of hn1]; omega) (by decide) (by decide) (by decide) (pc := 4) (L := #[.val (.int (Int32.ofNat n))]) (S := []) (by decide +kernel)
  have A3 := Av.new A3 (not_neg_of hn1) hn1
  have ha3 : n0 ≤ a3 := ea3 ▸ N2.size
  exact ⟨_, T3, _, h3, _, _, N3, by decide, by decide, fun q => (nomatch q), ⟨_, rfl, ea3, E3, A3⟩, g1.trans (g2.trans g3), finA K N3 hret rfl rfl rfl (by decide +kernel)⟩
set_option maxHeartbeats 1000000 in
theorem con_pc (hw : ∀ d ∈ tables_1, d.before a0 Z = true) {z : Int32} {fm : Value} (sf : SF Z z fm) {t : Addr} {vs : List Value} {n : Nat} (F : Av Z h t .byte vs) (hl : vs.length = 2 * n) (hn : n < 100000) {i : Nat} (hi : i < n) (cc : Int32) (ha : n0 ≤ t) (O : Old Z n0 h) : Con l Z n0 ⟨"java/lang/StringUTF16", "putChar", "([BII)V"⟩ jdk_52_method_4_code 3 none [] ({ frames := 0, cells := 0, slots := 0, locals := 0 } : Room) #[.ref t, .int (Int32.ofNat i), .int cc] h (fun v h' => v = none ∧ Keep h h' [t] ∧ Av Z h' t .byte ((vs.set (2 * i) (.int (lo8 cc))).set (2 * i + 1) (.int (hi8 cc)))) := by
  refine Con.ofH (plainFor_of_name pn3) (L0 := #[.val (.ref t), .val (.int (Int32.ofNat i)), .val (.int cc)]) (fun m => by first | (simp [entryFrame, mkF, argsToLocals, Value.category]; done) | rfl) ?_
  intro p e s m below meth c T K hret hnm N hs
  have O0 : Old Z n0 s.heap := by rw [hs]; exact O
  obtain ⟨T1, N1, g1⟩ := goSta K N (tw hw 111 rfl) (sf.2.2.2.2.1.ext (N.old O0).2) (pc := 0) (L := #[.val (.ref t), .val (.int (Int32.ofNat i)), .val (.int cc)]) (S := []) (by decide +kernel)
  have g2 : Ld p e below T1 (mkF m 3 #[.val (.ref t), .val (.int (Int32.ofNat i)), .val (.int cc)] [(.int (1 : Int32))]) T1 (mkF m 32 #[.val (.ref t), .val (.int ((Int32.ofNat i) <<< ((1 : Int32) &&& 31))), .val (.int cc)] []) := goRun K N1 #[] [(3, .ifCond .ne 25, 3), (28, .iload_n 1, 1), (29, .iconst 1, 1), (30, .ishl, 1), (31, .istore_n 1, 1)] [.ref 0] (P := (¬ (1 : Int32) = (0 : Int32)) ∧ True) (by decide +kernel) rfl ⟨(by decide), trivial⟩
  rw [n_shl1 (by omega)] at g2
  have g3 : Ld p e below T1 (mkF m 32 #[.val (.ref t), .val (.int (Int32.ofNat (2 * i))), .val (.int cc)] []) T1 (mkF m 38 #[.val (.ref t), .val (.int ((Int32.ofNat (2 * i)) + (1 : Int32))), .val (.int cc)] [(.int cc), (.int (Int32.ofNat (2 * i))), (.ref t)]) := goRun K N1 #[] [(32, .aload_n 0, 1), (33, .iload_n 1, 1), (34, .iinc 1 1, 3), (37, .iload_n 2, 1)] [] (P := True) (by decide +kernel) rfl trivial
  rw [n_one] at g3
  obtain ⟨T4, N4, g4⟩ := goSta K N1 (tw hw 112 rfl) (sf.2.2.2.2.2.1.ext (N1.old O0).2) (pc := 38) (L := #[.val (.ref t), .val (.int (Int32.ofNat (2 * i + 1))), .val (.int cc)]) (S := [(.int cc), (.int (Int32.ofNat (2 * i))), (.ref t)]) (by decide +kernel)
  have g5 : Ld p e below T4 (mkF m 41 #[.val (.ref t), .val (.int (Int32.ofNat (2 * i + 1))), .val (.int cc)] [(.int (0 : Int32)), (.int cc), (.int (Int32.ofNat (2 * i))), (.ref t)]) T4 (mkF m 43 #[.val (.ref t), .val (.int (Int32.ofNat (2 * i + 1))), .val (.int cc)] [(.int ((cc >>> ((0 : Int32) &&& 31)).toInt8.toInt32)), (.int (Int32.ofNat (2 * i))), (.ref t)]) := goRun K N4 #[] [(41, .ishr, 1), (42, .i2b, 1)] [] (P := True) (by decide +kernel) rfl trivial
  rw [sh0] at g5
  obtain ⟨T6, h6, N6, K6, A6, g6⟩ := avStB K N4 F (j := Int32.ofNat (2 * i)) (i := 2 * i) (x := cc.toInt8.toInt32) (n_ti (by omega)) (by omega) ha (pc := 43) (L := #[.val (.ref t), .val (.int (Int32.ofNat (2 * i + 1))), .val (.int cc)]) (S := []) (by decide +kernel)
  rw [nar_lo] at A6
  have g7 : Ld p e below T6 (mkF m 44 #[.val (.ref t), .val (.int (Int32.ofNat (2 * i + 1))), .val (.int cc)] []) T6 (mkF m 47 #[.val (.ref t), .val (.int (Int32.ofNat (2 * i + 1))), .val (.int cc)] [(.int cc), (.int (Int32.ofNat (2 * i + 1))), (.ref t)]) := goRun K N6 #[] [(44, .aload_n 0, 1), (45, .iload_n 1, 1), (46, .iload_n 2, 1)] [] (P := True) (by decide +kernel) rfl trivial
  obtain ⟨T8, N8, g8⟩ := goSta K N6 (tw hw 113 rfl) (sf.2.2.2.2.2.2.ext (N6.old O0).2) (pc := 47) (L := #[.val (.ref t), .val (.int (Int32.ofNat (2 * i + 1))), .val (.int cc)]) (S := [(.int cc), (.int (Int32.ofNat (2 * i + 1))), (.ref t)]) (by decide +kernel)
  have g9 : Ld p e below T8 (mkF m 50 #[.val (.ref t), .val (.int (Int32.ofNat (2 * i + 1))), .val (.int cc)] [(.int (8 : Int32)), (.int cc), (.int (Int32.ofNat (2 * i + 1))), (.ref t)]) T8 (mkF m 52 #[.val (.ref t), .val (.int (Int32.ofNat (2 * i + 1))), .val (.int cc)] [(.int ((cc >>> ((8 : Int32) &&& 31)).toInt8.toInt32)), (.int (Int32.ofNat (2 * i + 1))), (.ref t)]) := goRun K N8 #[] [(50, .ishr, 1), (51, .i2b, 1)] [] (P := True) (by decide +kernel) rfl trivial
  rw [sh8] at g9
  obtain ⟨T10, h10, N10, K10, A10, g10⟩ := avStB K N8 A6 (j := Int32.ofNat (2 * i + 1)) (i := 2 * i + 1) (x := (cc >>> (8 : Int32)).toInt8.toInt32) (n_ti (by omega)) (by simp; omega) ha (pc := 52) (L := #[.val (.ref t), .val (.int (Int32.ofNat (2 * i + 1))), .val (.int cc)]) (S := []) (by decide +kernel)
  rw [nar_lo] at A10
  exact ⟨none, T10, _, h10, _, _, N10, by decide, by decide, fun _ => rfl, ⟨rfl, K6.trans K10 (fun y hy => Or.inl hy), A10⟩, g1.trans (g2.trans (g3.trans (g4.trans (g5.trans (g6.trans (g7.trans (g8.trans (g9.trans g10)))))))), finV K N10 hret (by decide +kernel)⟩
set_option maxHeartbeats 1000000 in
theorem tb_loop (hw : ∀ d ∈ tables_1, d.before a0 Z = true) {z : Int32} {fm : Value} (sf : SF Z z fm) (K : Cx Z "java/lang/StringUTF16" jdk_52_method_14_code 5 p m c) {ca t : Addr} {cs : List Int32} (hl : cs.length ≤ 4000) (ha : n0 ≤ t) (hRf : 2 ≤ R.frames) (hRl : 40 ≤ R.locals) (hRc : cells ≤ R.cells) (hRs : slots ≤ R.slots) (O0 : Old Z n0 s.heap) : ∀ (k i : Nat) (T : State) (h : Heap), i + k = cs.length → Nw Z n0 h p l e R s m args below meth c T cells slots → Av Z h ca .char (cs.map Value.int) → Av Z h t .byte (wv cs i) →
    ∃ T' h', Nw Z n0 h' p l e R s m args below meth c T' cells slots ∧ Keep h h' [t] ∧ Av Z h' t .byte (wv cs cs.length) ∧ Ld p e below T (mkF m 8 #[.val (.ref ca), .val (.int (Int32.ofNat i)), .val (.int (Int32.ofNat cs.length)), .val (.ref t), .val (.int (Int32.ofNat i))] []) T' (mkF m 32 #[.val (.ref ca), .val (.int (Int32.ofNat cs.length)), .val (.int (Int32.ofNat cs.length)), .val (.ref t), .val (.int (Int32.ofNat cs.length))] []) := by
  intro k
  induction k with
  | zero =>
    intro i T h hi N C A
    have g1 : Ld p e below T (mkF m 8 #[.val (.ref ca), .val (.int (Int32.ofNat i)), .val (.int (Int32.ofNat cs.length)), .val (.ref t), .val (.int (Int32.ofNat i))] []) T (mkF m 32 #[.val (.ref ca), .val (.int (Int32.ofNat i)), .val (.int (Int32.ofNat cs.length)), .val (.ref t), .val (.int (Int32.ofNat i))] []) := goRun K N #[] [(8, .iload 4, 2), (10, .iload_n 2, 1), (11, .if_icmp .ge 21, 3)] [.ref 0] (P := (¬ (Int32.ofNat i) < (Int32.ofNat cs.length)) ∧ True) (by decide +kernel) rfl ⟨(by rw [n_lt (by omega) (by omega)]; omega), trivial⟩
    obtain rfl : i = cs.length := by omega
    exact ⟨T, h, N, Keep.refl _ _, A, g1⟩
  | succ k ih =>
    intro i T h hi N C A
    obtain ⟨cc, hc⟩ : ∃ cc, cs[i]? = some cc := ⟨cs[i]'(by omega), List.getElem?_eq_getElem (by omega)⟩
    have g1 : Ld p e below T (mkF m 8 #[.val (.ref ca), .val (.int (Int32.ofNat i)), .val (.int (Int32.ofNat cs.length)), .val (.ref t), .val (.int (Int32.ofNat i))] []) T (mkF m 20 #[.val (.ref ca), .val (.int (Int32.ofNat i)), .val (.int (Int32.ofNat cs.length)), .val (.ref t), .val (.int (Int32.ofNat i))] [(.int cc), (.int (Int32.ofNat i)), (.ref t)]) := goRun K N #[] [(8, .iload 4, 2), (10, .iload_n 2, 1), (11, .if_icmp .ge 21, 3), (14, .aload_n 3, 1), (15, .iload 4, 2), (17, .aload_n 0, 1), (18, .iload_n 1, 1), (19, .caload, 1)] [.null, .int cc] (P := ((Int32.ofNat i) < (Int32.ofNat cs.length)) ∧ (Rd Z h ca .char (Int32.ofNat i) (.int cc)) ∧ True) (by decide +kernel) rfl ⟨((n_lt (by omega) (by omega)).mpr (by omega)), (C.rd (n_ti (by omega)) (gti hc)), trivial⟩
    obtain ⟨v2, T2, h2, N2, ⟨rfl, K1, A1⟩, g2⟩ := goS K N (tw hw 108 rfl) (tw hw 109 rfl) (tw hw 54 rfl) (tw hw 110 rfl) (con_pc hw sf A (wv_len (by omega)) (by omega) (i := i) (by omega) cc ha (N.old O0)) (argsL := [(.ref t), (.int (Int32.ofNat i)), (.int cc)]) (W := 0) (rest := []) (by decide) (Nat.le_trans (by decide) hRf) (Nat.le_trans (by decide) hRl) (by simpa using hRc) (by simpa using hRs) (L := #[.val (.ref ca), .val (.int (Int32.ofNat i)), .val (.int (Int32.ofNat cs.length)), .val (.ref t), .val (.int (Int32.ofNat i))]) rfl pd14 rfl (Nat.le_of_eq rfl) (pc := 20) (by decide +kernel)
    rw [wv_set hc] at A1
    have g3 : Ld p e below T2 (mkF m 23 #[.val (.ref ca), .val (.int (Int32.ofNat i)), .val (.int (Int32.ofNat cs.length)), .val (.ref t), .val (.int (Int32.ofNat i))] []) T2 (mkF m 8 #[.val (.ref ca), .val (.int ((Int32.ofNat i) + (1 : Int32))), .val (.int (Int32.ofNat cs.length)), .val (.ref t), .val (.int ((Int32.ofNat i) + (1 : Int32)))] []) := goRun K N2 #[] [(23, .iinc 1 1, 3), (26, .iinc 4 1, 3), (29, .goto (-21), 3)] [] (P := True) (by decide +kernel) rfl trivial
    rw [n_one] at g3
    have ne : ca ≠ t := C.ne A (by decide)
    obtain ⟨T9, h9, N9, K9, A9, g9⟩ := ih (i + 1) T2 h2 (by omega) N2 (C.keep K1 (ninS ne nin0)) A1
    exact ⟨T9, h9, N9, K1.trans K9 (fun y hy => Or.inl hy), A9, g1.trans (g2.trans (g3.trans g9))⟩
set_option maxHeartbeats 1000000 in
theorem con_tb (hw : ∀ d ∈ tables_1, d.before a0 Z = true) {z : Int32} {fm : Value} (sf : SF Z z fm) {ca : Addr} {cs : List Int32} (C : Av Z h ca .char (cs.map Value.int)) (hl : cs.length ≤ 18) (O : Old Z n0 h) : Con l Z n0 ⟨"java/lang/StringUTF16", "toBytes", "([CII)[B"⟩ jdk_52_method_14_code 5 (some (.array .byte)) [] ({ frames := 2, cells := 1, slots := 36, locals := 40 } : Room) #[.ref ca, .int (0 : Int32), .int (Int32.ofNat cs.length)] h (fun v h' => ∃ t, v = some (.ref t) ∧ h.size ≤ t ∧ Keep h h' [] ∧ Av Z h' t .byte ((u16 cs).map Value.int)) := by
  refine Con.ofH (plainFor_of_name pn3) (L0 := #[.val (.ref ca), .val (.int (0 : Int32)), .val (.int (Int32.ofNat cs.length)), .unset, .unset]) (fun m => by first | (simp [entryFrame, mkF, argsToLocals, Value.category]; done) | rfl) ?_
  intro p e s m below meth c T K hret hnm N hs
  have O0 : Old Z n0 s.heap := by rw [hs]; exact O
  have g1 : Ld p e below T (mkF m 0 #[.val (.ref ca), .val (.int (0 : Int32)), .val (.int (Int32.ofNat cs.length)), .unset, .unset] []) T (mkF m 1 #[.val (.ref ca), .val (.int (0 : Int32)), .val (.int (Int32.ofNat cs.length)), .unset, .unset] [(.int (Int32.ofNat cs.length))]) := goRun K N #[] [(0, .iload_n 2, 1)] [] (P := True) (by decide +kernel) rfl trivial
  obtain ⟨v2, T2, h2, N2, ⟨t, rfl, et, E1, A1⟩, g2⟩ := goS K N (tw hw 101 rfl) (tw hw 102 rfl) (tw hw 54 rfl) (tw hw 103 rfl) (con_nbf hw cs.length (by omega)) (argsL := [(.int (Int32.ofNat cs.length))]) (W := 0) (rest := []) (by decide) (by decide) (by decide) (by decide) (by decide) (L := #[.val (.ref ca), .val (.int (0 : Int32)), .val (.int (Int32.ofNat cs.length)), .unset, .unset]) rfl pd13 rfl (Nat.le_of_eq rfl) (pc := 1) (by decide +kernel)
  have ht : n0 ≤ t := et ▸ N.size
  rw [← wv_0] at A1
  have g3 : Ld p e below T2 (mkF m 4 #[.val (.ref ca), .val (.int (0 : Int32)), .val (.int (Int32.ofNat cs.length)), .unset, .unset] [(.ref t)]) T2 (mkF m 8 #[.val (.ref ca), .val (.int (0 : Int32)), .val (.int (Int32.ofNat cs.length)), .val (.ref t), .val (.int (0 : Int32))] []) := goRun K N2 #[] [(4, .astore_n 3, 1), (5, .iconst 0, 1), (6, .istore 4, 2)] [] (P := True) (by decide +kernel) rfl trivial
  obtain ⟨T9, h9, N9, K9, A9, g9⟩ := tb_loop hw sf K (ca := ca) (by omega) ht (by decide) (by decide) (by decide) (by decide) O0 cs.length 0 T2 h2 (by omega) N2 (C.ext E1) A1
  rw [wv_n] at A9
  have g21 : Ld p e below T9 (mkF m 32 #[.val (.ref ca), .val (.int (Int32.ofNat cs.length)), .val (.int (Int32.ofNat cs.length)), .val (.ref t), .val (.int (Int32.ofNat cs.length))] []) T9 (mkF m 33 #[.val (.ref ca), .val (.int (Int32.ofNat cs.length)), .val (.int (Int32.ofNat cs.length)), .val (.ref t), .val (.int (Int32.ofNat cs.length))] [(.ref t)]) := goRun K N9 #[] [(32, .aload_n 3, 1)] [] (P := True) (by decide +kernel) rfl trivial
  exact ⟨_, T9, _, h9, _, _, N9, by decide, by decide, fun q => (nomatch q), ⟨t, rfl, Nat.le_of_eq et.symm, (keep_ext E1).trans K9 (allS (Or.inr (Nat.le_of_eq et.symm)) all0), A9⟩, g1.trans (g2.trans (g3.trans (g9.trans g21))), finA K N9 hret rfl rfl rfl (by decide +kernel)⟩
def One (q : Slot) : Prop := q = .unset ∨ ∃ i, q = .val (.int i)
/-- what compress leaves: all fits, or place k does not -/
def cmQ (Z : State) (h h' : Heap) (ba : Addr) (cs : List Int32) (v : Option Value) : Prop := Keep h h' [ba] ∧ ((v = some (.int (Int32.ofNat cs.length)) ∧ (∀ c ∈ cs, c.toInt ≤ 255) ∧ Av Z h' ba .byte ((cs.map lo8).map Value.int)) ∨ ∃ (k : Nat) (cc : Int32), v = some (.int (Int32.ofNat k)) ∧ cs[k]? = some cc ∧ ¬ cc.toInt ≤ 255)
set_option maxHeartbeats 1000000 in
theorem cm_loop (K : Cx Z "java/lang/StringUTF16" jdk_52_method_21_code 7 p m c) {ca ba : Addr} {cs : List Int32} (hl : cs.length ≤ 4000) (ha : n0 ≤ ba) (hret : meth.sig.returnType = some .int) : ∀ (k i : Nat) (q6 : Slot) (T : State) (h : Heap), i + k = cs.length → One q6 → Nw Z n0 h p l e R s m args below meth c T cells slots → Av Z h ca .char (cs.map Value.int) → Av Z h ba .byte (bv cs i) → (∀ c ∈ cs.take i, c.toInt ≤ 255) →
    ∃ v T' h' g', Nw Z n0 h' p l e R s m args below meth c T' cells slots ∧ cmQ Z h h' ba cs v ∧ Ld p e below T (mkF m 3 #[.val (.ref ca), .val (.int (Int32.ofNat i)), .val (.ref ba), .val (.int (Int32.ofNat i)), .val (.int (Int32.ofNat cs.length)), .val (.int (Int32.ofNat i)), q6] []) T' g' ∧ Fn p e below m T' g' v := by
  intro k
  induction k with
  | zero =>
    intro i q6 T h hi h6 N C A hs
    have g1 : Ld p e below T (mkF m 3 #[.val (.ref ca), .val (.int (Int32.ofNat i)), .val (.ref ba), .val (.int (Int32.ofNat i)), .val (.int (Int32.ofNat cs.length)), .val (.int (Int32.ofNat i)), q6] []) T (mkF m 46 #[.val (.ref ca), .val (.int (Int32.ofNat i)), .val (.ref ba), .val (.int (Int32.ofNat i)), .val (.int (Int32.ofNat cs.length)), .val (.int (Int32.ofNat i)), q6] [(.int (Int32.ofNat cs.length))]) := goRun K N #[] [(3, .iload 5, 2), (5, .iload 4, 2), (7, .if_icmp .ge 37, 3), (44, .iload 4, 2)] [.ref 0] (P := (¬ (Int32.ofNat i) < (Int32.ofNat cs.length)) ∧ True) (by decide +kernel) rfl ⟨(by rw [n_lt (by omega) (by omega)]; omega), trivial⟩
    obtain rfl : i = cs.length := by omega
    rw [bv_n] at A
    rw [List.take_length] at hs
    exact ⟨_, T, h, _, N, ⟨Keep.refl _ _, Or.inl ⟨rfl, hs, A⟩⟩, g1, finI K N hret (by decide +kernel)⟩
  | succ k ih =>
    intro i q6 T h hi h6 N C A hs
    obtain ⟨cc, hc⟩ : ∃ cc, cs[i]? = some cc := ⟨cs[i]'(by omega), List.getElem?_eq_getElem (by omega)⟩
    have hrd : Rd Z h ca .char (Int32.ofNat i) (.int cc) := C.rd (n_ti (by omega)) (gti hc)
    have hlt : Int32.ofNat i < Int32.ofNat cs.length := (n_lt (by omega) (by omega)).mpr (by omega)
    by_cases hg : cc.toInt ≤ 255
    · rcases h6 with rfl | ⟨i6, rfl⟩
      · have g1 : Ld p e below T (mkF m 3 #[.val (.ref ca), .val (.int (Int32.ofNat i)), .val (.ref ba), .val (.int (Int32.ofNat i)), .val (.int (Int32.ofNat cs.length)), .val (.int (Int32.ofNat i)), .unset] []) T (mkF m 31 #[.val (.ref ca), .val (.int (Int32.ofNat i)), .val (.ref ba), .val (.int (Int32.ofNat i)), .val (.int (Int32.ofNat cs.length)), .val (.int (Int32.ofNat i)), .val (.int cc)] [(.int cc.toInt8.toInt32), (.int (Int32.ofNat i)), (.ref ba)]) := goRun K N #[] [(3, .iload 5, 2), (5, .iload 4, 2), (7, .if_icmp .ge 37, 3), (10, .aload_n 0, 1), (11, .iload_n 1, 1), (12, .caload, 1), (13, .istore 6, 2), (15, .iload 6, 2), (17, .sipush 255, 3), (20, .if_icmp .le 6, 3), (26, .aload_n 2, 1), (27, .iload_n 3, 1), (28, .iload 6, 2), (30, .i2b, 1)] [.null, .int cc, .ref 0] (P := ((Int32.ofNat i) < (Int32.ofNat cs.length)) ∧ (Rd Z h ca .char (Int32.ofNat i) (.int cc)) ∧ (¬ (255 : Int32) < cc) ∧ True) (by decide +kernel) rfl ⟨hlt, hrd, (le255 hg), trivial⟩
        obtain ⟨T2, h2, N2, K2, A2, g2⟩ := avStB K N A (j := Int32.ofNat i) (i := i) (x := cc.toInt8.toInt32) (n_ti (by omega)) (by rw [bv_len (by omega)]; omega) ha (pc := 31) (L := #[.val (.ref ca), .val (.int (Int32.ofNat i)), .val (.ref ba), .val (.int (Int32.ofNat i)), .val (.int (Int32.ofNat cs.length)), .val (.int (Int32.ofNat i)), .val (.int cc)]) (S := []) (by decide +kernel)
        rw [nar_lo, bv_set hc] at A2
        have g3 : Ld p e below T2 (mkF m 32 #[.val (.ref ca), .val (.int (Int32.ofNat i)), .val (.ref ba), .val (.int (Int32.ofNat i)), .val (.int (Int32.ofNat cs.length)), .val (.int (Int32.ofNat i)), .val (.int cc)] []) T2 (mkF m 3 #[.val (.ref ca), .val (.int ((Int32.ofNat i) + (1 : Int32))), .val (.ref ba), .val (.int ((Int32.ofNat i) + (1 : Int32))), .val (.int (Int32.ofNat cs.length)), .val (.int ((Int32.ofNat i) + (1 : Int32))), .val (.int cc)] []) := goRun K N2 #[] [(32, .iinc 1 1, 3), (35, .iinc 3 1, 3), (38, .iinc 5 1, 3), (41, .goto (-38), 3)] [] (P := True) (by decide +kernel) rfl trivial
        rw [n_one] at g3
        obtain ⟨v, T9, h9, g', N9, ⟨K9, q9⟩, g9, f9⟩ := ih (i + 1) _ T2 h2 (by omega) (Or.inr ⟨_, rfl⟩) N2 (C.keep K2 (ninS (C.ne A (by decide)) nin0)) A2 (fun c hc' => by
          rw [take_succ_of hc] at hc'
          rcases List.mem_append.mp hc' with z | z
          · exact hs c z
          · rw [List.mem_singleton.mp z]; exact hg)
        exact ⟨v, T9, h9, g', N9, ⟨K2.trans K9 (fun y hy => Or.inl hy), q9⟩, g1.trans (g2.trans (g3.trans g9)), f9⟩
      · have g1 : Ld p e below T (mkF m 3 #[.val (.ref ca), .val (.int (Int32.ofNat i)), .val (.ref ba), .val (.int (Int32.ofNat i)), .val (.int (Int32.ofNat cs.length)), .val (.int (Int32.ofNat i)), .val (.int i6)] []) T (mkF m 31 #[.val (.ref ca), .val (.int (Int32.ofNat i)), .val (.ref ba), .val (.int (Int32.ofNat i)), .val (.int (Int32.ofNat cs.length)), .val (.int (Int32.ofNat i)), .val (.int cc)] [(.int cc.toInt8.toInt32), (.int (Int32.ofNat i)), (.ref ba)]) := goRun K N #[] [(3, .iload 5, 2), (5, .iload 4, 2), (7, .if_icmp .ge 37, 3), (10, .aload_n 0, 1), (11, .iload_n 1, 1), (12, .caload, 1), (13, .istore 6, 2), (15, .iload 6, 2), (17, .sipush 255, 3), (20, .if_icmp .le 6, 3), (26, .aload_n 2, 1), (27, .iload_n 3, 1), (28, .iload 6, 2), (30, .i2b, 1)] [.null, .int cc, .ref 0] (P := ((Int32.ofNat i) < (Int32.ofNat cs.length)) ∧ (Rd Z h ca .char (Int32.ofNat i) (.int cc)) ∧ (¬ (255 : Int32) < cc) ∧ True) (by decide +kernel) rfl ⟨hlt, hrd, (le255 hg), trivial⟩
        obtain ⟨T2, h2, N2, K2, A2, g2⟩ := avStB K N A (j := Int32.ofNat i) (i := i) (x := cc.toInt8.toInt32) (n_ti (by omega)) (by rw [bv_len (by omega)]; omega) ha (pc := 31) (L := #[.val (.ref ca), .val (.int (Int32.ofNat i)), .val (.ref ba), .val (.int (Int32.ofNat i)), .val (.int (Int32.ofNat cs.length)), .val (.int (Int32.ofNat i)), .val (.int cc)]) (S := []) (by decide +kernel)
        rw [nar_lo, bv_set hc] at A2
        have g3 : Ld p e below T2 (mkF m 32 #[.val (.ref ca), .val (.int (Int32.ofNat i)), .val (.ref ba), .val (.int (Int32.ofNat i)), .val (.int (Int32.ofNat cs.length)), .val (.int (Int32.ofNat i)), .val (.int cc)] []) T2 (mkF m 3 #[.val (.ref ca), .val (.int ((Int32.ofNat i) + (1 : Int32))), .val (.ref ba), .val (.int ((Int32.ofNat i) + (1 : Int32))), .val (.int (Int32.ofNat cs.length)), .val (.int ((Int32.ofNat i) + (1 : Int32))), .val (.int cc)] []) := goRun K N2 #[] [(32, .iinc 1 1, 3), (35, .iinc 3 1, 3), (38, .iinc 5 1, 3), (41, .goto (-38), 3)] [] (P := True) (by decide +kernel) rfl trivial
        rw [n_one] at g3
        obtain ⟨v, T9, h9, g', N9, ⟨K9, q9⟩, g9, f9⟩ := ih (i + 1) _ T2 h2 (by omega) (Or.inr ⟨_, rfl⟩) N2 (C.keep K2 (ninS (C.ne A (by decide)) nin0)) A2 (fun c hc' => by
          rw [take_succ_of hc] at hc'
          rcases List.mem_append.mp hc' with z | z
          · exact hs c z
          · rw [List.mem_singleton.mp z]; exact hg)
        exact ⟨v, T9, h9, g', N9, ⟨K2.trans K9 (fun y hy => Or.inl hy), q9⟩, g1.trans (g2.trans (g3.trans g9)), f9⟩
    · rcases h6 with rfl | ⟨i6, rfl⟩
      · have g1 : Ld p e below T (mkF m 3 #[.val (.ref ca), .val (.int (Int32.ofNat i)), .val (.ref ba), .val (.int (Int32.ofNat i)), .val (.int (Int32.ofNat cs.length)), .val (.int (Int32.ofNat i)), .unset] []) T (mkF m 25 #[.val (.ref ca), .val (.int (Int32.ofNat i)), .val (.ref ba), .val (.int (Int32.ofNat i)), .val (.int (Int32.ofNat cs.length)), .val (.int (Int32.ofNat i)), .val (.int cc)] [(.int (Int32.ofNat i))]) := goRun K N #[] [(3, .iload 5, 2), (5, .iload 4, 2), (7, .if_icmp .ge 37, 3), (10, .aload_n 0, 1), (11, .iload_n 1, 1), (12, .caload, 1), (13, .istore 6, 2), (15, .iload 6, 2), (17, .sipush 255, 3), (20, .if_icmp .le 6, 3), (23, .iload 5, 2)] [.null, .int cc, .null] (P := ((Int32.ofNat i) < (Int32.ofNat cs.length)) ∧ (Rd Z h ca .char (Int32.ofNat i) (.int cc)) ∧ ((255 : Int32) < cc) ∧ True) (by decide +kernel) rfl ⟨hlt, hrd, (Decidable.not_not.mp (gt255 hg)), trivial⟩
        exact ⟨_, T, h, _, N, ⟨Keep.refl _ _, Or.inr ⟨i, cc, rfl, hc, hg⟩⟩, g1, finI K N hret (by decide +kernel)⟩
      · have g1 : Ld p e below T (mkF m 3 #[.val (.ref ca), .val (.int (Int32.ofNat i)), .val (.ref ba), .val (.int (Int32.ofNat i)), .val (.int (Int32.ofNat cs.length)), .val (.int (Int32.ofNat i)), .val (.int i6)] []) T (mkF m 25 #[.val (.ref ca), .val (.int (Int32.ofNat i)), .val (.ref ba), .val (.int (Int32.ofNat i)), .val (.int (Int32.ofNat cs.length)), .val (.int (Int32.ofNat i)), .val (.int cc)] [(.int (Int32.ofNat i))]) := goRun K N #[] [(3, .iload 5, 2), (5, .iload 4, 2), (7, .if_icmp .ge 37, 3), (10, .aload_n 0, 1), (11, .iload_n 1, 1), (12, .caload, 1), (13, .istore 6, 2), (15, .iload 6, 2), (17, .sipush 255, 3), (20, .if_icmp .le 6, 3), (23, .iload 5, 2)] [.null, .int cc, .null] (P := ((Int32.ofNat i) < (Int32.ofNat cs.length)) ∧ (Rd Z h ca .char (Int32.ofNat i) (.int cc)) ∧ ((255 : Int32) < cc) ∧ True) (by decide +kernel) rfl ⟨hlt, hrd, (Decidable.not_not.mp (gt255 hg)), trivial⟩
        exact ⟨_, T, h, _, N, ⟨Keep.refl _ _, Or.inr ⟨i, cc, rfl, hc, hg⟩⟩, g1, finI K N hret (by decide +kernel)⟩
set_option maxHeartbeats 1000000 in
theorem con_cm {ca ba : Addr} {cs : List Int32} (C : Av Z h ca .char (cs.map Value.int)) (A : Av Z h ba .byte (List.replicate cs.length (.int 0))) (hl : cs.length ≤ 4000) (ha : n0 ≤ ba) : Con l Z n0 ⟨"java/lang/StringUTF16", "compress", "([CI[BII)I"⟩ jdk_52_method_21_code 7 (some (.int)) [] ({ frames := 0, cells := 0, slots := 0, locals := 0 } : Room) #[.ref ca, .int (0 : Int32), .ref ba, .int (0 : Int32), .int (Int32.ofNat cs.length)] h (fun v h' => cmQ Z h h' ba cs v) := by
  refine Con.ofH (plainFor_of_name pn3) (L0 := #[.val (.ref ca), .val (.int (0 : Int32)), .val (.ref ba), .val (.int (0 : Int32)), .val (.int (Int32.ofNat cs.length)), .unset, .unset]) (fun m => by first | (simp [entryFrame, mkF, argsToLocals, Value.category]; done) | rfl) ?_
  intro p e s m below meth c T K hret hnm N hs
  have g1 : Ld p e below T (mkF m 0 #[.val (.ref ca), .val (.int (0 : Int32)), .val (.ref ba), .val (.int (0 : Int32)), .val (.int (Int32.ofNat cs.length)), .unset, .unset] []) T (mkF m 3 #[.val (.ref ca), .val (.int (0 : Int32)), .val (.ref ba), .val (.int (0 : Int32)), .val (.int (Int32.ofNat cs.length)), .val (.int (0 : Int32)), .unset] []) := goRun K N #[] [(0, .iconst 0, 1), (1, .istore 5, 2)] [] (P := True) (by decide +kernel) rfl trivial
  obtain ⟨v, T9, h9, g', N9, q9, g9, f9⟩ := cm_loop K hl ha hret cs.length 0 _ T h (by omega) (Or.inl rfl) N C (by rw [bv_0]; exact A) (fun c hc => by simp at hc)
  exact ⟨v, T9, g', h9, _, _, N9, by decide, by decide, fun q => (nomatch q), q9, g1.trans g9, f9⟩
set_option maxHeartbeats 1000000 in
theorem con_cp (hw : ∀ d ∈ tables_1, d.before a0 Z = true) {z : Int32} {fm : Value} (sf : SF Z z fm) {ca : Addr} {cs : List Int32} (C : Av Z h ca .char (cs.map Value.int)) (hl : cs.length ≤ 18) (hch : ∀ c ∈ cs, Ch c) (O : Old Z n0 h) : Con l Z n0 ⟨"java/lang/StringUTF16", "compress", "([CII)[B"⟩ jdk_52_method_16_code 6 (some (.array .byte)) [] ({ frames := 3, cells := 2, slots := 54, locals := 56 } : Room) #[.ref ca, .int (0 : Int32), .int (Int32.ofNat cs.length)] h (fun v h' => ∃ t, v = some (.ref t) ∧ h.size ≤ t ∧ Keep h h' [] ∧ (((∀ c ∈ cs, c.toInt ≤ 255) ∧ Av Z h' t .byte ((cs.map lo8).map Value.int)) ∨ ((∃ c ∈ cs, ¬ c.toInt ≤ 255) ∧ Av Z h' t .byte ((u16 cs).map Value.int)))) := by
  refine Con.ofH (plainFor_of_name pn3) (L0 := #[.val (.ref ca), .val (.int (0 : Int32)), .val (.int (Int32.ofNat cs.length)), .unset, .unset, .unset]) (fun m => by first | (simp [entryFrame, mkF, argsToLocals, Value.category]; done) | rfl) ?_
  intro p e s m below meth c T K hret hnm N hs
  have O0 : Old Z n0 s.heap := by rw [hs]; exact O
  have hn1 : (Int32.ofNat cs.length).toInt = ((cs.length : Nat) : Int) := n_ti (by omega)
  have g1 : Ld p e below T (mkF m 0 #[.val (.ref ca), .val (.int (0 : Int32)), .val (.int (Int32.ofNat cs.length)), .unset, .unset, .unset] []) T (mkF m 1 #[.val (.ref ca), .val (.int (0 : Int32)), .val (.int (Int32.ofNat cs.length)), .unset, .unset, .unset] [(.int (Int32.ofNat cs.length))]) := goRun K N #[] [(0, .iload_n 2, 1)] [] (P := True) (by decide +kernel) rfl trivial
  obtain ⟨T2, h2, a2, cA2, ea2, N2, E2, A2, g2⟩ := goNewP K N (aty := .byte) (tw hw 56 rfl) (n := Int32.ofNat cs.length) (not_neg_of hn1) (cap := 18) (by rw [clamp_of hn1]; omega) (by decide) (by decide) (by decide) (pc := 1) (L := #[.val (.ref ca), .val (.int (0 : Int32)), .val (.int (Int32.ofNat cs.length)), .unset, .unset, .unset]) (S := []) (by decide +kernel)
  have A2 := Av.new A2 (not_neg_of hn1) hn1
  have ha2 : n0 ≤ a2 := ea2 ▸ N.size
  have g3 : Ld p e below T2 (mkF m 3 #[.val (.ref ca), .val (.int (0 : Int32)), .val (.int (Int32.ofNat cs.length)), .unset, .unset, .unset] [(.ref a2)]) T2 (mkF m 9 #[.val (.ref ca), .val (.int (0 : Int32)), .val (.int (Int32.ofNat cs.length)), .val (.ref a2), .unset, .unset] [(.int (Int32.ofNat cs.length)), (.int (0 : Int32)), (.ref a2), (.int (0 : Int32)), (.ref ca)]) := goRun K N2 #[] [(3, .astore_n 3, 1), (4, .aload_n 0, 1), (5, .iload_n 1, 1), (6, .aload_n 3, 1), (7, .iconst 0, 1), (8, .iload_n 2, 1)] [] (P := True) (by decide +kernel) rfl trivial
  obtain ⟨v4, T4, h4, N4, ⟨K1, q1⟩, g4⟩ := goS K N2 (tw hw 57 rfl) (tw hw 58 rfl) (tw hw 54 rfl) (tw hw 59 rfl) (con_cm (C.ext E2) A2 (by omega) ha2) (argsL := [(.ref ca), (.int (0 : Int32)), (.ref a2), (.int (0 : Int32)), (.int (Int32.ofNat cs.length))]) (W := 0) (rest := []) (by decide) (by decide) (by decide) (by decide) (by decide) (L := #[.val (.ref ca), .val (.int (0 : Int32)), .val (.int (Int32.ofNat cs.length)), .val (.ref a2), .unset, .unset]) rfl pd7 rfl (Nat.le_of_eq rfl) (pc := 9) (by decide +kernel)
  have KK := (keep_ext (ws := []) E2).trans K1 (allS (Or.inr (Nat.le_of_eq ea2.symm)) all0)
  obtain ⟨rfl, hall, A1⟩ | ⟨j, cc, rfl, hj, hgt⟩ := q1
  · have g5 : Ld p e below T4 (mkF m 12 #[.val (.ref ca), .val (.int (0 : Int32)), .val (.int (Int32.ofNat cs.length)), .val (.ref a2), .unset, .unset] [(.int (Int32.ofNat cs.length))]) T4 (mkF m 58 #[.val (.ref ca), .val (.int (0 : Int32)), .val (.int (Int32.ofNat cs.length)), .val (.ref a2), .val (.int (Int32.ofNat cs.length)), .unset] [(.ref a2)]) := goRun K N4 #[] [(12, .istore 4, 2), (14, .iload 4, 2), (16, .iload_n 2, 1), (17, .if_icmp .eq 40, 3), (57, .aload_n 3, 1)] [.ref 0] (P := ((Int32.ofNat cs.length) = (Int32.ofNat cs.length)) ∧ True) (by decide +kernel) rfl ⟨rfl, trivial⟩
    exact ⟨_, T4, _, h4, _, _, N4, by decide, by decide, fun q => (nomatch q), ⟨_, rfl, Nat.le_of_eq ea2.symm, KK, Or.inl ⟨hall, A1⟩⟩, g1.trans (g2.trans (g3.trans (g4.trans g5))), finA K N4 hret rfl rfl rfl (by decide +kernel)⟩
  · have hj2 : j < cs.length := (List.getElem?_eq_some_iff.mp hj).1
    have g5 : Ld p e below T4 (mkF m 12 #[.val (.ref ca), .val (.int (0 : Int32)), .val (.int (Int32.ofNat cs.length)), .val (.ref a2), .unset, .unset] [(.int (Int32.ofNat j))]) T4 (mkF m 23 #[.val (.ref ca), .val (.int (0 : Int32)), .val (.int (Int32.ofNat cs.length)), .val (.ref a2), .val (.int (Int32.ofNat j)), .unset] [(.int (Int32.ofNat cs.length)), (.int (0 : Int32)), (.ref ca)]) := goRun K N4 #[] [(12, .istore 4, 2), (14, .iload 4, 2), (16, .iload_n 2, 1), (17, .if_icmp .eq 40, 3), (20, .aload_n 0, 1), (21, .iload_n 1, 1), (22, .iload_n 2, 1)] [.null] (P := (¬ (Int32.ofNat j) = (Int32.ofNat cs.length)) ∧ True) (by decide +kernel) rfl ⟨(by rw [n_eq (by omega) (by omega)]; omega), trivial⟩
    obtain ⟨v6, T6, h6, N6, ⟨t2, rfl, ht2, K2, A2⟩, g6⟩ := goS K N4 (tw hw 98 rfl) (tw hw 99 rfl) (tw hw 54 rfl) (tw hw 100 rfl) (con_tb hw sf ((C.ext E2).keep K1 (ninS (ea2 ▸ Nat.ne_of_lt C.lt) nin0)) hl (N4.old O0)) (argsL := [(.ref ca), (.int (0 : Int32)), (.int (Int32.ofNat cs.length))]) (W := 0) (rest := []) (by decide) (by decide) (by decide) (by decide) (by decide) (L := #[.val (.ref ca), .val (.int (0 : Int32)), .val (.int (Int32.ofNat cs.length)), .val (.ref a2), .val (.int (Int32.ofNat j)), .unset]) rfl pd8 rfl (Nat.le_of_eq rfl) (pc := 23) (by decide +kernel)
    have g7 : Ld p e below T6 (mkF m 26 #[.val (.ref ca), .val (.int (0 : Int32)), .val (.int (Int32.ofNat cs.length)), .val (.ref a2), .val (.int (Int32.ofNat j)), .unset] [(.ref t2)]) T6 (mkF m 32 #[.val (.ref ca), .val (.int (0 : Int32)), .val (.int (Int32.ofNat cs.length)), .val (.ref a2), .val (.int (Int32.ofNat j)), .val (.ref t2)] [(.int (Int32.ofNat j)), (.ref t2)]) := goRun K N6 #[] [(26, .astore 5, 2), (28, .aload 5, 2), (30, .iload 4, 2)] [] (P := True) (by decide +kernel) rfl trivial
    obtain ⟨v8, T8, _, N8, ⟨rfl, rfl⟩, g8⟩ := goS K N6 (tw hw 114 rfl) (tw hw 115 rfl) (tw hw 54 rfl) (tw hw 116 rfl) (con_gc hw sf A2 (by omega) hj (hch _ (List.mem_of_getElem? hj)) (N6.old O0)) (argsL := [(.ref t2), (.int (Int32.ofNat j))]) (W := 0) (rest := []) (by decide) (by decide) (by decide) (by decide) (by decide) (L := #[.val (.ref ca), .val (.int (0 : Int32)), .val (.int (Int32.ofNat cs.length)), .val (.ref a2), .val (.int (Int32.ofNat j)), .val (.ref t2)]) rfl pd2 rfl (Nat.le_of_eq rfl) (pc := 32) (by decide +kernel)
    have g9 : Ld p e below T8 (mkF m 35 #[.val (.ref ca), .val (.int (0 : Int32)), .val (.int (Int32.ofNat cs.length)), .val (.ref a2), .val (.int (Int32.ofNat j)), .val (.ref t2)] [(.int cc)]) T8 (mkF m 56 #[.val (.ref ca), .val (.int (0 : Int32)), .val (.int (Int32.ofNat cs.length)), .val (.ref a2), .val (.int (Int32.ofNat j)), .val (.ref t2)] [(.ref t2)]) := goRun K N8 #[] [(35, .sipush 255, 3), (38, .if_icmp .gt 16, 3), (54, .aload 5, 2)] [.ref 0] (P := ((255 : Int32) < cc) ∧ True) (by decide +kernel) rfl ⟨(Decidable.not_not.mp (gt255 hgt)), trivial⟩
    exact ⟨_, T8, _, h6, _, _, N8, by decide, by decide, fun q => (nomatch q), ⟨_, rfl, Nat.le_trans KK.1 ht2, KK.trans K2 all0, Or.inr ⟨⟨cc, List.mem_of_getElem? hj, hgt⟩, A2⟩⟩, g1.trans (g2.trans (g3.trans (g4.trans (g5.trans (g6.trans (g7.trans (g8.trans g9))))))), finA K N8 hret rfl rfl rfl (by decide +kernel)⟩
theorem nar8_0 : nar .byte ((0 : Int32).toInt8.toInt32) = 0 := by decide
theorem nar8_1 : nar .byte ((1 : Int32).toInt8.toInt32) = 1 := by decide
set_option maxHeartbeats 1000000 in
theorem con_cf0 {t : Addr} {vs : List Value} {n : Nat} (F : Av Z h t .byte vs) (hl : vs.length = n) (hn : n < 100000) : Con l Z n0 ⟨"java/lang/StringUTF16", "coderFromArrayLen", "([BI)B"⟩ jdk_52_method_15_code 2 (some (.byte)) [] ({ frames := 0, cells := 0, slots := 0, locals := 0 } : Room) #[.ref t, .int (Int32.ofNat n)] h (fun v h' => v = some (.int 0) ∧ h = h') := by
  refine Con.ofH (plainFor_of_name pn3) (L0 := #[.val (.ref t), .val (.int (Int32.ofNat n))]) (fun m => by first | (simp [entryFrame, mkF, argsToLocals, Value.category]; done) | rfl) ?_
  intro p e s m below meth c T K hret hnm N hs
  have g1 : Ld p e below T (mkF m 0 #[.val (.ref t), .val (.int (Int32.ofNat n))] []) T (mkF m 8 #[.val (.ref t), .val (.int (Int32.ofNat n))] [(.int ((XT.ushr ((Int32.ofNat n) - (Int32.ofNat (n))) (31 : Int32)).toInt8.toInt32))]) := goRun K N #[] [(0, .iload_n 1, 1), (1, .aload_n 0, 1), (2, .arraylength, 1), (3, .isub, 1), (4, .bipush 31, 2), (6, .iushr, 1), (7, .i2b, 1)] [.int (Int32.ofNat (n))] (P := (Ln Z h t (Int32.ofNat (n))) ∧ True) (by decide +kernel) rfl ⟨(F.ln (by rw [n_ti (by omega), hl])), trivial⟩
  rw [ushr_0] at g1
  exact ⟨_, T, _, h, _, _, N, by decide, by decide, fun q => (nomatch q), ⟨by rw [nar8_0], rfl⟩, g1, finN K N hret (Or.inr (Or.inl rfl)) (by decide +kernel)⟩
set_option maxHeartbeats 1000000 in
theorem con_cf1 {t : Addr} {vs : List Value} {n : Nat} (F : Av Z h t .byte vs) (hl : vs.length = 2 * n) (hn : n < 100000) (hn0 : 0 < n) : Con l Z n0 ⟨"java/lang/StringUTF16", "coderFromArrayLen", "([BI)B"⟩ jdk_52_method_15_code 2 (some (.byte)) [] ({ frames := 0, cells := 0, slots := 0, locals := 0 } : Room) #[.ref t, .int (Int32.ofNat n)] h (fun v h' => v = some (.int 1) ∧ h = h') := by
  refine Con.ofH (plainFor_of_name pn3) (L0 := #[.val (.ref t), .val (.int (Int32.ofNat n))]) (fun m => by first | (simp [entryFrame, mkF, argsToLocals, Value.category]; done) | rfl) ?_
  intro p e s m below meth c T K hret hnm N hs
  have g1 : Ld p e below T (mkF m 0 #[.val (.ref t), .val (.int (Int32.ofNat n))] []) T (mkF m 8 #[.val (.ref t), .val (.int (Int32.ofNat n))] [(.int ((XT.ushr ((Int32.ofNat n) - (Int32.ofNat (2 * n))) (31 : Int32)).toInt8.toInt32))]) := goRun K N #[] [(0, .iload_n 1, 1), (1, .aload_n 0, 1), (2, .arraylength, 1), (3, .isub, 1), (4, .bipush 31, 2), (6, .iushr, 1), (7, .i2b, 1)] [.int (Int32.ofNat (2 * n))] (P := (Ln Z h t (Int32.ofNat (2 * n))) ∧ True) (by decide +kernel) rfl ⟨(F.ln (by rw [n_ti (by omega), hl])), trivial⟩
  rw [ushr_1 hn0 (by omega)] at g1
  exact ⟨_, T, _, h, _, _, N, by decide, by decide, fun q => (nomatch q), ⟨by rw [nar8_1], rfl⟩, g1, finN K N hret (Or.inr (Or.inl rfl)) (by decide +kernel)⟩
set_option maxHeartbeats 1000000 in
theorem con_s4 (hw : ∀ d ∈ tables_1, d.before a0 Z = true) {z : Int32} {fm : Value} (sf : SF Z z fm) {a ca : Addr} {cs : List Int32} (X : Exa Z h a "java/lang/String") (V : Fld Z h a "java/lang/String" "value" "[B" .null) (D : Fld Z h a "java/lang/String" "coder" "B" (.int 0)) (C : Av Z h ca .char (cs.map Value.int)) (hl : cs.length ≤ 18) (hl0 : 0 < cs.length) (hch : ∀ c ∈ cs, Ch c) (ha : n0 ≤ a) (O : Old Z n0 h) : Con l Z n0 ⟨"java/lang/String", "<init>", "([CIILjava/lang/Void;)V"⟩ jdk_42_method_149_code 6 none [] ({ frames := 4, cells := 2, slots := 54, locals := 73 } : Room) #[.ref a, .ref ca, .int (0 : Int32), .int (Int32.ofNat cs.length), .null] h (fun v h' => v = none ∧ Keep h h' [a] ∧ ∃ t, h.size ≤ t ∧ Stv Z h' a t cs) := by
  refine Con.ofH (plainFor_of_name pn1) (L0 := #[.val (.ref a), .val (.ref ca), .val (.int (0 : Int32)), .val (.int (Int32.ofNat cs.length)), .val (.null), .unset]) (fun m => by first | (simp [entryFrame, mkF, argsToLocals, Value.category]; done) | rfl) ?_
  intro p e s m below meth c T K hret hnm N hs
  have O0 : Old Z n0 s.heap := by rw [hs]; exact O
  have s12 := slot_ne (Or.inr (tw hw 66 rfl) : Laid Z a0 "java/lang/String" "java/lang/String" "value" "[B") (Or.inr (tw hw 64 rfl) : Laid Z a0 "java/lang/String" "java/lang/String" "coder" "B") (by decide) (t := .array .byte) (t' := .byte) (by decide) (by decide)
  have g1 : Ld p e below T (mkF m 0 #[.val (.ref a), .val (.ref ca), .val (.int (0 : Int32)), .val (.int (Int32.ofNat cs.length)), .val (.null), .unset] []) T (mkF m 1 #[.val (.ref a), .val (.ref ca), .val (.int (0 : Int32)), .val (.int (Int32.ofNat cs.length)), .val (.null), .unset] [(.ref a)]) := goRun K N #[] [(0, .aload_n 0, 1)] [] (P := True) (by decide +kernel) rfl trivial
  obtain ⟨T2, N2, g2⟩ := goInit K N (tw hw 48 rfl) (tw hw 49 rfl) (tw hw 50 rfl) rfl (a := a) (pc := 1) (L := #[.val (.ref a), .val (.ref ca), .val (.int (0 : Int32)), .val (.int (Int32.ofNat cs.length)), .val (.null), .unset]) (S := []) rfl (by decide +kernel) (by decide) (W := 0) (Nat.le_of_eq rfl) (by decide)
  have g3 : Ld p e below T2 (mkF m 4 #[.val (.ref a), .val (.ref ca), .val (.int (0 : Int32)), .val (.int (Int32.ofNat cs.length)), .val (.null), .unset] []) T2 (mkF m 27 #[.val (.ref a), .val (.ref ca), .val (.int (0 : Int32)), .val (.int (Int32.ofNat cs.length)), .val (.null), .unset] []) := goRun K N2 #[] [(4, .iload_n 3, 1), (5, .ifCond .ne 22, 3)] [.ref 0] (P := (¬ (Int32.ofNat cs.length) = (0 : Int32)) ∧ True) (by decide +kernel) rfl ⟨(by show ¬ Int32.ofNat cs.length = Int32.ofNat 0; rw [n_eq (by omega) (by omega)]; omega), trivial⟩
  obtain ⟨T4, N4, g4⟩ := goSta K N2 (tw hw 51 rfl) (sf.1.ext (N2.old O0).2) (pc := 27) (L := #[.val (.ref a), .val (.ref ca), .val (.int (0 : Int32)), .val (.int (Int32.ofNat cs.length)), .val (.null), .unset]) (S := []) (by decide +kernel)
  have g5 : Ld p e below T4 (mkF m 30 #[.val (.ref a), .val (.ref ca), .val (.int (0 : Int32)), .val (.int (Int32.ofNat cs.length)), .val (.null), .unset] [(.int z)]) T4 (mkF m 36 #[.val (.ref a), .val (.ref ca), .val (.int (0 : Int32)), .val (.int (Int32.ofNat cs.length)), .val (.null), .unset] [(.int (Int32.ofNat cs.length)), (.int (0 : Int32)), (.ref ca)]) := goRun K N4 #[] [(30, .ifCond .eq 28, 3), (33, .aload_n 1, 1), (34, .iload_n 2, 1), (35, .iload_n 3, 1)] [.null] (P := (¬ z = (0 : Int32)) ∧ True) (by decide +kernel) rfl ⟨sf.2.1, trivial⟩
  obtain ⟨v6, T6, h6, N6, ⟨t, rfl, ht, K1, q1⟩, g6⟩ := goS K N4 (tw hw 52 rfl) (tw hw 53 rfl) (tw hw 54 rfl) (tw hw 55 rfl) (con_cp hw sf C hl hch O) (argsL := [(.ref ca), (.int (0 : Int32)), (.int (Int32.ofNat cs.length))]) (W := 0) (rest := []) (by decide) (by decide) (by decide) (by decide) (by decide) (L := #[.val (.ref a), .val (.ref ca), .val (.int (0 : Int32)), .val (.int (Int32.ofNat cs.length)), .val (.null), .unset]) rfl pd8 rfl (Nat.le_of_eq rfl) (pc := 36) (by decide +kernel)
  have na : a ≠ t := Nat.ne_of_lt (Nat.lt_of_lt_of_le X.lt ht)
  have g7 : Ld p e below T6 (mkF m 39 #[.val (.ref a), .val (.ref ca), .val (.int (0 : Int32)), .val (.int (Int32.ofNat cs.length)), .val (.null), .unset] [(.ref t)]) T6 (mkF m 45 #[.val (.ref a), .val (.ref ca), .val (.int (0 : Int32)), .val (.int (Int32.ofNat cs.length)), .val (.null), .val (.ref t)] [(.int (Int32.ofNat cs.length)), (.ref t), (.ref a)]) := goRun K N6 #[] [(39, .astore 5, 2), (41, .aload_n 0, 1), (42, .aload 5, 2), (44, .iload_n 3, 1)] [] (P := True) (by decide +kernel) rfl trivial
  rcases q1 with ⟨hall, A1⟩ | ⟨-, A1⟩
  · obtain ⟨v8, T8, _, N8, ⟨rfl, rfl⟩, g8⟩ := goS K N6 (tw hw 60 rfl) (tw hw 61 rfl) (tw hw 54 rfl) (tw hw 62 rfl) (con_cf0 A1 (by simp) (by omega)) (argsL := [(.ref t), (.int (Int32.ofNat cs.length))]) (W := 1) (rest := [(.ref a)]) (by decide) (by decide) (by decide) (by decide) (by decide) (L := #[.val (.ref a), .val (.ref ca), .val (.int (0 : Int32)), .val (.int (Int32.ofNat cs.length)), .val (.null), .val (.ref t)]) rfl pd9 rfl (Nat.le_of_eq rfl) (pc := 45) (by decide +kernel)
    obtain ⟨T9, h9, N9, W9, g9⟩ := goPut K N8 (C := "java/lang/String") (tw hw 63 rfl) (D.keep K1 nin0) (X.keep K1) (Or.inr ⟨(tw hw 64 rfl), rfl, hnm⟩) (tw hw 39 rfl) (ty := .byte) (v := .int (0 : Int32)) (by decide) rfl rfl ha (pc := 48) (L := #[.val (.ref a), .val (.ref ca), .val (.int (0 : Int32)), .val (.int (Int32.ofNat cs.length)), .val (.null), .val (.ref t)]) (S := []) (by decide +kernel)
    have g10 : Ld p e below T9 (mkF m 51 #[.val (.ref a), .val (.ref ca), .val (.int (0 : Int32)), .val (.int (Int32.ofNat cs.length)), .val (.null), .val (.ref t)] []) T9 (mkF m 54 #[.val (.ref a), .val (.ref ca), .val (.int (0 : Int32)), .val (.int (Int32.ofNat cs.length)), .val (.null), .val (.ref t)] [(.ref t), (.ref a)]) := goRun K N9 #[] [(51, .aload_n 0, 1), (52, .aload 5, 2)] [] (P := True) (by decide +kernel) rfl trivial
    obtain ⟨T11, h11, N11, W11, g11⟩ := goPut K N9 (C := "java/lang/String") (tw hw 65 rfl) ((V.keep K1 nin0).other W9 (Or.inr s12)) ((X.keep K1).wr W9) (Or.inr ⟨(tw hw 66 rfl), rfl, hnm⟩) (tw hw 39 rfl) (ty := .array .byte) (v := .ref t) (by decide) rfl rfl ha (pc := 54) (L := #[.val (.ref a), .val (.ref ca), .val (.int (0 : Int32)), .val (.int (Int32.ofNat cs.length)), .val (.null), .val (.ref t)]) (S := []) (by decide +kernel)
    have KK : Keep h h11 [a] := (((Keep.refl h [a]).trans K1 all0).wr W9 (Or.inl (List.mem_cons_self ..))).wr W11 (Or.inl (List.mem_cons_self ..))
    exact ⟨none, T11, _, h11, _, _, N11, by decide, by decide, fun _ => rfl, ⟨rfl, KK, t, ht, ((X.keep K1).wr W9).wr W11, hch, by omega, ((V.keep K1 nin0).other W9 (Or.inr s12)).same W11, Or.inl ⟨((D.keep K1 nin0).same W9).other W11 (Or.inr (Ne.symm s12)), hall, (A1.other W9 (Ne.symm na)).other W11 (Ne.symm na)⟩⟩, g1.trans (g2.trans (g3.trans (g4.trans (g5.trans (g6.trans (g7.trans (g8.trans (g9.trans (g10.trans g11))))))))), finV K N11 hret (by decide +kernel)⟩
  · obtain ⟨v8, T8, _, N8, ⟨rfl, rfl⟩, g8⟩ := goS K N6 (tw hw 60 rfl) (tw hw 61 rfl) (tw hw 54 rfl) (tw hw 62 rfl) (con_cf1 A1 (by rw [List.length_map, u16_len]) (by omega) hl0) (argsL := [(.ref t), (.int (Int32.ofNat cs.length))]) (W := 1) (rest := [(.ref a)]) (by decide) (by decide) (by decide) (by decide) (by decide) (L := #[.val (.ref a), .val (.ref ca), .val (.int (0 : Int32)), .val (.int (Int32.ofNat cs.length)), .val (.null), .val (.ref t)]) rfl pd9 rfl (Nat.le_of_eq rfl) (pc := 45) (by decide +kernel)
    obtain ⟨T9, h9, N9, W9, g9⟩ := goPut K N8 (C := "java/lang/String") (tw hw 63 rfl) (D.keep K1 nin0) (X.keep K1) (Or.inr ⟨(tw hw 64 rfl), rfl, hnm⟩) (tw hw 39 rfl) (ty := .byte) (v := .int (1 : Int32)) (by decide) rfl rfl ha (pc := 48) (L := #[.val (.ref a), .val (.ref ca), .val (.int (0 : Int32)), .val (.int (Int32.ofNat cs.length)), .val (.null), .val (.ref t)]) (S := []) (by decide +kernel)
    have g10 : Ld p e below T9 (mkF m 51 #[.val (.ref a), .val (.ref ca), .val (.int (0 : Int32)), .val (.int (Int32.ofNat cs.length)), .val (.null), .val (.ref t)] []) T9 (mkF m 54 #[.val (.ref a), .val (.ref ca), .val (.int (0 : Int32)), .val (.int (Int32.ofNat cs.length)), .val (.null), .val (.ref t)] [(.ref t), (.ref a)]) := goRun K N9 #[] [(51, .aload_n 0, 1), (52, .aload 5, 2)] [] (P := True) (by decide +kernel) rfl trivial
    obtain ⟨T11, h11, N11, W11, g11⟩ := goPut K N9 (C := "java/lang/String") (tw hw 65 rfl) ((V.keep K1 nin0).other W9 (Or.inr s12)) ((X.keep K1).wr W9) (Or.inr ⟨(tw hw 66 rfl), rfl, hnm⟩) (tw hw 39 rfl) (ty := .array .byte) (v := .ref t) (by decide) rfl rfl ha (pc := 54) (L := #[.val (.ref a), .val (.ref ca), .val (.int (0 : Int32)), .val (.int (Int32.ofNat cs.length)), .val (.null), .val (.ref t)]) (S := []) (by decide +kernel)
    have KK : Keep h h11 [a] := (((Keep.refl h [a]).trans K1 all0).wr W9 (Or.inl (List.mem_cons_self ..))).wr W11 (Or.inl (List.mem_cons_self ..))
    exact ⟨none, T11, _, h11, _, _, N11, by decide, by decide, fun _ => rfl, ⟨rfl, KK, t, ht, ((X.keep K1).wr W9).wr W11, hch, by omega, ((V.keep K1 nin0).other W9 (Or.inr s12)).same W11, Or.inr ⟨((D.keep K1 nin0).same W9).other W11 (Or.inr (Ne.symm s12)), (A1.other W9 (Ne.symm na)).other W11 (Ne.symm na)⟩⟩, g1.trans (g2.trans (g3.trans (g4.trans (g5.trans (g6.trans (g7.trans (g8.trans (g9.trans (g10.trans g11))))))))), finV K N11 hret (by decide +kernel)⟩
set_option maxHeartbeats 1000000 in
theorem con_si (hw : ∀ d ∈ tables_1, d.before a0 Z = true) {z : Int32} {fm : Value} (sf : SF Z z fm) {a ca : Addr} {cs : List Int32} (X : Exa Z h a "java/lang/String") (V : Fld Z h a "java/lang/String" "value" "[B" .null) (D : Fld Z h a "java/lang/String" "coder" "B" (.int 0)) (C : Av Z h ca .char (cs.map Value.int)) (hl : cs.length ≤ 18) (hl0 : 0 < cs.length) (hch : ∀ c ∈ cs, Ch c) (ha : n0 ≤ a) (O : Old Z n0 h) : Con l Z n0 ⟨"java/lang/String", "<init>", "([C)V"⟩ jdk_42_method_3_code 2 none [] ({ frames := 5, cells := 2, slots := 54, locals := 90 } : Room) #[.ref a, .ref ca] h (fun v h' => v = none ∧ Keep h h' [a] ∧ ∃ t, h.size ≤ t ∧ Stv Z h' a t cs) := by
  refine Con.ofH (plainFor_of_name pn1) (L0 := #[.val (.ref a), .val (.ref ca)]) (fun m => by first | (simp [entryFrame, mkF, argsToLocals, Value.category]; done) | rfl) ?_
  intro p e s m below meth c T K hret hnm N hs
  have O0 : Old Z n0 s.heap := by rw [hs]; exact O
  have g1 : Ld p e below T (mkF m 0 #[.val (.ref a), .val (.ref ca)] []) T (mkF m 6 #[.val (.ref a), .val (.ref ca)] [(.null), (.int (Int32.ofNat cs.length)), (.int (0 : Int32)), (.ref ca), (.ref a)]) := goRun K N #[] [(0, .aload_n 0, 1), (1, .aload_n 1, 1), (2, .iconst 0, 1), (3, .aload_n 1, 1), (4, .arraylength, 1), (5, .aconst_null, 1)] [.int (Int32.ofNat cs.length)] (P := (Ln Z h ca (Int32.ofNat cs.length)) ∧ True) (by decide +kernel) rfl ⟨(C.ln (by rw [n_ti (by omega), List.length_map])), trivial⟩
  obtain ⟨v2, T2, h2, N2, ⟨rfl, K1, t, ht, F1⟩, g2⟩ := goSp K N (a := a) (tw hw 44 rfl) (tw hw 45 rfl) (tw hw 40 rfl) (tw hw 47 rfl) (con_s4 hw sf X V D C hl hl0 hch ha O) rfl (by decide) (argsL := [(.ref ca), (.int (0 : Int32)), (.int (Int32.ofNat cs.length)), (.null)]) (W := 0) (rest := []) (by decide) (by decide) (by decide) (by decide) (L := #[.val (.ref a), .val (.ref ca)]) rfl pd10 rfl (Nat.le_of_eq rfl) (pc := 6) (by decide +kernel)
  exact ⟨none, T2, _, h2, _, _, N2, by decide, by decide, fun _ => rfl, ⟨rfl, K1, t, ht, F1⟩, g1.trans g2, finV K N2 hret (by decide +kernel)⟩
section OwnIf
variable {p : Program} {l : Launch} {e : Env} {R : Room} {s : State} {m : MethodId} {args : Array Value} {below : List Frame} {meth : Method} {c : Code} {T T1 T2 : State} {cells slots : Nat} {Z : State} {a0 : Array Value} {h h1 h2 : Heap} {own : String} {n0 : Nat} {b : ByteArray} {ml : Nat} {g g1 g2 : JFrame}
variable {y xi : MethodName} {bytes : ByteArray} {maxL : Nat} {ret : Option FieldType} {rm : Room} {index count : Nat} {argsL rest : List Value} {Q : Option Value → Heap → Prop} {pc : Nat} {L : Array Slot} {W : Nat} {ps : List FieldType} {rt : Option FieldType}
theorem goIf (K : Cx Z own b ml p m c) (N : Nw Z n0 h p l e R s m args below meth c T cells slots) {a : Addr} {C : String} (E : Exa Z h a C)
    (w1 : (Jvm.Cond.methodLink own index xi).before a0 Z = true) (w2 : (Jvm.Cond.declares xi).before a0 Z = true) (wi : (Jvm.Cond.interfaceMethod xi.cls xi.cls xi.name xi.desc).before a0 Z = true) (w5 : (Jvm.Cond.selects C xi y).before a0 Z = true) (w6 : (Jvm.Cond.instanceMethod y).before a0 Z = true) (wp : (Jvm.Cond.publicMethod y).before a0 Z = true) (wu : (Jvm.Cond.unhidden C xi.name xi.desc).before a0 Z = true) (wc : (Jvm.Cond.castable C xi.cls).before a0 Z = true) (w3 : (Jvm.Cond.initialized y.cls).before a0 Z = true) (w4 : (Jvm.Cond.code y bytes maxL ret).before a0 Z = true)
    (hM : Con l Z n0 y bytes maxL ret [] rm (Value.ref a :: argsL).toArray h Q) (hy : xi.cls ≠ "java/lang/invoke/MethodHandle" ∧ xi.cls ≠ "java/lang/invoke/VarHandle") (hf : rm.frames + 1 ≤ R.frames) (hl : W + (maxL + 11) + rm.locals ≤ R.locals) (hc : cells + rm.cells ≤ R.cells) (hs : slots + rm.slots ≤ R.slots)
    (hsz : L.size = ml) (hp : parseMethodDescriptor xi.desc = some ⟨ps, rt⟩) (hlen : argsL.length = ps.length) (hW : (rest.map fun v => v.category).sum ≤ W) (hd : decode b pc = .ok (.invokeinterface index count, 5)) :
    ∃ v T' h', Nw Z n0 h' p l e R s m args below meth c T' (cells + rm.cells) (slots + rm.slots) ∧ Q v h' ∧ Ld p e below T (mkF m pc L (argsL.reverse ++ .ref a :: rest)) T' (mkF m (pc + 5) L (v.toList ++ rest)) := by
  obtain ⟨Lc, X, eT, r, q, hZ⟩ := N
  obtain ⟨cB, kB, q1, q2, q3⟩ := isOf hZ eT E
  obtain ⟨v, _, ⟨T', L', k', n'⟩, -, X', ⟨Lc', hQ, l', y', z'⟩, st⟩ := X.interfaceBack K.1 (xi := xi) (y := y) (cx_own K hZ) (mvT hZ w1) (mvT hZ w2) (mvT hZ wi (by simp [Cond.onTables, Cond.keepsFace, Cond.keeps, Cond.steady, Cond.faceAtom, hy.1, hy.2])) (mvT hZ w5) (mvT hZ w6) (mvT hZ wp) (mvT hZ wu) (mvT hZ wc) hy (backOf (W := W) (Q := fun v h L => n0 ≤ h.size ∧ Fr n0 L ∧ Q v h) (hM q) hZ w4 w3 hf hl) q1 q2 q3 (g := mkF m pc L (argsL.reverse ++ .ref a :: rest)) rfl (by rw [K.2.2.2]; exact hsz) (Steps.refl _) (argsL := argsL) (rest := rest) (lenOf hp hlen) rfl (by show 2 * 0 + _ ≤ _; omega) (hb K.2.2.1 hd) (fun _ _ => ⟨rfl, eT, hc, hs⟩)
  dsimp only [Pt.U, Pt.locs, Pt.cells, Pt.slots] at X' l' y' z' st hQ
  subst l' y' z'
  exact ⟨v, T', T'.heap, ⟨_, X', rfl, Fr.app r hQ.2.1, hQ.1, hZ⟩, hQ.2.2, fun t k => st.trans k⟩
/-- from here the law returns 1 (narrow frame) -/
def Ends (Z : State) (n0 : Nat) (p : Program) (l : Launch) (e : Env) (R : Room) (s : State) (m : MethodId) (args : Array Value) (below : List Frame) (meth : Method) (c : Code) (T : State) (g : JFrame) : Prop :=
  ∃ (T' : State) (g' : JFrame) (h' : Heap) (k n : Nat), Nw Z n0 h' p l e R s m args below meth c T' k n ∧ k ≤ R.cells ∧ n ≤ R.slots ∧ Ld p e below T g T' g' ∧ Fn p e below m T' g' (some (.int 1))
theorem Ends.pre (L : Ld p e below T g T1 g1) (E : Ends Z n0 p l e R s m args below meth c T1 g1) : Ends Z n0 p l e R s m args below meth c T g := by
  obtain ⟨T', g', h', k, n, a, b, d, i, j⟩ := E
  exact ⟨T', g', h', k, n, a, b, d, L.trans i, j⟩
end OwnIf

section OwnInt
theorem oi_add (a b : Int) : Int32.ofInt a + Int32.ofInt b = Int32.ofInt (a + b) := (Int32.ofInt_add a b).symm
theorem oi_mul (a b : Int) : Int32.ofInt a * Int32.ofInt b = Int32.ofInt (a * b) := (Int32.ofInt_mul a b).symm
theorem oi_self (c : Int32) : Int32.ofInt c.toInt = c := Int32.ofInt_toInt c
theorem oi_sub (a b : Int) : Int32.ofInt (a - b) = Int32.ofInt a - Int32.ofInt b := Int32.ofInt_sub a b
theorem oi_ti {a : Int} (h1 : -2147483648 ≤ a) (h2 : a < 2147483648) : (Int32.ofInt a).toInt = a := by
  have e : Int32.size = 4294967296 := rfl
  rw [Int32.toInt_ofInt, e]; exact Int.bmod_eq_of_le (by omega) (by omega)
theorem i_lt {a b : Int32} (h : a.toInt < b.toInt) : a < b := Int32.lt_iff_toInt_lt.mpr h
theorem i_nlt {a b : Int32} (h : b.toInt ≤ a.toInt) : ¬ a < b := fun z => by rw [Int32.lt_iff_toInt_lt] at z; omega
theorem dg_step (N : Int) (c : Int32) : Int32.ofInt N * (10 : Int32) + c - (48 : Int32) = Int32.ofInt (N * 10 + c.toInt - 48) := by
  rw [oi_sub, ← oi_add, ← oi_mul, oi_self]; rfl
theorem n_pred {n : Nat} (q : n < 2147483648) : (Int32.ofNat n - 1).toInt = n - 1 := by
  rw [Int32.toInt_sub, n_ti q, show (1 : Int32).toInt = 1 from rfl]
  apply Int.bmod_eq_of_le <;> omega
theorem n_sub1 {n : Nat} (q : 0 < n) : Int32.ofNat n - 1 = Int32.ofNat (n - 1) := by
  obtain ⟨k, rfl⟩ : ∃ k, n = k + 1 := ⟨n - 1, by omega⟩
  rw [← n_one]; simp
theorem n_subn {a b : Nat} (q : b ≤ a) : Int32.ofNat a - Int32.ofNat b = Int32.ofNat (a - b) := by
  obtain ⟨k, rfl⟩ := Nat.exists_eq_add_of_le q
  rw [Int32.ofNat_add, show b + k - b = k by omega, Int32.add_comm, Int32.add_sub_cancel]
theorem n_rem {z : Int32} {k : Nat} (hz : 0 ≤ z.toInt) (hk : 0 < k) (hk2 : k < 2147483648) : ∃ n : Nat, n < k ∧ z % Int32.ofNat k = Int32.ofNat n := by
  refine ⟨z.toInt.toNat % k, Nat.mod_lt _ hk, ?_⟩
  have hlt : z.toInt.toNat % k < k := Nat.mod_lt _ hk
  apply Int32.toInt_inj.mp
  rw [Int32.toInt_mod, n_ti hk2, n_ti (by omega), Int.tmod_eq_emod_of_nonneg hz, Int.natCast_emod, Int.toNat_of_nonneg hz]
theorem mask_nn (x : Int32) : 0 ≤ (x &&& (2147483647 : Int32)).toInt := (c_andS x 2147483647).2.2 (by decide)
theorem m255_nn (x : Int32) : 0 ≤ (x &&& (255 : Int32)).toInt := (c_andS x 255).2.2 (by decide)
end OwnInt

theorem pd15 : parseMethodDescriptor "(II)I" = some ⟨[.int, .int], some (.int)⟩ := by decide +kernel
set_option maxHeartbeats 1000000 in
theorem con_mn (a b : Nat) (ha : a < 1000) (hb : b < 1000) : Con l Z n0 ⟨"java/lang/Math", "min", "(II)I"⟩ jdk_29_method_69_code 2 (some (.int)) [] ({ frames := 0, cells := 0, slots := 0, locals := 0 } : Room) #[.int (Int32.ofNat a), .int (Int32.ofNat b)] h (fun v h' => v = some (.int (Int32.ofNat (min a b))) ∧ h = h') := by
  refine Con.ofH (by decide +kernel) (L0 := #[.val (.int (Int32.ofNat a)), .val (.int (Int32.ofNat b))]) (fun m => by first | (simp [entryFrame, mkF, argsToLocals, Value.category]; done) | rfl) ?_
  intro p e s m below meth c T K hret hnm N hs
  by_cases q : b < a
  · have g1 : Ld p e below T (mkF m 0 #[.val (.int (Int32.ofNat a)), .val (.int (Int32.ofNat b))] []) T (mkF m 10 #[.val (.int (Int32.ofNat a)), .val (.int (Int32.ofNat b))] [(.int (Int32.ofNat b))]) := goRun K N #[] [(0, .iload_n 0, 1), (1, .iload_n 1, 1), (2, .if_icmp .gt 7, 3), (9, .iload_n 1, 1)] [.ref 0] (P := ((Int32.ofNat b) < (Int32.ofNat a)) ∧ True) (by decide +kernel) rfl ⟨((n_lt (by omega) (by omega)).mpr q), trivial⟩
    exact ⟨_, T, _, h, _, _, N, by decide, by decide, fun q => (nomatch q), ⟨by congr 3; simp [Nat.min_def]; omega, rfl⟩, g1, finI K N hret (by decide +kernel)⟩
  · have g1 : Ld p e below T (mkF m 0 #[.val (.int (Int32.ofNat a)), .val (.int (Int32.ofNat b))] []) T (mkF m 10 #[.val (.int (Int32.ofNat a)), .val (.int (Int32.ofNat b))] [(.int (Int32.ofNat a))]) := goRun K N #[] [(0, .iload_n 0, 1), (1, .iload_n 1, 1), (2, .if_icmp .gt 7, 3), (5, .iload_n 0, 1), (6, .goto 4, 3)] [.null] (P := (¬ (Int32.ofNat b) < (Int32.ofNat a)) ∧ True) (by decide +kernel) rfl ⟨(by rw [n_lt (by omega) (by omega)]; exact q), trivial⟩
    exact ⟨_, T, _, h, _, _, N, by decide, by decide, fun q => (nomatch q), ⟨by congr 3; simp [Nat.min_def]; omega, rfl⟩, g1, finI K N hret (by decide +kernel)⟩
set_option maxHeartbeats 1000000 in
theorem con_mx (a b : Nat) (ha : a < 1000) (hb : b < 1000) : Con l Z n0 ⟨"java/lang/Math", "max", "(II)I"⟩ jdk_29_method_65_code 2 (some (.int)) [] ({ frames := 0, cells := 0, slots := 0, locals := 0 } : Room) #[.int (Int32.ofNat a), .int (Int32.ofNat b)] h (fun v h' => v = some (.int (Int32.ofNat (max a b))) ∧ h = h') := by
  refine Con.ofH (by decide +kernel) (L0 := #[.val (.int (Int32.ofNat a)), .val (.int (Int32.ofNat b))]) (fun m => by first | (simp [entryFrame, mkF, argsToLocals, Value.category]; done) | rfl) ?_
  intro p e s m below meth c T K hret hnm N hs
  by_cases q : a < b
  · have g1 : Ld p e below T (mkF m 0 #[.val (.int (Int32.ofNat a)), .val (.int (Int32.ofNat b))] []) T (mkF m 10 #[.val (.int (Int32.ofNat a)), .val (.int (Int32.ofNat b))] [(.int (Int32.ofNat b))]) := goRun K N #[] [(0, .iload_n 0, 1), (1, .iload_n 1, 1), (2, .if_icmp .lt 7, 3), (9, .iload_n 1, 1)] [.ref 0] (P := ((Int32.ofNat a) < (Int32.ofNat b)) ∧ True) (by decide +kernel) rfl ⟨((n_lt (by omega) (by omega)).mpr q), trivial⟩
    exact ⟨_, T, _, h, _, _, N, by decide, by decide, fun q => (nomatch q), ⟨by congr 3; simp [Nat.max_def]; omega, rfl⟩, g1, finI K N hret (by decide +kernel)⟩
  · have g1 : Ld p e below T (mkF m 0 #[.val (.int (Int32.ofNat a)), .val (.int (Int32.ofNat b))] []) T (mkF m 10 #[.val (.int (Int32.ofNat a)), .val (.int (Int32.ofNat b))] [(.int (Int32.ofNat a))]) := goRun K N #[] [(0, .iload_n 0, 1), (1, .iload_n 1, 1), (2, .if_icmp .lt 7, 3), (5, .iload_n 0, 1), (6, .goto 4, 3)] [.null] (P := (¬ (Int32.ofNat a) < (Int32.ofNat b)) ∧ True) (by decide +kernel) rfl ⟨(by rw [n_lt (by omega) (by omega)]; exact q), trivial⟩
    exact ⟨_, T, _, h, _, _, N, by decide, by decide, fun q => (nomatch q), ⟨by congr 3; simp [Nat.max_def]; omega, rfl⟩, g1, finI K N hret (by decide +kernel)⟩
theorem pn4 : plainName "com/example/headers_to_descriptors/headerstodescriptors/NumeralsWholeValuePinLaw" = true := by first | (simp [plainName, overriddenIn]; done) | decide +kernel
theorem pd16 : parseMethodDescriptor "(JIIII)Z" = some ⟨[.long, .int, .int, .int, .int], some (.boolean)⟩ := by decide +kernel
theorem pd17 : parseMethodDescriptor "(JI)C" = some ⟨[.long, .int], some (.char)⟩ := by decide +kernel
theorem pd18 : parseMethodDescriptor "(I)J" = some ⟨[.int], some (.long)⟩ := by decide +kernel
theorem pn5 : plainName "com/example/headers_to_descriptors/headerstodescriptors/Numerals" = true := by first | (simp [plainName, overriddenIn]; done) | decide +kernel
theorem pd19 : parseMethodDescriptor "(Ljava/lang/CharSequence;II)J" = some ⟨[.object "java/lang/CharSequence", .int, .int], some (.long)⟩ := by decide +kernel
/-! the plain law -/
def digJ : Int → List Int32 → Int
  | N, [] => N
  | N, c :: cs => if 48 ≤ c.toInt ∧ c.toInt ≤ 57 then digJ (10 * N + (c.toInt - 48)) cs else -1
def dgc (v k : Nat) : Int32 := Int32.ofNat (48 + v / 10 ^ k % 10)
theorem dgc_ti (v k : Nat) : (dgc v k).toInt = 48 + ((v / 10 ^ k % 10 : Nat) : Int) := by
  have := Nat.mod_lt (v / 10 ^ k) (show 0 < 10 by decide)
  rw [dgc, n_ti (by omega)]; omega
theorem dgc_ch (v k : Nat) : Ch (dgc v k) := by
  have := Nat.mod_lt (v / 10 ^ k) (show 0 < 10 by decide)
  have := dgc_ti v k
  constructor <;> omega
theorem digJ_bad : ∀ (l : List Int32) (N : Int), (∃ c ∈ l, ¬ (48 ≤ c.toInt ∧ c.toInt ≤ 57)) → digJ N l = -1
  | [], N, ⟨c, hc, _⟩ => (nomatch hc)
  | d :: l, N, ⟨c, hc, hb⟩ => by
    rw [digJ]; split
    · rename_i hd
      rcases List.mem_cons.mp hc with rfl | hc
      · exact absurd hd hb
      · exact digJ_bad l _ ⟨c, hc, hb⟩
    · rfl
theorem getD_of {cs : List Int32} {i : Nat} (h : i < cs.length) : cs[i]? = some (cs.getD i 0) := by simp [List.getD_eq_getElem?_getD, h]
theorem drop_take {cs : List Int32} {i k : Nat} (h : i < cs.length) : (cs.drop i).take (k + 1) = cs.getD i 0 :: (cs.drop (i + 1)).take k := by
  obtain ⟨h1, h2⟩ := List.getElem?_eq_some_iff.mp (getD_of h)
  rw [List.drop_eq_getElem_cons h1, List.take_succ_cons, h2]
theorem digJ_win {cs : List Int32} {v : Nat} (hl : cs.length = 18) : ∀ (k i N : Nat), i + k ≤ 18 → (∀ j, i ≤ j → j < i + k → cs.getD j 0 = dgc v (17 - j)) →
    digJ (N : Int) ((cs.drop i).take k) = ((N * 10 ^ k + v / 10 ^ (18 - (i + k)) % 10 ^ k : Nat) : Int)
  | 0, i, N, _, _ => by simp [digJ, Nat.mod_one]
  | k + 1, i, N, hi, hd => by
    rw [drop_take (by omega), hd i (Nat.le_refl _) (by omega)]
    have r := Nat.mod_lt (v / 10 ^ (17 - i)) (show 0 < 10 by decide)
    have e := dgc_ti v (17 - i)
    rw [digJ, if_pos (by omega)]
    have e2 : 10 * (N : Int) + ((dgc v (17 - i)).toInt - 48) = ((10 * N + v / 10 ^ (17 - i) % 10 : Nat) : Int) := by omega
    rw [e2, digJ_win hl k (i + 1) _ (by omega) (fun j a b => hd j (by omega) (by omega))]
    congr 1
    rw [show i + 1 + k = i + (k + 1) by omega]
    have e3 : v / 10 ^ (17 - i) = v / 10 ^ (18 - (i + (k + 1))) / 10 ^ k := by
      rw [Nat.div_div_eq_div_mul, ← Nat.pow_add]; congr 2; omega
    rw [e3]
    generalize v / 10 ^ (18 - (i + (k + 1))) = u
    rw [Nat.pow_succ, Nat.mod_mul, Nat.add_mul, Nat.mul_comm 10 N, Nat.mul_assoc N 10, Nat.mul_comm 10 (10 ^ k), Nat.mul_comm (u / 10 ^ k % 10)]
    omega
theorem j_ti {n : Nat} (h : n < 9223372036854775808) : (Int64.ofNat n).toInt = n := Int64.toInt_ofNat_of_lt (by simpa using h)
theorem j_div {a b : Nat} (ha : a < 9223372036854775808) (hb : b < 9223372036854775808) : Int64.ofNat a / Int64.ofNat b = Int64.ofNat (a / b) := by
  apply Int64.toInt_inj.mp
  have : a / b ≤ a := Nat.div_le_self ..
  rw [Int64.toInt_div, j_ti ha, j_ti hb, j_ti (by omega), ← Int.ofNat_tdiv]
  generalize a / b = q at this ⊢
  exact Int.bmod_eq_of_le (by omega) (by omega)
theorem j_rem {a b : Nat} (ha : a < 9223372036854775808) (hb : b < 9223372036854775808) : Int64.ofNat a % Int64.ofNat b = Int64.ofNat (a % b) := by
  apply Int64.toInt_inj.mp
  have : a % b ≤ a := Nat.mod_le ..
  rw [Int64.toInt_mod, j_ti ha, j_ti hb, j_ti (by omega), ← Int.ofNat_tmod]
theorem maskJ (n : Int64) : 0 ≤ (n &&& (9223372036854775807 : Int64)).toInt := by
  have hm : (n &&& (9223372036854775807 : Int64)).toBitVec.msb = false := by
    rw [Int64.toBitVec_and, BitVec.msb_and, show ((9223372036854775807 : Int64).toBitVec).msb = false from by decide, Bool.and_false]
  show 0 ≤ (n &&& (9223372036854775807 : Int64)).toBitVec.toInt
  rw [BitVec.toInt_eq_toNat_of_msb hm]; omega
theorem j_of_nn {z : Int64} (h : 0 ≤ z.toInt) : ∃ k : Nat, k < 9223372036854775808 ∧ z = Int64.ofNat k := by
  have := Int64.toInt_lt z
  refine ⟨z.toInt.toNat, by omega, Int64.toInt_inj.mp ?_⟩
  rw [j_ti (by omega)]; omega
theorem p10_lt {k : Nat} (h : k ≤ 18) : 10 ^ k < 9223372036854775808 := Nat.lt_of_le_of_lt (Nat.pow_le_pow_right (by decide) h) (by decide)
theorem p10_ne {k : Nat} (h : k ≤ 18) : Int64.ofNat (10 ^ k) ≠ 0 := fun z => by
  have e := congrArg Int64.toInt z
  rw [j_ti (p10_lt h)] at e
  have : 0 < 10 ^ k := Nat.pow_pos (by decide)
  have : ((10 ^ k : Nat) : Int) = 0 := e
  omega
theorem oj_add (a b : Int) : Int64.ofInt a + Int64.ofInt b = Int64.ofInt (a + b) := (Int64.ofInt_add a b).symm
theorem oj_mul (a b : Int) : Int64.ofInt a * Int64.ofInt b = Int64.ofInt (a * b) := (Int64.ofInt_mul a b).symm
theorem j_of (c : Int32) : c.toInt64 = Int64.ofInt c.toInt := by
  apply Int64.toInt_inj.mp
  have h1 := Int32.le_toInt c
  have h2 := Int32.toInt_lt c
  have e : Int64.size = 18446744073709551616 := rfl
  rw [Int32.toInt_toInt64, Int64.toInt_ofInt, e]
  exact (Int.bmod_eq_of_le (by omega) (by omega)).symm
theorem ch_sub {c : Int32} (h : Ch c) : (c - 48).toInt = c.toInt - 48 := by
  obtain ⟨h1, h2⟩ := h
  rw [Int32.toInt_sub]
  exact Int.bmod_eq_of_le (by show _ ≤ c.toInt - 48; omega) (by show c.toInt - 48 < _; omega)
theorem wv_step (N : Int) {c : Int32} (h : Ch c) : (10 : Int64) * Int64.ofInt N + (c - 48).toInt64 = Int64.ofInt (10 * N + (c.toInt - 48)) := by
  rw [j_of, ch_sub h, show (10 : Int64) = Int64.ofInt 10 from rfl, oj_mul, oj_add]
theorem dch : ∀ r, r < 10 → ((48 : Int64) + Int64.ofNat r).toInt32.toUInt32.toUInt16.toUInt32.toInt32 = Int32.ofNat (48 + r) := by decide +kernel
theorem cmp_self (x : Int64) : XT.cmpL x x = 0 := by simp [XT.cmpL]
theorem hd_set {cs : List Int32} {k : Nat} {f : Nat → Int32} (h : ∀ i, i < k → cs.getD i 0 = f i) (hk : k < cs.length) : ∀ i, i < k + 1 → (cs.set k (f k)).getD i 0 = f i := fun i hi => by
  rw [List.getD_eq_getElem?_getD, List.getElem?_set]
  by_cases q : k = i
  · subst q; simp [hk]
  · rw [if_neg q, ← List.getD_eq_getElem?_getD]; exact h i (by omega)
theorem getD_set_ne {cs : List Int32} {k i : Nat} {d : Int32} (q : ¬ k = i) : (cs.set k d).getD i 0 = cs.getD i 0 := by
  rw [List.getD_eq_getElem?_getD, List.getElem?_set, if_neg q, ← List.getD_eq_getElem?_getD]
theorem ok_set {cs : List Int32} {k : Nat} {d : Int32} (hok : ∀ c ∈ cs, Ch c) (r1 : Ch d) : ∀ c ∈ cs.set k d, Ch c := fun c hc => by
  rcases List.mem_or_eq_of_mem_set hc with q | rfl
  · exact hok c q
  · exact r1
theorem mem_win {cs : List Int32} {s e t : Nat} {d : Int32} (hl : cs.length = 18) (he : e ≤ 18) (h1 : s ≤ t) (h2 : t < e) : d ∈ ((cs.set t d).drop s).take (e - s) := by
  refine List.mem_of_getElem? (i := t - s) ?_
  rw [List.getElem?_take, if_pos (by omega), List.getElem?_drop, show s + (t - s) = t by omega, List.getElem?_set, if_pos rfl, if_pos (by omega)]
def P10 : List Value := [.long 1, .long 10, .long 100, .long 1000, .long 10000, .long 100000, .long 1000000, .long 10000000, .long 100000000, .long 1000000000, .long 10000000000, .long 100000000000, .long 1000000000000, .long 10000000000000, .long 100000000000000, .long 1000000000000000, .long 10000000000000000, .long 100000000000000000, .long 1000000000000000000]
theorem p10_at : ∀ (k : Nat), k ≤ 18 → P10[k]? = some (.long (Int64.ofNat (10 ^ k)))
  | 0, _ => rfl
  | 1, _ => rfl
  | 2, _ => rfl
  | 3, _ => rfl
  | 4, _ => rfl
  | 5, _ => rfl
  | 6, _ => rfl
  | 7, _ => rfl
  | 8, _ => rfl
  | 9, _ => rfl
  | 10, _ => rfl
  | 11, _ => rfl
  | 12, _ => rfl
  | 13, _ => rfl
  | 14, _ => rfl
  | 15, _ => rfl
  | 16, _ => rfl
  | 17, _ => rfl
  | 18, _ => rfl
  | n + 19, h => absurd h (by omega)
set_option maxHeartbeats 1000000 in
theorem con_p10 (hw : ∀ d ∈ tables_1, d.before a0 Z = true) {k : Nat} (hk : k ≤ 18) : Con l Z n0 ⟨"com/example/headers_to_descriptors/headerstodescriptors/NumeralsWholeValuePinLaw", "pow10", "(I)J"⟩ method_4_code 2 (some (.long)) [] ({ frames := 0, cells := 1, slots := 19, locals := 0 } : Room) #[.int (Int32.ofNat k)] h (fun vv h' => vv = some (.long (Int64.ofNat (10 ^ k))) ∧ Keep h h' []) := by
  refine Con.ofH (plainFor_of_name pn4) (L0 := #[.val (.int (Int32.ofNat k)), .unset]) (fun m => by first | (simp [entryFrame, mkF, argsToLocals, Value.category]; done) | rfl) ?_
  intro p e s m below meth c T K hret hnm N hs
  have g1 : Ld p e below T (mkF m 0 #[.val (.int (Int32.ofNat k)), .unset] []) T (mkF m 2 #[.val (.int (Int32.ofNat k)), .unset] [(.int (19 : Int32))]) := goRun K N #[] [(0, .bipush 19, 2)] [] (P := True) (by decide +kernel) rfl trivial
  have hn19 : (19 : Int32).toInt = ((19 : Nat) : Int) := rfl
  obtain ⟨T2, h2, a2, cA2, ea2, N2, E2, A2, g2⟩ := goNewP K N (aty := .long) (tw hw 20 rfl) (n := (19 : Int32)) (not_neg_of hn19) (cap := 19) (by rw [clamp_of hn19]; omega) (by decide) (by decide) (by decide) (pc := 2) (L := #[.val (.int (Int32.ofNat k)), .unset]) (S := []) (by decide +kernel)
  have A2 := Av.new A2 (not_neg_of hn19) hn19
  have ha2 : n0 ≤ a2 := ea2 ▸ N.size
  have g3 : Ld p e below T2 (mkF m 4 #[.val (.int (Int32.ofNat k)), .unset] [(.ref a2)]) T2 (mkF m 7 #[.val (.int (Int32.ofNat k)), .unset] [(.long (1 : Int64)), (.int (0 : Int32)), (.ref a2), (.ref a2)]) := goRun K N2 #[] [(4, .dup, 1), (5, .iconst 0, 1), (6, .lconst 1, 1)] [] (P := True) (by decide +kernel) rfl trivial
  obtain ⟨T4, h4, N4, K4, A4, g4⟩ := avStJ K N2 A2 (j := (0 : Int32)) (i := 0) (x := (1 : Int64)) rfl (by simp) ha2 (pc := 7) (L := #[.val (.int (Int32.ofNat k)), .unset]) (S := [(.ref a2)]) (by decide +kernel)
  have g5 : Ld p e below T4 (mkF m 8 #[.val (.int (Int32.ofNat k)), .unset] [(.ref a2)]) T4 (mkF m 13 #[.val (.int (Int32.ofNat k)), .unset] [(.long (10 : Int64)), (.int (1 : Int32)), (.ref a2), (.ref a2)]) := goRun K N4 a0 [(8, .dup, 1), (9, .iconst 1, 1), (10, .ldc2_w 49, 3)] [.long (10 : Int64)] (P := ((Jvm.Cond.constantLong "com/example/headers_to_descriptors/headerstodescriptors/NumeralsWholeValuePinLaw" 49 (10 : Int64)).before a0 Z = true) ∧ True) (by decide +kernel) rfl ⟨(tw hw 21 rfl), trivial⟩
  obtain ⟨T6, h6, N6, K6, A6, g6⟩ := avStJ K N4 A4 (j := (1 : Int32)) (i := 1) (x := (10 : Int64)) rfl (by simp) ha2 (pc := 13) (L := #[.val (.int (Int32.ofNat k)), .unset]) (S := [(.ref a2)]) (by decide +kernel)
  have g7 : Ld p e below T6 (mkF m 14 #[.val (.int (Int32.ofNat k)), .unset] [(.ref a2)]) T6 (mkF m 19 #[.val (.int (Int32.ofNat k)), .unset] [(.long (100 : Int64)), (.int (2 : Int32)), (.ref a2), (.ref a2)]) := goRun K N6 a0 [(14, .dup, 1), (15, .iconst 2, 1), (16, .ldc2_w 51, 3)] [.long (100 : Int64)] (P := ((Jvm.Cond.constantLong "com/example/headers_to_descriptors/headerstodescriptors/NumeralsWholeValuePinLaw" 51 (100 : Int64)).before a0 Z = true) ∧ True) (by decide +kernel) rfl ⟨(tw hw 22 rfl), trivial⟩
  obtain ⟨T8, h8, N8, K8, A8, g8⟩ := avStJ K N6 A6 (j := (2 : Int32)) (i := 2) (x := (100 : Int64)) rfl (by simp) ha2 (pc := 19) (L := #[.val (.int (Int32.ofNat k)), .unset]) (S := [(.ref a2)]) (by decide +kernel)
  have g9 : Ld p e below T8 (mkF m 20 #[.val (.int (Int32.ofNat k)), .unset] [(.ref a2)]) T8 (mkF m 25 #[.val (.int (Int32.ofNat k)), .unset] [(.long (1000 : Int64)), (.int (3 : Int32)), (.ref a2), (.ref a2)]) := goRun K N8 a0 [(20, .dup, 1), (21, .iconst 3, 1), (22, .ldc2_w 53, 3)] [.long (1000 : Int64)] (P := ((Jvm.Cond.constantLong "com/example/headers_to_descriptors/headerstodescriptors/NumeralsWholeValuePinLaw" 53 (1000 : Int64)).before a0 Z = true) ∧ True) (by decide +kernel) rfl ⟨(tw hw 23 rfl), trivial⟩
  obtain ⟨T10, h10, N10, K10, A10, g10⟩ := avStJ K N8 A8 (j := (3 : Int32)) (i := 3) (x := (1000 : Int64)) rfl (by simp) ha2 (pc := 25) (L := #[.val (.int (Int32.ofNat k)), .unset]) (S := [(.ref a2)]) (by decide +kernel)
  have g11 : Ld p e below T10 (mkF m 26 #[.val (.int (Int32.ofNat k)), .unset] [(.ref a2)]) T10 (mkF m 31 #[.val (.int (Int32.ofNat k)), .unset] [(.long (10000 : Int64)), (.int (4 : Int32)), (.ref a2), (.ref a2)]) := goRun K N10 a0 [(26, .dup, 1), (27, .iconst 4, 1), (28, .ldc2_w 55, 3)] [.long (10000 : Int64)] (P := ((Jvm.Cond.constantLong "com/example/headers_to_descriptors/headerstodescriptors/NumeralsWholeValuePinLaw" 55 (10000 : Int64)).before a0 Z = true) ∧ True) (by decide +kernel) rfl ⟨(tw hw 24 rfl), trivial⟩
  obtain ⟨T12, h12, N12, K12, A12, g12⟩ := avStJ K N10 A10 (j := (4 : Int32)) (i := 4) (x := (10000 : Int64)) rfl (by simp) ha2 (pc := 31) (L := #[.val (.int (Int32.ofNat k)), .unset]) (S := [(.ref a2)]) (by decide +kernel)
  have g13 : Ld p e below T12 (mkF m 32 #[.val (.int (Int32.ofNat k)), .unset] [(.ref a2)]) T12 (mkF m 37 #[.val (.int (Int32.ofNat k)), .unset] [(.long (100000 : Int64)), (.int (5 : Int32)), (.ref a2), (.ref a2)]) := goRun K N12 a0 [(32, .dup, 1), (33, .iconst 5, 1), (34, .ldc2_w 57, 3)] [.long (100000 : Int64)] (P := ((Jvm.Cond.constantLong "com/example/headers_to_descriptors/headerstodescriptors/NumeralsWholeValuePinLaw" 57 (100000 : Int64)).before a0 Z = true) ∧ True) (by decide +kernel) rfl ⟨(tw hw 25 rfl), trivial⟩
  obtain ⟨T14, h14, N14, K14, A14, g14⟩ := avStJ K N12 A12 (j := (5 : Int32)) (i := 5) (x := (100000 : Int64)) rfl (by simp) ha2 (pc := 37) (L := #[.val (.int (Int32.ofNat k)), .unset]) (S := [(.ref a2)]) (by decide +kernel)
  have g15 : Ld p e below T14 (mkF m 38 #[.val (.int (Int32.ofNat k)), .unset] [(.ref a2)]) T14 (mkF m 44 #[.val (.int (Int32.ofNat k)), .unset] [(.long (1000000 : Int64)), (.int (6 : Int32)), (.ref a2), (.ref a2)]) := goRun K N14 a0 [(38, .dup, 1), (39, .bipush 6, 2), (41, .ldc2_w 59, 3)] [.long (1000000 : Int64)] (P := ((Jvm.Cond.constantLong "com/example/headers_to_descriptors/headerstodescriptors/NumeralsWholeValuePinLaw" 59 (1000000 : Int64)).before a0 Z = true) ∧ True) (by decide +kernel) rfl ⟨(tw hw 26 rfl), trivial⟩
  obtain ⟨T16, h16, N16, K16, A16, g16⟩ := avStJ K N14 A14 (j := (6 : Int32)) (i := 6) (x := (1000000 : Int64)) rfl (by simp) ha2 (pc := 44) (L := #[.val (.int (Int32.ofNat k)), .unset]) (S := [(.ref a2)]) (by decide +kernel)
  have g17 : Ld p e below T16 (mkF m 45 #[.val (.int (Int32.ofNat k)), .unset] [(.ref a2)]) T16 (mkF m 51 #[.val (.int (Int32.ofNat k)), .unset] [(.long (10000000 : Int64)), (.int (7 : Int32)), (.ref a2), (.ref a2)]) := goRun K N16 a0 [(45, .dup, 1), (46, .bipush 7, 2), (48, .ldc2_w 61, 3)] [.long (10000000 : Int64)] (P := ((Jvm.Cond.constantLong "com/example/headers_to_descriptors/headerstodescriptors/NumeralsWholeValuePinLaw" 61 (10000000 : Int64)).before a0 Z = true) ∧ True) (by decide +kernel) rfl ⟨(tw hw 27 rfl), trivial⟩
  obtain ⟨T18, h18, N18, K18, A18, g18⟩ := avStJ K N16 A16 (j := (7 : Int32)) (i := 7) (x := (10000000 : Int64)) rfl (by simp) ha2 (pc := 51) (L := #[.val (.int (Int32.ofNat k)), .unset]) (S := [(.ref a2)]) (by decide +kernel)
  have g19 : Ld p e below T18 (mkF m 52 #[.val (.int (Int32.ofNat k)), .unset] [(.ref a2)]) T18 (mkF m 58 #[.val (.int (Int32.ofNat k)), .unset] [(.long (100000000 : Int64)), (.int (8 : Int32)), (.ref a2), (.ref a2)]) := goRun K N18 a0 [(52, .dup, 1), (53, .bipush 8, 2), (55, .ldc2_w 63, 3)] [.long (100000000 : Int64)] (P := ((Jvm.Cond.constantLong "com/example/headers_to_descriptors/headerstodescriptors/NumeralsWholeValuePinLaw" 63 (100000000 : Int64)).before a0 Z = true) ∧ True) (by decide +kernel) rfl ⟨(tw hw 28 rfl), trivial⟩
  obtain ⟨T20, h20, N20, K20, A20, g20⟩ := avStJ K N18 A18 (j := (8 : Int32)) (i := 8) (x := (100000000 : Int64)) rfl (by simp) ha2 (pc := 58) (L := #[.val (.int (Int32.ofNat k)), .unset]) (S := [(.ref a2)]) (by decide +kernel)
  have g21 : Ld p e below T20 (mkF m 59 #[.val (.int (Int32.ofNat k)), .unset] [(.ref a2)]) T20 (mkF m 65 #[.val (.int (Int32.ofNat k)), .unset] [(.long (1000000000 : Int64)), (.int (9 : Int32)), (.ref a2), (.ref a2)]) := goRun K N20 a0 [(59, .dup, 1), (60, .bipush 9, 2), (62, .ldc2_w 65, 3)] [.long (1000000000 : Int64)] (P := ((Jvm.Cond.constantLong "com/example/headers_to_descriptors/headerstodescriptors/NumeralsWholeValuePinLaw" 65 (1000000000 : Int64)).before a0 Z = true) ∧ True) (by decide +kernel) rfl ⟨(tw hw 29 rfl), trivial⟩
  obtain ⟨T22, h22, N22, K22, A22, g22⟩ := avStJ K N20 A20 (j := (9 : Int32)) (i := 9) (x := (1000000000 : Int64)) rfl (by simp) ha2 (pc := 65) (L := #[.val (.int (Int32.ofNat k)), .unset]) (S := [(.ref a2)]) (by decide +kernel)
  have g23 : Ld p e below T22 (mkF m 66 #[.val (.int (Int32.ofNat k)), .unset] [(.ref a2)]) T22 (mkF m 72 #[.val (.int (Int32.ofNat k)), .unset] [(.long (10000000000 : Int64)), (.int (10 : Int32)), (.ref a2), (.ref a2)]) := goRun K N22 a0 [(66, .dup, 1), (67, .bipush 10, 2), (69, .ldc2_w 67, 3)] [.long (10000000000 : Int64)] (P := ((Jvm.Cond.constantLong "com/example/headers_to_descriptors/headerstodescriptors/NumeralsWholeValuePinLaw" 67 (10000000000 : Int64)).before a0 Z = true) ∧ True) (by decide +kernel) rfl ⟨(tw hw 30 rfl), trivial⟩
  obtain ⟨T24, h24, N24, K24, A24, g24⟩ := avStJ K N22 A22 (j := (10 : Int32)) (i := 10) (x := (10000000000 : Int64)) rfl (by simp) ha2 (pc := 72) (L := #[.val (.int (Int32.ofNat k)), .unset]) (S := [(.ref a2)]) (by decide +kernel)
  have g25 : Ld p e below T24 (mkF m 73 #[.val (.int (Int32.ofNat k)), .unset] [(.ref a2)]) T24 (mkF m 79 #[.val (.int (Int32.ofNat k)), .unset] [(.long (100000000000 : Int64)), (.int (11 : Int32)), (.ref a2), (.ref a2)]) := goRun K N24 a0 [(73, .dup, 1), (74, .bipush 11, 2), (76, .ldc2_w 69, 3)] [.long (100000000000 : Int64)] (P := ((Jvm.Cond.constantLong "com/example/headers_to_descriptors/headerstodescriptors/NumeralsWholeValuePinLaw" 69 (100000000000 : Int64)).before a0 Z = true) ∧ True) (by decide +kernel) rfl ⟨(tw hw 31 rfl), trivial⟩
  obtain ⟨T26, h26, N26, K26, A26, g26⟩ := avStJ K N24 A24 (j := (11 : Int32)) (i := 11) (x := (100000000000 : Int64)) rfl (by simp) ha2 (pc := 79) (L := #[.val (.int (Int32.ofNat k)), .unset]) (S := [(.ref a2)]) (by decide +kernel)
  have g27 : Ld p e below T26 (mkF m 80 #[.val (.int (Int32.ofNat k)), .unset] [(.ref a2)]) T26 (mkF m 86 #[.val (.int (Int32.ofNat k)), .unset] [(.long (1000000000000 : Int64)), (.int (12 : Int32)), (.ref a2), (.ref a2)]) := goRun K N26 a0 [(80, .dup, 1), (81, .bipush 12, 2), (83, .ldc2_w 71, 3)] [.long (1000000000000 : Int64)] (P := ((Jvm.Cond.constantLong "com/example/headers_to_descriptors/headerstodescriptors/NumeralsWholeValuePinLaw" 71 (1000000000000 : Int64)).before a0 Z = true) ∧ True) (by decide +kernel) rfl ⟨(tw hw 32 rfl), trivial⟩
  obtain ⟨T28, h28, N28, K28, A28, g28⟩ := avStJ K N26 A26 (j := (12 : Int32)) (i := 12) (x := (1000000000000 : Int64)) rfl (by simp) ha2 (pc := 86) (L := #[.val (.int (Int32.ofNat k)), .unset]) (S := [(.ref a2)]) (by decide +kernel)
  have g29 : Ld p e below T28 (mkF m 87 #[.val (.int (Int32.ofNat k)), .unset] [(.ref a2)]) T28 (mkF m 93 #[.val (.int (Int32.ofNat k)), .unset] [(.long (10000000000000 : Int64)), (.int (13 : Int32)), (.ref a2), (.ref a2)]) := goRun K N28 a0 [(87, .dup, 1), (88, .bipush 13, 2), (90, .ldc2_w 73, 3)] [.long (10000000000000 : Int64)] (P := ((Jvm.Cond.constantLong "com/example/headers_to_descriptors/headerstodescriptors/NumeralsWholeValuePinLaw" 73 (10000000000000 : Int64)).before a0 Z = true) ∧ True) (by decide +kernel) rfl ⟨(tw hw 33 rfl), trivial⟩
  obtain ⟨T30, h30, N30, K30, A30, g30⟩ := avStJ K N28 A28 (j := (13 : Int32)) (i := 13) (x := (10000000000000 : Int64)) rfl (by simp) ha2 (pc := 93) (L := #[.val (.int (Int32.ofNat k)), .unset]) (S := [(.ref a2)]) (by decide +kernel)
  have g31 : Ld p e below T30 (mkF m 94 #[.val (.int (Int32.ofNat k)), .unset] [(.ref a2)]) T30 (mkF m 100 #[.val (.int (Int32.ofNat k)), .unset] [(.long (100000000000000 : Int64)), (.int (14 : Int32)), (.ref a2), (.ref a2)]) := goRun K N30 a0 [(94, .dup, 1), (95, .bipush 14, 2), (97, .ldc2_w 75, 3)] [.long (100000000000000 : Int64)] (P := ((Jvm.Cond.constantLong "com/example/headers_to_descriptors/headerstodescriptors/NumeralsWholeValuePinLaw" 75 (100000000000000 : Int64)).before a0 Z = true) ∧ True) (by decide +kernel) rfl ⟨(tw hw 34 rfl), trivial⟩
  obtain ⟨T32, h32, N32, K32, A32, g32⟩ := avStJ K N30 A30 (j := (14 : Int32)) (i := 14) (x := (100000000000000 : Int64)) rfl (by simp) ha2 (pc := 100) (L := #[.val (.int (Int32.ofNat k)), .unset]) (S := [(.ref a2)]) (by decide +kernel)
  have g33 : Ld p e below T32 (mkF m 101 #[.val (.int (Int32.ofNat k)), .unset] [(.ref a2)]) T32 (mkF m 107 #[.val (.int (Int32.ofNat k)), .unset] [(.long (1000000000000000 : Int64)), (.int (15 : Int32)), (.ref a2), (.ref a2)]) := goRun K N32 a0 [(101, .dup, 1), (102, .bipush 15, 2), (104, .ldc2_w 77, 3)] [.long (1000000000000000 : Int64)] (P := ((Jvm.Cond.constantLong "com/example/headers_to_descriptors/headerstodescriptors/NumeralsWholeValuePinLaw" 77 (1000000000000000 : Int64)).before a0 Z = true) ∧ True) (by decide +kernel) rfl ⟨(tw hw 35 rfl), trivial⟩
  obtain ⟨T34, h34, N34, K34, A34, g34⟩ := avStJ K N32 A32 (j := (15 : Int32)) (i := 15) (x := (1000000000000000 : Int64)) rfl (by simp) ha2 (pc := 107) (L := #[.val (.int (Int32.ofNat k)), .unset]) (S := [(.ref a2)]) (by decide +kernel)
  have g35 : Ld p e below T34 (mkF m 108 #[.val (.int (Int32.ofNat k)), .unset] [(.ref a2)]) T34 (mkF m 114 #[.val (.int (Int32.ofNat k)), .unset] [(.long (10000000000000000 : Int64)), (.int (16 : Int32)), (.ref a2), (.ref a2)]) := goRun K N34 a0 [(108, .dup, 1), (109, .bipush 16, 2), (111, .ldc2_w 79, 3)] [.long (10000000000000000 : Int64)] (P := ((Jvm.Cond.constantLong "com/example/headers_to_descriptors/headerstodescriptors/NumeralsWholeValuePinLaw" 79 (10000000000000000 : Int64)).before a0 Z = true) ∧ True) (by decide +kernel) rfl ⟨(tw hw 36 rfl), trivial⟩
  obtain ⟨T36, h36, N36, K36, A36, g36⟩ := avStJ K N34 A34 (j := (16 : Int32)) (i := 16) (x := (10000000000000000 : Int64)) rfl (by simp) ha2 (pc := 114) (L := #[.val (.int (Int32.ofNat k)), .unset]) (S := [(.ref a2)]) (by decide +kernel)
  have g37 : Ld p e below T36 (mkF m 115 #[.val (.int (Int32.ofNat k)), .unset] [(.ref a2)]) T36 (mkF m 121 #[.val (.int (Int32.ofNat k)), .unset] [(.long (100000000000000000 : Int64)), (.int (17 : Int32)), (.ref a2), (.ref a2)]) := goRun K N36 a0 [(115, .dup, 1), (116, .bipush 17, 2), (118, .ldc2_w 81, 3)] [.long (100000000000000000 : Int64)] (P := ((Jvm.Cond.constantLong "com/example/headers_to_descriptors/headerstodescriptors/NumeralsWholeValuePinLaw" 81 (100000000000000000 : Int64)).before a0 Z = true) ∧ True) (by decide +kernel) rfl ⟨(tw hw 37 rfl), trivial⟩
  obtain ⟨T38, h38, N38, K38, A38, g38⟩ := avStJ K N36 A36 (j := (17 : Int32)) (i := 17) (x := (100000000000000000 : Int64)) rfl (by simp) ha2 (pc := 121) (L := #[.val (.int (Int32.ofNat k)), .unset]) (S := [(.ref a2)]) (by decide +kernel)
  have g39 : Ld p e below T38 (mkF m 122 #[.val (.int (Int32.ofNat k)), .unset] [(.ref a2)]) T38 (mkF m 128 #[.val (.int (Int32.ofNat k)), .unset] [(.long (1000000000000000000 : Int64)), (.int (18 : Int32)), (.ref a2), (.ref a2)]) := goRun K N38 a0 [(122, .dup, 1), (123, .bipush 18, 2), (125, .ldc2_w 11, 3)] [.long (1000000000000000000 : Int64)] (P := ((Jvm.Cond.constantLong "com/example/headers_to_descriptors/headerstodescriptors/NumeralsWholeValuePinLaw" 11 (1000000000000000000 : Int64)).before a0 Z = true) ∧ True) (by decide +kernel) rfl ⟨(tw hw 1 rfl), trivial⟩
  obtain ⟨T40, h40, N40, K40, A40, g40⟩ := avStJ K N38 A38 (j := (18 : Int32)) (i := 18) (x := (1000000000000000000 : Int64)) rfl (by simp) ha2 (pc := 128) (L := #[.val (.int (Int32.ofNat k)), .unset]) (S := [(.ref a2)]) (by decide +kernel)
  have AP : Av Z h40 a2 .long P10 := A40
  have g41 : Ld p e below T40 (mkF m 129 #[.val (.int (Int32.ofNat k)), .unset] [(.ref a2)]) T40 (mkF m 133 #[.val (.int (Int32.ofNat k)), .val (.ref a2)] [(.long (Int64.ofNat (10 ^ k)))]) := goRun K N40 #[] [(129, .astore_n 1, 1), (130, .aload_n 1, 1), (131, .iload_n 0, 1), (132, .laload, 1)] [.long (Int64.ofNat (10 ^ k))] (P := (Rd Z h40 a2 .long (Int32.ofNat k) (.long (Int64.ofNat (10 ^ k)))) ∧ True) (by decide +kernel) rfl ⟨(AP.rd (n_ti (by omega)) (p10_at k hk)), trivial⟩
  exact ⟨_, T40, _, h40, _, _, N40, by decide, by decide, fun q => (nomatch q), ⟨rfl, ((((((((((((((((((((keep_ext (ws := []) E2).trans K4 (allS (Or.inr (Nat.le_of_eq ea2.symm)) all0)).trans K6 (allS (Or.inr (Nat.le_of_eq ea2.symm)) all0)).trans K8 (allS (Or.inr (Nat.le_of_eq ea2.symm)) all0)).trans K10 (allS (Or.inr (Nat.le_of_eq ea2.symm)) all0)).trans K12 (allS (Or.inr (Nat.le_of_eq ea2.symm)) all0)).trans K14 (allS (Or.inr (Nat.le_of_eq ea2.symm)) all0)).trans K16 (allS (Or.inr (Nat.le_of_eq ea2.symm)) all0)).trans K18 (allS (Or.inr (Nat.le_of_eq ea2.symm)) all0)).trans K20 (allS (Or.inr (Nat.le_of_eq ea2.symm)) all0)).trans K22 (allS (Or.inr (Nat.le_of_eq ea2.symm)) all0)).trans K24 (allS (Or.inr (Nat.le_of_eq ea2.symm)) all0)).trans K26 (allS (Or.inr (Nat.le_of_eq ea2.symm)) all0)).trans K28 (allS (Or.inr (Nat.le_of_eq ea2.symm)) all0)).trans K30 (allS (Or.inr (Nat.le_of_eq ea2.symm)) all0)).trans K32 (allS (Or.inr (Nat.le_of_eq ea2.symm)) all0)).trans K34 (allS (Or.inr (Nat.le_of_eq ea2.symm)) all0)).trans K36 (allS (Or.inr (Nat.le_of_eq ea2.symm)) all0)).trans K38 (allS (Or.inr (Nat.le_of_eq ea2.symm)) all0)).trans K40 (allS (Or.inr (Nat.le_of_eq ea2.symm)) all0))⟩, g1.trans (g2.trans (g3.trans (g4.trans (g5.trans (g6.trans (g7.trans (g8.trans (g9.trans (g10.trans (g11.trans (g12.trans (g13.trans (g14.trans (g15.trans (g16.trans (g17.trans (g18.trans (g19.trans (g20.trans (g21.trans (g22.trans (g23.trans (g24.trans (g25.trans (g26.trans (g27.trans (g28.trans (g29.trans (g30.trans (g31.trans (g32.trans (g33.trans (g34.trans (g35.trans (g36.trans (g37.trans (g38.trans (g39.trans (g40.trans g41))))))))))))))))))))))))))))))))))))))), finJ K N40 hret (by decide +kernel)⟩
set_option maxHeartbeats 1000000 in
theorem con_dgt (hw : ∀ d ∈ tables_1, d.before a0 Z = true) {v k : Nat} (hv : v < 1000000000000000000) (hk : k ≤ 18) : Con l Z n0 ⟨"com/example/headers_to_descriptors/headerstodescriptors/NumeralsWholeValuePinLaw", "digit", "(JI)C"⟩ method_3_code 3 (some (.char)) [] ({ frames := 1, cells := 1, slots := 19, locals := 17 } : Room) #[.long (Int64.ofNat v), .int (Int32.ofNat k)] h (fun vv h' => vv = some (.int (dgc v k)) ∧ Keep h h' []) := by
  refine Con.ofH (plainFor_of_name pn4) (L0 := #[.val (.long (Int64.ofNat v)), .second, .val (.int (Int32.ofNat k))]) (fun m => by first | (simp [entryFrame, mkF, argsToLocals, Value.category]; done) | rfl) ?_
  intro p e s m below meth c T K hret hnm N hs
  have g1 : Ld p e below T (mkF m 0 #[.val (.long (Int64.ofNat v)), .second, .val (.int (Int32.ofNat k))] []) T (mkF m 5 #[.val (.long (Int64.ofNat v)), .second, .val (.int (Int32.ofNat k))] [(.int (Int32.ofNat k)), (.long (Int64.ofNat v)), (.long (48 : Int64))]) := goRun K N a0 [(0, .ldc2_w 47, 3), (3, .lload_n 0, 1), (4, .iload_n 2, 1)] [.long (48 : Int64)] (P := ((Jvm.Cond.constantLong "com/example/headers_to_descriptors/headerstodescriptors/NumeralsWholeValuePinLaw" 47 (48 : Int64)).before a0 Z = true) ∧ True) (by decide +kernel) rfl ⟨(tw hw 16 rfl), trivial⟩
  obtain ⟨v2, T2, h2, N2, ⟨rfl, KP⟩, g2⟩ := goS K N (tw hw 17 rfl) (tw hw 18 rfl) (tw hw 14 rfl) (tw hw 19 rfl) (con_p10 hw hk) (argsL := [(.int (Int32.ofNat k))]) (W := 4) (rest := [(.long (Int64.ofNat v)), (.long (48 : Int64))]) (by decide) (by decide) (by decide) (by decide) (by decide) (L := #[.val (.long (Int64.ofNat v)), .second, .val (.int (Int32.ofNat k))]) rfl pd18 rfl (Nat.le_of_eq rfl) (pc := 5) (by decide +kernel)
  have g3 : Ld p e below T2 (mkF m 8 #[.val (.long (Int64.ofNat v)), .second, .val (.int (Int32.ofNat k))] [(.long (Int64.ofNat (10 ^ k))), (.long (Int64.ofNat v)), (.long (48 : Int64))]) T2 (mkF m 16 #[.val (.long (Int64.ofNat v)), .second, .val (.int (Int32.ofNat k))] [(.int ((((48 : Int64) + (((Int64.ofNat v) / (Int64.ofNat (10 ^ k))) % (10 : Int64))).toInt32).toUInt32.toUInt16.toUInt32.toInt32))]) := goRun K N2 a0 [(8, .ldiv, 1), (9, .ldc2_w 49, 3), (12, .lrem, 1), (13, .ladd, 1), (14, .l2i, 1), (15, .i2c, 1)] [.long (10 : Int64)] (P := ((Int64.ofNat (10 ^ k)) ≠ 0) ∧ ((Jvm.Cond.constantLong "com/example/headers_to_descriptors/headerstodescriptors/NumeralsWholeValuePinLaw" 49 (10 : Int64)).before a0 Z = true) ∧ ((10 : Int64) ≠ 0) ∧ True) (by decide +kernel) rfl ⟨(p10_ne hk), (tw hw 21 rfl), (by decide), trivial⟩
  have e1 : Int64.ofNat v / Int64.ofNat (10 ^ k) % (10 : Int64) = Int64.ofNat (v / 10 ^ k % 10) := by
    rw [j_div (by omega) (p10_lt hk)]; exact j_rem (b := 10) (Nat.lt_of_le_of_lt (Nat.div_le_self ..) (by omega)) (by decide)
  rw [e1, dch _ (Nat.mod_lt _ (by decide))] at g3
  exact ⟨_, T2, _, h2, _, _, N2, by decide, by decide, fun q => (nomatch q), ⟨congrArg (fun z => some (Value.int z)) (nar_ch (dgc_ch v k)), KP⟩, g1.trans (g2.trans g3), finN K N2 hret (Or.inr (Or.inr (Or.inl rfl))) (by decide +kernel)⟩
set_option maxHeartbeats 1000000 in
theorem wv_loop (hw : ∀ d ∈ tables_1, d.before a0 Z = true) {z : Int32} {fm : Value} (sf : SF Z z fm) (K : Cx Z "com/example/headers_to_descriptors/headerstodescriptors/Numerals" prog_4_method_5_code 7 p m c) {a t : Addr} {cs : List Int32} {sS : Int32} {e' : Nat} (F : Stv Z h a t cs) (he : e' ≤ cs.length) (hret : meth.sig.returnType = some .long) (hRf : 5 ≤ R.frames) (hRl : 93 ≤ R.locals) (hRc : cells ≤ R.cells) (hRs : slots ≤ R.slots) (O0 : Old Z n0 s.heap) : ∀ (k i : Nat) (NN : Int) (q6 : Slot) (T : State), i + k = e' → One q6 → Nw Z n0 h p l e R s m args below meth c T cells slots →
    ∃ T' g', Nw Z n0 h p l e R s m args below meth c T' cells slots ∧ Ld p e below T (mkF m 5 #[.val (.ref a), .val (.int sS), .val (.int (Int32.ofNat e')), .val (.long (Int64.ofInt NN)), .second, .val (.int (Int32.ofNat i)), q6] []) T' g' ∧ Fn p e below m T' g' (some (.long (Int64.ofInt (digJ NN ((cs.drop i).take k))))) := by
  have hl := F.2.2.1
  intro k
  induction k with
  | zero =>
    intro i NN q6 T hi h6 N
    have g1 : Ld p e below T (mkF m 5 #[.val (.ref a), .val (.int sS), .val (.int (Int32.ofNat e')), .val (.long (Int64.ofInt NN)), .second, .val (.int (Int32.ofNat i)), q6] []) T (mkF m 57 #[.val (.ref a), .val (.int sS), .val (.int (Int32.ofNat e')), .val (.long (Int64.ofInt NN)), .second, .val (.int (Int32.ofNat i)), q6] [(.long (Int64.ofInt NN))]) := goRun K N #[] [(5, .iload 5, 2), (7, .iload_n 2, 1), (8, .if_icmp .ge 48, 3), (56, .lload_n 3, 1)] [.ref 0] (P := (¬ (Int32.ofNat i) < (Int32.ofNat e')) ∧ True) (by decide +kernel) rfl ⟨(by rw [n_lt (by omega) (by omega)]; omega), trivial⟩
    exact ⟨T, _, N, g1, finJ K N hret (by decide +kernel)⟩
  | succ k ih =>
    intro i NN q6 T hi h6 N
    have hc : cs[i]? = some (cs.getD i 0) := getD_of (by omega)
    have hch : Ch (cs.getD i 0) := F.2.1 _ (List.mem_of_getElem? hc)
    have hsb := ch_sub hch
    have hlt : Int32.ofNat i < Int32.ofNat e' := (n_lt (by omega) (by omega)).mpr (by omega)
    rw [drop_take (by omega)]
    obtain ⟨cc, ecc⟩ : ∃ cc, cc = cs.getD i 0 := ⟨_, rfl⟩
    rw [← ecc] at hc hch hsb ⊢
    rcases h6 with rfl | ⟨i6, rfl⟩
    · have g1 : Ld p e below T (mkF m 5 #[.val (.ref a), .val (.int sS), .val (.int (Int32.ofNat e')), .val (.long (Int64.ofInt NN)), .second, .val (.int (Int32.ofNat i)), .unset] []) T (mkF m 14 #[.val (.ref a), .val (.int sS), .val (.int (Int32.ofNat e')), .val (.long (Int64.ofInt NN)), .second, .val (.int (Int32.ofNat i)), .unset] [(.int (Int32.ofNat i)), (.ref a)]) := goRun K N #[] [(5, .iload 5, 2), (7, .iload_n 2, 1), (8, .if_icmp .ge 48, 3), (11, .aload_n 0, 1), (12, .iload 5, 2)] [.null] (P := ((Int32.ofNat i) < (Int32.ofNat e')) ∧ True) (by decide +kernel) rfl ⟨hlt, trivial⟩
      obtain ⟨v2, T2, _, N2, ⟨rfl, rfl⟩, g2⟩ := goIf (count := 2) K N (a := a) F.1 (tw hw 71 rfl) (tw hw 72 rfl) (tw hw 73 rfl) (tw hw 74 rfl) (tw hw 75 rfl) (tw hw 76 rfl) (tw hw 77 rfl) (tw hw 78 rfl) (tw hw 40 rfl) (tw hw 79 rfl) (con_ca hw sf F hc (N.old O0)) (argsL := [(.int (Int32.ofNat i))]) (W := 0) (rest := []) (by decide) (Nat.le_trans (by decide) hRf) (Nat.le_trans (by decide) hRl) (by simpa using hRc) (by simpa using hRs) (L := #[.val (.ref a), .val (.int sS), .val (.int (Int32.ofNat e')), .val (.long (Int64.ofInt NN)), .second, .val (.int (Int32.ofNat i)), .unset]) rfl pd4 rfl (Nat.le_of_eq rfl) (pc := 14) (by decide +kernel)
      by_cases q1 : 48 ≤ cc.toInt
      · by_cases q2 : cc.toInt ≤ 57
        · have g3 : Ld p e below T2 (mkF m 19 #[.val (.ref a), .val (.int sS), .val (.int (Int32.ofNat e')), .val (.long (Int64.ofInt NN)), .second, .val (.int (Int32.ofNat i)), .unset] [(.int cc)]) T2 (mkF m 5 #[.val (.ref a), .val (.int sS), .val (.int (Int32.ofNat e')), .val (.long (((10 : Int64) * (Int64.ofInt NN)) + ((cc - (48 : Int32)).toInt64))), .second, .val (.int ((Int32.ofNat i) + (1 : Int32))), .val (.int (cc - (48 : Int32)))] []) := goRun K N2 a0 [(19, .bipush 48, 2), (21, .isub, 1), (22, .istore 6, 2), (24, .iload 6, 2), (26, .ifCond .lt 10, 3), (29, .iload 6, 2), (31, .bipush 9, 2), (33, .if_icmp .le 7, 3), (40, .ldc2_w 68, 3), (43, .lload_n 3, 1), (44, .lmul, 1), (45, .iload 6, 2), (47, .i2l, 1), (48, .ladd, 1), (49, .lstore_n 3, 1), (50, .iinc 5 1, 3), (53, .goto (-48), 3)] [.null, .ref 0, .long (10 : Int64)] (P := (¬ (cc - (48 : Int32)) < (0 : Int32)) ∧ (¬ (9 : Int32) < (cc - (48 : Int32))) ∧ ((Jvm.Cond.constantLong "com/example/headers_to_descriptors/headerstodescriptors/Numerals" 68 (10 : Int64)).before a0 Z = true) ∧ True) (by decide +kernel) rfl ⟨(i_nlt (by rw [hsb]; show (0 : Int) ≤ _; omega)), (i_nlt (by rw [hsb]; show _ ≤ (9 : Int); omega)), (tw hw 97 rfl), trivial⟩
          rw [n_one, wv_step _ hch] at g3
          obtain ⟨T9, g', N9, g9, f9⟩ := ih (i + 1) (10 * NN + (cc.toInt - 48)) _ T2 (by omega) (Or.inr ⟨_, rfl⟩) N2
          refine ⟨T9, g', N9, g1.trans (g2.trans (g3.trans g9)), ?_⟩
          rw [digJ, if_pos ⟨q1, q2⟩]; exact f9
        · have g3 : Ld p e below T2 (mkF m 19 #[.val (.ref a), .val (.int sS), .val (.int (Int32.ofNat e')), .val (.long (Int64.ofInt NN)), .second, .val (.int (Int32.ofNat i)), .unset] [(.int cc)]) T2 (mkF m 39 #[.val (.ref a), .val (.int sS), .val (.int (Int32.ofNat e')), .val (.long (Int64.ofInt NN)), .second, .val (.int (Int32.ofNat i)), .val (.int (cc - (48 : Int32)))] [(.long (-1 : Int64))]) := goRun K N2 a0 [(19, .bipush 48, 2), (21, .isub, 1), (22, .istore 6, 2), (24, .iload 6, 2), (26, .ifCond .lt 10, 3), (29, .iload 6, 2), (31, .bipush 9, 2), (33, .if_icmp .le 7, 3), (36, .ldc2_w 35, 3)] [.null, .null, .long (-1 : Int64)] (P := (¬ (cc - (48 : Int32)) < (0 : Int32)) ∧ ((9 : Int32) < (cc - (48 : Int32))) ∧ ((Jvm.Cond.constantLong "com/example/headers_to_descriptors/headerstodescriptors/Numerals" 35 (-1 : Int64)).before a0 Z = true) ∧ True) (by decide +kernel) rfl ⟨(i_nlt (by rw [hsb]; show (0 : Int) ≤ _; omega)), (i_lt (by rw [hsb]; show (9 : Int) < _; omega)), (tw hw 128 rfl), trivial⟩
          refine ⟨T2, _, N2, g1.trans (g2.trans g3), ?_⟩
          rw [digJ, if_neg (fun z => q2 z.2)]; exact finJ K N2 hret (by decide +kernel)
      · have g3 : Ld p e below T2 (mkF m 19 #[.val (.ref a), .val (.int sS), .val (.int (Int32.ofNat e')), .val (.long (Int64.ofInt NN)), .second, .val (.int (Int32.ofNat i)), .unset] [(.int cc)]) T2 (mkF m 39 #[.val (.ref a), .val (.int sS), .val (.int (Int32.ofNat e')), .val (.long (Int64.ofInt NN)), .second, .val (.int (Int32.ofNat i)), .val (.int (cc - (48 : Int32)))] [(.long (-1 : Int64))]) := goRun K N2 a0 [(19, .bipush 48, 2), (21, .isub, 1), (22, .istore 6, 2), (24, .iload 6, 2), (26, .ifCond .lt 10, 3), (36, .ldc2_w 35, 3)] [.ref 0, .long (-1 : Int64)] (P := ((cc - (48 : Int32)) < (0 : Int32)) ∧ ((Jvm.Cond.constantLong "com/example/headers_to_descriptors/headerstodescriptors/Numerals" 35 (-1 : Int64)).before a0 Z = true) ∧ True) (by decide +kernel) rfl ⟨(i_lt (by rw [hsb]; show _ < (0 : Int); omega)), (tw hw 128 rfl), trivial⟩
        refine ⟨T2, _, N2, g1.trans (g2.trans g3), ?_⟩
        rw [digJ, if_neg (fun z => q1 z.1)]; exact finJ K N2 hret (by decide +kernel)
    · have g1 : Ld p e below T (mkF m 5 #[.val (.ref a), .val (.int sS), .val (.int (Int32.ofNat e')), .val (.long (Int64.ofInt NN)), .second, .val (.int (Int32.ofNat i)), .val (.int i6)] []) T (mkF m 14 #[.val (.ref a), .val (.int sS), .val (.int (Int32.ofNat e')), .val (.long (Int64.ofInt NN)), .second, .val (.int (Int32.ofNat i)), .val (.int i6)] [(.int (Int32.ofNat i)), (.ref a)]) := goRun K N #[] [(5, .iload 5, 2), (7, .iload_n 2, 1), (8, .if_icmp .ge 48, 3), (11, .aload_n 0, 1), (12, .iload 5, 2)] [.null] (P := ((Int32.ofNat i) < (Int32.ofNat e')) ∧ True) (by decide +kernel) rfl ⟨hlt, trivial⟩
      obtain ⟨v2, T2, _, N2, ⟨rfl, rfl⟩, g2⟩ := goIf (count := 2) K N (a := a) F.1 (tw hw 71 rfl) (tw hw 72 rfl) (tw hw 73 rfl) (tw hw 74 rfl) (tw hw 75 rfl) (tw hw 76 rfl) (tw hw 77 rfl) (tw hw 78 rfl) (tw hw 40 rfl) (tw hw 79 rfl) (con_ca hw sf F hc (N.old O0)) (argsL := [(.int (Int32.ofNat i))]) (W := 0) (rest := []) (by decide) (Nat.le_trans (by decide) hRf) (Nat.le_trans (by decide) hRl) (by simpa using hRc) (by simpa using hRs) (L := #[.val (.ref a), .val (.int sS), .val (.int (Int32.ofNat e')), .val (.long (Int64.ofInt NN)), .second, .val (.int (Int32.ofNat i)), .val (.int i6)]) rfl pd4 rfl (Nat.le_of_eq rfl) (pc := 14) (by decide +kernel)
      by_cases q1 : 48 ≤ cc.toInt
      · by_cases q2 : cc.toInt ≤ 57
        · have g3 : Ld p e below T2 (mkF m 19 #[.val (.ref a), .val (.int sS), .val (.int (Int32.ofNat e')), .val (.long (Int64.ofInt NN)), .second, .val (.int (Int32.ofNat i)), .val (.int i6)] [(.int cc)]) T2 (mkF m 5 #[.val (.ref a), .val (.int sS), .val (.int (Int32.ofNat e')), .val (.long (((10 : Int64) * (Int64.ofInt NN)) + ((cc - (48 : Int32)).toInt64))), .second, .val (.int ((Int32.ofNat i) + (1 : Int32))), .val (.int (cc - (48 : Int32)))] []) := goRun K N2 a0 [(19, .bipush 48, 2), (21, .isub, 1), (22, .istore 6, 2), (24, .iload 6, 2), (26, .ifCond .lt 10, 3), (29, .iload 6, 2), (31, .bipush 9, 2), (33, .if_icmp .le 7, 3), (40, .ldc2_w 68, 3), (43, .lload_n 3, 1), (44, .lmul, 1), (45, .iload 6, 2), (47, .i2l, 1), (48, .ladd, 1), (49, .lstore_n 3, 1), (50, .iinc 5 1, 3), (53, .goto (-48), 3)] [.null, .ref 0, .long (10 : Int64)] (P := (¬ (cc - (48 : Int32)) < (0 : Int32)) ∧ (¬ (9 : Int32) < (cc - (48 : Int32))) ∧ ((Jvm.Cond.constantLong "com/example/headers_to_descriptors/headerstodescriptors/Numerals" 68 (10 : Int64)).before a0 Z = true) ∧ True) (by decide +kernel) rfl ⟨(i_nlt (by rw [hsb]; show (0 : Int) ≤ _; omega)), (i_nlt (by rw [hsb]; show _ ≤ (9 : Int); omega)), (tw hw 97 rfl), trivial⟩
          rw [n_one, wv_step _ hch] at g3
          obtain ⟨T9, g', N9, g9, f9⟩ := ih (i + 1) (10 * NN + (cc.toInt - 48)) _ T2 (by omega) (Or.inr ⟨_, rfl⟩) N2
          refine ⟨T9, g', N9, g1.trans (g2.trans (g3.trans g9)), ?_⟩
          rw [digJ, if_pos ⟨q1, q2⟩]; exact f9
        · have g3 : Ld p e below T2 (mkF m 19 #[.val (.ref a), .val (.int sS), .val (.int (Int32.ofNat e')), .val (.long (Int64.ofInt NN)), .second, .val (.int (Int32.ofNat i)), .val (.int i6)] [(.int cc)]) T2 (mkF m 39 #[.val (.ref a), .val (.int sS), .val (.int (Int32.ofNat e')), .val (.long (Int64.ofInt NN)), .second, .val (.int (Int32.ofNat i)), .val (.int (cc - (48 : Int32)))] [(.long (-1 : Int64))]) := goRun K N2 a0 [(19, .bipush 48, 2), (21, .isub, 1), (22, .istore 6, 2), (24, .iload 6, 2), (26, .ifCond .lt 10, 3), (29, .iload 6, 2), (31, .bipush 9, 2), (33, .if_icmp .le 7, 3), (36, .ldc2_w 35, 3)] [.null, .null, .long (-1 : Int64)] (P := (¬ (cc - (48 : Int32)) < (0 : Int32)) ∧ ((9 : Int32) < (cc - (48 : Int32))) ∧ ((Jvm.Cond.constantLong "com/example/headers_to_descriptors/headerstodescriptors/Numerals" 35 (-1 : Int64)).before a0 Z = true) ∧ True) (by decide +kernel) rfl ⟨(i_nlt (by rw [hsb]; show (0 : Int) ≤ _; omega)), (i_lt (by rw [hsb]; show (9 : Int) < _; omega)), (tw hw 128 rfl), trivial⟩
          refine ⟨T2, _, N2, g1.trans (g2.trans g3), ?_⟩
          rw [digJ, if_neg (fun z => q2 z.2)]; exact finJ K N2 hret (by decide +kernel)
      · have g3 : Ld p e below T2 (mkF m 19 #[.val (.ref a), .val (.int sS), .val (.int (Int32.ofNat e')), .val (.long (Int64.ofInt NN)), .second, .val (.int (Int32.ofNat i)), .val (.int i6)] [(.int cc)]) T2 (mkF m 39 #[.val (.ref a), .val (.int sS), .val (.int (Int32.ofNat e')), .val (.long (Int64.ofInt NN)), .second, .val (.int (Int32.ofNat i)), .val (.int (cc - (48 : Int32)))] [(.long (-1 : Int64))]) := goRun K N2 a0 [(19, .bipush 48, 2), (21, .isub, 1), (22, .istore 6, 2), (24, .iload 6, 2), (26, .ifCond .lt 10, 3), (36, .ldc2_w 35, 3)] [.ref 0, .long (-1 : Int64)] (P := ((cc - (48 : Int32)) < (0 : Int32)) ∧ ((Jvm.Cond.constantLong "com/example/headers_to_descriptors/headerstodescriptors/Numerals" 35 (-1 : Int64)).before a0 Z = true) ∧ True) (by decide +kernel) rfl ⟨(i_lt (by rw [hsb]; show _ < (0 : Int); omega)), (tw hw 128 rfl), trivial⟩
        refine ⟨T2, _, N2, g1.trans (g2.trans g3), ?_⟩
        rw [digJ, if_neg (fun z => q1 z.1)]; exact finJ K N2 hret (by decide +kernel)
set_option maxHeartbeats 1000000 in
theorem con_wv (hw : ∀ d ∈ tables_1, d.before a0 Z = true) {z : Int32} {fm : Value} (sf : SF Z z fm) {a t : Addr} {cs : List Int32} {s' e' : Nat} (F : Stv Z h a t cs) (he : e' ≤ cs.length) (hse : s' ≤ e') (O : Old Z n0 h) : Con l Z n0 ⟨"com/example/headers_to_descriptors/headerstodescriptors/Numerals", "wholeValue", "(Ljava/lang/CharSequence;II)J"⟩ prog_4_method_5_code 7 (some (.long)) [] ({ frames := 5, cells := 0, slots := 0, locals := 93 } : Room) #[.ref a, .int (Int32.ofNat s'), .int (Int32.ofNat e')] h (fun v h' => v = some (.long (Int64.ofInt (digJ 0 ((cs.drop s').take (e' - s'))))) ∧ h = h') := by
  refine Con.ofH (plainFor_of_name pn5) (L0 := #[.val (.ref a), .val (.int (Int32.ofNat s')), .val (.int (Int32.ofNat e')), .unset, .unset, .unset, .unset]) (fun m => by first | (simp [entryFrame, mkF, argsToLocals, Value.category]; done) | rfl) ?_
  intro p e s m below meth c T K hret hnm N hs
  have O0 : Old Z n0 s.heap := by rw [hs]; exact O
  have g1 : Ld p e below T (mkF m 0 #[.val (.ref a), .val (.int (Int32.ofNat s')), .val (.int (Int32.ofNat e')), .unset, .unset, .unset, .unset] []) T (mkF m 5 #[.val (.ref a), .val (.int (Int32.ofNat s')), .val (.int (Int32.ofNat e')), .val (.long (0 : Int64)), .second, .val (.int (Int32.ofNat s')), .unset] []) := goRun K N #[] [(0, .lconst 0, 1), (1, .lstore_n 3, 1), (2, .iload_n 1, 1), (3, .istore 5, 2)] [] (P := True) (by decide +kernel) rfl trivial
  obtain ⟨T9, g', N9, g9, f9⟩ := wv_loop hw sf K F he hret (by decide) (by decide) (by decide) (by decide) O0 (e' - s') s' 0 _ T (by omega) (Or.inl rfl) N
  exact ⟨_, T9, g', h, _, _, N9, by decide, by decide, fun q => (nomatch q), ⟨rfl, rfl⟩, g1.trans g9, f9⟩
set_option maxHeartbeats 4000000 in
theorem endp (hw : ∀ d ∈ tables_1, d.before a0 Z = true) {z : Int32} {fm : Value} (sf : SF Z z fm) (K : Cx Z "com/example/headers_to_descriptors/headerstodescriptors/NumeralsWholeValuePinLaw" code maxLocals p m c) (hret : meth.sig.returnType = ret) (O0 : Old Z n0 s.heap) (N : Nw Z n0 h p l e room_1 s m args below meth c T 21 398) (nn : Int64) (xx ss ee pp a8 a9 : Int32) {v s' e' t' : Nat} (hv : v < 1000000000000000000) (hse : s' ≤ e') (he : e' ≤ 18) (ht : t' < 18) {pl bad : Int32} {ca : Addr} {cs : List Int32} (C : Av Z h ca .char (cs.map Value.int)) (hl : cs.length = 18) (hok : ∀ c ∈ cs, Ch c) {r : Int} (hr : digJ 0 ((cs.drop s').take (e' - s')) = r) :
    Ends Z n0 p l e room_1 s m args below meth c T (mkF m 372 #[.val (.long nn), .second, .val (.int xx), .val (.int ss), .val (.int ee), .val (.int pp), .val (.long (Int64.ofNat v)), .second, .val (.int a8), .val (.int a9), .val (.int (Int32.ofNat s')), .val (.int (Int32.ofNat e')), .val (.int (Int32.ofNat t')), .val (.int pl), .val (.int bad), .val (.ref ca), .val (.long (Int64.ofInt r)), .second] []) := by
  obtain ⟨T1, h1, a1, ea1, N1, E1, X1, D1, g1⟩ := goNew K N (C := "java/lang/String") (tw hw 38 rfl) (tw hw 39 rfl) (tw hw 40 rfl) (pc := 372) (L := #[.val (.long nn), .second, .val (.int xx), .val (.int ss), .val (.int ee), .val (.int pp), .val (.long (Int64.ofNat v)), .second, .val (.int a8), .val (.int a9), .val (.int (Int32.ofNat s')), .val (.int (Int32.ofNat e')), .val (.int (Int32.ofNat t')), .val (.int pl), .val (.int bad), .val (.ref ca), .val (.long (Int64.ofInt r)), .second]) (S := []) (by decide +kernel) (by decide) (by decide)
  have ha1 : n0 ≤ a1 := ea1 ▸ N.size
  have V : Fld Z h1 a1 "java/lang/String" "value" "[B" .null := D1 (Or.inr (tw hw 66 rfl)) (ty := .array .byte) (by decide)
  have D : Fld Z h1 a1 "java/lang/String" "coder" "B" (.int 0) := D1 (Or.inr (tw hw 64 rfl)) (ty := .byte) (by decide)
  have g2 : Ld p e below T1 (mkF m 375 #[.val (.long nn), .second, .val (.int xx), .val (.int ss), .val (.int ee), .val (.int pp), .val (.long (Int64.ofNat v)), .second, .val (.int a8), .val (.int a9), .val (.int (Int32.ofNat s')), .val (.int (Int32.ofNat e')), .val (.int (Int32.ofNat t')), .val (.int pl), .val (.int bad), .val (.ref ca), .val (.long (Int64.ofInt r)), .second] [(.ref a1)]) T1 (mkF m 378 #[.val (.long nn), .second, .val (.int xx), .val (.int ss), .val (.int ee), .val (.int pp), .val (.long (Int64.ofNat v)), .second, .val (.int a8), .val (.int a9), .val (.int (Int32.ofNat s')), .val (.int (Int32.ofNat e')), .val (.int (Int32.ofNat t')), .val (.int pl), .val (.int bad), .val (.ref ca), .val (.long (Int64.ofInt r)), .second] [(.ref ca), (.ref a1), (.ref a1)]) := goRun K N1 #[] [(375, .dup, 1), (376, .aload 15, 2)] [] (P := True) (by decide +kernel) rfl trivial
  obtain ⟨v3, T3, h3, N3, ⟨rfl, KS, tS, htS, F⟩, g3⟩ := goSp K N1 (a := a1) (tw hw 41 rfl) (tw hw 42 rfl) (tw hw 40 rfl) (tw hw 43 rfl) (con_si hw sf X1 V D (C.ext E1) (by omega) (by omega) hok ha1 (N1.old O0)) rfl (by decide) (argsL := [(.ref ca)]) (W := 1) (rest := [(.ref a1)]) (by decide) (by decide) (by decide) (by decide) (L := #[.val (.long nn), .second, .val (.int xx), .val (.int ss), .val (.int ee), .val (.int pp), .val (.long (Int64.ofNat v)), .second, .val (.int a8), .val (.int a9), .val (.int (Int32.ofNat s')), .val (.int (Int32.ofNat e')), .val (.int (Int32.ofNat t')), .val (.int pl), .val (.int bad), .val (.ref ca), .val (.long (Int64.ofInt r)), .second]) rfl pd11 rfl (Nat.le_of_eq rfl) (pc := 378) (by decide +kernel)
  have g4 : Ld p e below T3 (mkF m 381 #[.val (.long nn), .second, .val (.int xx), .val (.int ss), .val (.int ee), .val (.int pp), .val (.long (Int64.ofNat v)), .second, .val (.int a8), .val (.int a9), .val (.int (Int32.ofNat s')), .val (.int (Int32.ofNat e')), .val (.int (Int32.ofNat t')), .val (.int pl), .val (.int bad), .val (.ref ca), .val (.long (Int64.ofInt r)), .second] [(.ref a1)]) T3 (mkF m 385 #[.val (.long nn), .second, .val (.int xx), .val (.int ss), .val (.int ee), .val (.int pp), .val (.long (Int64.ofNat v)), .second, .val (.int a8), .val (.int a9), .val (.int (Int32.ofNat s')), .val (.int (Int32.ofNat e')), .val (.int (Int32.ofNat t')), .val (.int pl), .val (.int bad), .val (.ref ca), .val (.long (Int64.ofInt r)), .second] [(.int (Int32.ofNat e')), (.int (Int32.ofNat s')), (.ref a1)]) := goRun K N3 #[] [(381, .iload 10, 2), (383, .iload 11, 2)] [] (P := True) (by decide +kernel) rfl trivial
  obtain ⟨v5, T5, _, N5, ⟨rfl, rfl⟩, g5⟩ := goS K N3 (tw hw 67 rfl) (tw hw 68 rfl) (tw hw 69 rfl) (tw hw 70 rfl) (con_wv hw sf F (by omega) hse (N3.old O0)) (argsL := [(.ref a1), (.int (Int32.ofNat s')), (.int (Int32.ofNat e'))]) (W := 0) (rest := []) (by decide) (by decide) (by decide) (by decide) (by decide) (L := #[.val (.long nn), .second, .val (.int xx), .val (.int ss), .val (.int ee), .val (.int pp), .val (.long (Int64.ofNat v)), .second, .val (.int a8), .val (.int a9), .val (.int (Int32.ofNat s')), .val (.int (Int32.ofNat e')), .val (.int (Int32.ofNat t')), .val (.int pl), .val (.int bad), .val (.ref ca), .val (.long (Int64.ofInt r)), .second]) rfl pd19 rfl (Nat.le_of_eq rfl) (pc := 385) (by decide +kernel)
  rw [hr] at g5
  have g6 : Ld p e below T5 (mkF m 388 #[.val (.long nn), .second, .val (.int xx), .val (.int ss), .val (.int ee), .val (.int pp), .val (.long (Int64.ofNat v)), .second, .val (.int a8), .val (.int a9), .val (.int (Int32.ofNat s')), .val (.int (Int32.ofNat e')), .val (.int (Int32.ofNat t')), .val (.int pl), .val (.int bad), .val (.ref ca), .val (.long (Int64.ofInt r)), .second] [(.long (Int64.ofInt r))]) T5 (mkF m 399 #[.val (.long nn), .second, .val (.int xx), .val (.int ss), .val (.int ee), .val (.int pp), .val (.long (Int64.ofNat v)), .second, .val (.int a8), .val (.int a9), .val (.int (Int32.ofNat s')), .val (.int (Int32.ofNat e')), .val (.int (Int32.ofNat t')), .val (.int pl), .val (.int bad), .val (.ref ca), .val (.long (Int64.ofInt r)), .second] [(.int (1 : Int32))]) := goRun K N5 #[] [(388, .lload 16, 2), (390, .lcmp, 1), (391, .ifCond .ne 7, 3), (394, .iconst 1, 1), (395, .goto 4, 3)] [.null] (P := ((XT.cmpL (Int64.ofInt r) (Int64.ofInt r)) = (0 : Int32)) ∧ True) (by decide +kernel) rfl ⟨(cmp_self _), trivial⟩
  exact ⟨T5, _, h3, _, _, N5, by decide, by decide, g1.trans (g2.trans (g3.trans (g4.trans (g5.trans g6)))), sb1 ▸ finN K N5 hret (Or.inl rfl) (by decide +kernel)⟩
set_option maxHeartbeats 4000000 in
theorem expp (hw : ∀ d ∈ tables_1, d.before a0 Z = true) {z : Int32} {fm : Value} (sf : SF Z z fm) (K : Cx Z "com/example/headers_to_descriptors/headerstodescriptors/NumeralsWholeValuePinLaw" code maxLocals p m c) (hret : meth.sig.returnType = ret) (O0 : Old Z n0 s.heap) (N : Nw Z n0 h p l e room_1 s m args below meth c T 19 360) (nn : Int64) (xx ss ee pp a8 a9 : Int32) {v s' e' t' : Nat} (hv : v < 1000000000000000000) (hse : s' ≤ e') (he : e' ≤ 18) (ht : t' < 18) {pl bad : Int32} {ca : Addr} {cs : List Int32} (C : Av Z h ca .char (cs.map Value.int)) (hl : cs.length = 18) (hok : ∀ c ∈ cs, Ch c) (hwin : ∀ j, s' ≤ j → j < e' → cs.getD j 0 = dgc v (17 - j)) :
    Ends Z n0 p l e room_1 s m args below meth c T (mkF m 350 #[.val (.long nn), .second, .val (.int xx), .val (.int ss), .val (.int ee), .val (.int pp), .val (.long (Int64.ofNat v)), .second, .val (.int a8), .val (.int a9), .val (.int (Int32.ofNat s')), .val (.int (Int32.ofNat e')), .val (.int (Int32.ofNat t')), .val (.int pl), .val (.int bad), .val (.ref ca), .unset, .unset] []) := by
  have g1 : Ld p e below T (mkF m 350 #[.val (.long nn), .second, .val (.int xx), .val (.int ss), .val (.int ee), .val (.int pp), .val (.long (Int64.ofNat v)), .second, .val (.int a8), .val (.int a9), .val (.int (Int32.ofNat s')), .val (.int (Int32.ofNat e')), .val (.int (Int32.ofNat t')), .val (.int pl), .val (.int bad), .val (.ref ca), .unset, .unset] []) T (mkF m 357 #[.val (.long nn), .second, .val (.int xx), .val (.int ss), .val (.int ee), .val (.int pp), .val (.long (Int64.ofNat v)), .second, .val (.int a8), .val (.int a9), .val (.int (Int32.ofNat s')), .val (.int (Int32.ofNat e')), .val (.int (Int32.ofNat t')), .val (.int pl), .val (.int bad), .val (.ref ca), .unset, .unset] [(.int ((18 : Int32) - (Int32.ofNat e'))), (.long (Int64.ofNat v))]) := goRun K N #[] [(350, .lload 6, 2), (352, .bipush 18, 2), (354, .iload 11, 2), (356, .isub, 1)] [] (P := True) (by decide +kernel) rfl trivial
  rw [show (18 : Int32) - Int32.ofNat e' = Int32.ofNat (18 - e') from n_subn (a := 18) he] at g1
  obtain ⟨v2, T2, h2, N2, ⟨rfl, KP1⟩, g2⟩ := goS K N (tw hw 17 rfl) (tw hw 18 rfl) (tw hw 14 rfl) (tw hw 19 rfl) (con_p10 hw (k := 18 - e') (by omega)) (argsL := [(.int (Int32.ofNat (18 - e')))]) (W := 2) (rest := [(.long (Int64.ofNat v))]) (by decide) (by decide) (by decide) (by decide) (by decide) (L := #[.val (.long nn), .second, .val (.int xx), .val (.int ss), .val (.int ee), .val (.int pp), .val (.long (Int64.ofNat v)), .second, .val (.int a8), .val (.int a9), .val (.int (Int32.ofNat s')), .val (.int (Int32.ofNat e')), .val (.int (Int32.ofNat t')), .val (.int pl), .val (.int bad), .val (.ref ca), .unset, .unset]) rfl pd18 rfl (Nat.le_of_eq rfl) (pc := 357) (by decide +kernel)
  have g3 : Ld p e below T2 (mkF m 360 #[.val (.long nn), .second, .val (.int xx), .val (.int ss), .val (.int ee), .val (.int pp), .val (.long (Int64.ofNat v)), .second, .val (.int a8), .val (.int a9), .val (.int (Int32.ofNat s')), .val (.int (Int32.ofNat e')), .val (.int (Int32.ofNat t')), .val (.int pl), .val (.int bad), .val (.ref ca), .unset, .unset] [(.long (Int64.ofNat (10 ^ (18 - e')))), (.long (Int64.ofNat v))]) T2 (mkF m 366 #[.val (.long nn), .second, .val (.int xx), .val (.int ss), .val (.int ee), .val (.int pp), .val (.long (Int64.ofNat v)), .second, .val (.int a8), .val (.int a9), .val (.int (Int32.ofNat s')), .val (.int (Int32.ofNat e')), .val (.int (Int32.ofNat t')), .val (.int pl), .val (.int bad), .val (.ref ca), .unset, .unset] [(.int ((Int32.ofNat e') - (Int32.ofNat s'))), (.long ((Int64.ofNat v) / (Int64.ofNat (10 ^ (18 - e')))))]) := goRun K N2 #[] [(360, .ldiv, 1), (361, .iload 11, 2), (363, .iload 10, 2), (365, .isub, 1)] [] (P := ((Int64.ofNat (10 ^ (18 - e'))) ≠ 0) ∧ True) (by decide +kernel) rfl ⟨(p10_ne (by omega)), trivial⟩
  rw [n_subn hse, j_div (by omega) (p10_lt (k := 18 - e') (by omega))] at g3
  obtain ⟨v4, T4, h4, N4, ⟨rfl, KP2⟩, g4⟩ := goS K N2 (tw hw 17 rfl) (tw hw 18 rfl) (tw hw 14 rfl) (tw hw 19 rfl) (con_p10 hw (k := e' - s') (by omega)) (argsL := [(.int (Int32.ofNat (e' - s')))]) (W := 2) (rest := [(.long (Int64.ofNat (v / 10 ^ (18 - e'))))]) (by decide) (by decide) (by decide) (by decide) (by decide) (L := #[.val (.long nn), .second, .val (.int xx), .val (.int ss), .val (.int ee), .val (.int pp), .val (.long (Int64.ofNat v)), .second, .val (.int a8), .val (.int a9), .val (.int (Int32.ofNat s')), .val (.int (Int32.ofNat e')), .val (.int (Int32.ofNat t')), .val (.int pl), .val (.int bad), .val (.ref ca), .unset, .unset]) rfl pd18 rfl (Nat.le_of_eq rfl) (pc := 366) (by decide +kernel)
  have g5 : Ld p e below T4 (mkF m 369 #[.val (.long nn), .second, .val (.int xx), .val (.int ss), .val (.int ee), .val (.int pp), .val (.long (Int64.ofNat v)), .second, .val (.int a8), .val (.int a9), .val (.int (Int32.ofNat s')), .val (.int (Int32.ofNat e')), .val (.int (Int32.ofNat t')), .val (.int pl), .val (.int bad), .val (.ref ca), .unset, .unset] [(.long (Int64.ofNat (10 ^ (e' - s')))), (.long (Int64.ofNat (v / 10 ^ (18 - e'))))]) T4 (mkF m 372 #[.val (.long nn), .second, .val (.int xx), .val (.int ss), .val (.int ee), .val (.int pp), .val (.long (Int64.ofNat v)), .second, .val (.int a8), .val (.int a9), .val (.int (Int32.ofNat s')), .val (.int (Int32.ofNat e')), .val (.int (Int32.ofNat t')), .val (.int pl), .val (.int bad), .val (.ref ca), .val (.long ((Int64.ofNat (v / 10 ^ (18 - e'))) % (Int64.ofNat (10 ^ (e' - s'))))), .second] []) := goRun K N4 #[] [(369, .lrem, 1), (370, .lstore 16, 2)] [] (P := ((Int64.ofNat (10 ^ (e' - s'))) ≠ 0) ∧ True) (by decide +kernel) rfl ⟨(p10_ne (by omega)), trivial⟩
  rw [j_rem (Nat.lt_of_le_of_lt (Nat.div_le_self ..) (by omega)) (p10_lt (k := e' - s') (by omega))] at g5
  have hw1 := digJ_win (cs := cs) (v := v) hl (e' - s') s' 0 (by omega) (fun j a b => hwin j a (by omega))
  rw [show s' + (e' - s') = e' by omega, Nat.zero_mul, Nat.zero_add] at hw1
  exact Ends.pre (g1.trans (g2.trans (g3.trans (g4.trans g5)))) (endp hw sf K hret O0 N4 nn xx ss ee pp a8 a9 hv hse he ht ((C.keep KP1 nin0).keep KP2 nin0) hl hok hw1)
set_option maxHeartbeats 4000000 in
theorem plantp (hw : ∀ d ∈ tables_1, d.before a0 Z = true) {z : Int32} {fm : Value} (sf : SF Z z fm) (K : Cx Z "com/example/headers_to_descriptors/headerstodescriptors/NumeralsWholeValuePinLaw" code maxLocals p m c) (hret : meth.sig.returnType = ret) (O0 : Old Z n0 s.heap) (N : Nw Z n0 h p l e room_1 s m args below meth c T 19 360) (nn : Int64) (xx ss ee pp a8 a9 : Int32) {v s' e' t' : Nat} (hv : v < 1000000000000000000) (hse : s' ≤ e') (he : e' ≤ 18) (ht : t' < 18) {pl bad : Int32} (hpl : pl = 0 ∨ pl = 1) (hbd : Ch bad) (hbn : ¬ (48 ≤ bad.toInt ∧ bad.toInt ≤ 57)) {ca : Addr} {cs : List Int32} (C : Av Z h ca .char (cs.map Value.int)) (hl : cs.length = 18) (hok : ∀ c ∈ cs, Ch c) (hd : ∀ i, i < 18 → cs.getD i 0 = dgc v (17 - i)) (ha : n0 ≤ ca) :
    Ends Z n0 p l e room_1 s m args below meth c T (mkF m 313 #[.val (.long nn), .second, .val (.int xx), .val (.int ss), .val (.int ee), .val (.int pp), .val (.long (Int64.ofNat v)), .second, .val (.int a8), .val (.int a9), .val (.int (Int32.ofNat s')), .val (.int (Int32.ofNat e')), .val (.int (Int32.ofNat t')), .val (.int pl), .val (.int bad), .val (.ref ca), .unset, .unset] []) := by
  rcases hpl with rfl | rfl
  · have g1 : Ld p e below T (mkF m 313 #[.val (.long nn), .second, .val (.int xx), .val (.int ss), .val (.int ee), .val (.int pp), .val (.long (Int64.ofNat v)), .second, .val (.int a8), .val (.int a9), .val (.int (Int32.ofNat s')), .val (.int (Int32.ofNat e')), .val (.int (Int32.ofNat t')), .val (.int (0 : Int32)), .val (.int bad), .val (.ref ca), .unset, .unset] []) T (mkF m 350 #[.val (.long nn), .second, .val (.int xx), .val (.int ss), .val (.int ee), .val (.int pp), .val (.long (Int64.ofNat v)), .second, .val (.int a8), .val (.int a9), .val (.int (Int32.ofNat s')), .val (.int (Int32.ofNat e')), .val (.int (Int32.ofNat t')), .val (.int (0 : Int32)), .val (.int bad), .val (.ref ca), .unset, .unset] []) := goRun K N #[] [(313, .iload 13, 2), (315, .ifCond .eq 10, 3), (325, .iload 13, 2), (327, .ifCond .eq 23, 3)] [.ref 0, .ref 0] (P := ((0 : Int32) = (0 : Int32)) ∧ ((0 : Int32) = (0 : Int32)) ∧ True) (by decide +kernel) rfl ⟨rfl, rfl, trivial⟩
    exact Ends.pre (g1) (expp hw sf K hret O0 N nn xx ss ee pp a8 a9 hv hse he ht C hl hok (fun j _ b => hd j (by omega)))
  · have g1 : Ld p e below T (mkF m 313 #[.val (.long nn), .second, .val (.int xx), .val (.int ss), .val (.int ee), .val (.int pp), .val (.long (Int64.ofNat v)), .second, .val (.int a8), .val (.int a9), .val (.int (Int32.ofNat s')), .val (.int (Int32.ofNat e')), .val (.int (Int32.ofNat t')), .val (.int (1 : Int32)), .val (.int bad), .val (.ref ca), .unset, .unset] []) T (mkF m 324 #[.val (.long nn), .second, .val (.int xx), .val (.int ss), .val (.int ee), .val (.int pp), .val (.long (Int64.ofNat v)), .second, .val (.int a8), .val (.int a9), .val (.int (Int32.ofNat s')), .val (.int (Int32.ofNat e')), .val (.int (Int32.ofNat t')), .val (.int (1 : Int32)), .val (.int bad), .val (.ref ca), .unset, .unset] [(.int bad), (.int (Int32.ofNat t')), (.ref ca)]) := goRun K N #[] [(313, .iload 13, 2), (315, .ifCond .eq 10, 3), (318, .aload 15, 2), (320, .iload 12, 2), (322, .iload 14, 2)] [.null] (P := (¬ (1 : Int32) = (0 : Int32)) ∧ True) (by decide +kernel) rfl ⟨(by decide), trivial⟩
    obtain ⟨T2, h2, N2, K2, A2, g2⟩ := avStC K N C (j := Int32.ofNat t') (i := t') (x := bad) (n_ti (by omega)) (by rw [List.length_map]; omega) ha (pc := 324) (L := #[.val (.long nn), .second, .val (.int xx), .val (.int ss), .val (.int ee), .val (.int pp), .val (.long (Int64.ofNat v)), .second, .val (.int a8), .val (.int a9), .val (.int (Int32.ofNat s')), .val (.int (Int32.ofNat e')), .val (.int (Int32.ofNat t')), .val (.int (1 : Int32)), .val (.int bad), .val (.ref ca), .unset, .unset]) (S := []) (by decide +kernel)
    have C2 : Av Z h2 ca .char ((cs.set t' bad).map Value.int) := by rw [nar_ch hbd] at A2; rw [List.map_set]; exact A2
    have hl2 : (cs.set t' bad).length = 18 := by rw [List.length_set]; exact hl
    have hok2 := ok_set (k := t') hok hbd
    by_cases q1 : s' ≤ t'
    · by_cases q2 : t' < e'
      · have g3 : Ld p e below T2 (mkF m 325 #[.val (.long nn), .second, .val (.int xx), .val (.int ss), .val (.int ee), .val (.int pp), .val (.long (Int64.ofNat v)), .second, .val (.int a8), .val (.int a9), .val (.int (Int32.ofNat s')), .val (.int (Int32.ofNat e')), .val (.int (Int32.ofNat t')), .val (.int (1 : Int32)), .val (.int bad), .val (.ref ca), .unset, .unset] []) T2 (mkF m 372 #[.val (.long nn), .second, .val (.int xx), .val (.int ss), .val (.int ee), .val (.int pp), .val (.long (Int64.ofNat v)), .second, .val (.int a8), .val (.int a9), .val (.int (Int32.ofNat s')), .val (.int (Int32.ofNat e')), .val (.int (Int32.ofNat t')), .val (.int (1 : Int32)), .val (.int bad), .val (.ref ca), .val (.long (-1 : Int64)), .second] []) := goRun K N2 a0 [(325, .iload 13, 2), (327, .ifCond .eq 23, 3), (330, .iload 12, 2), (332, .iload 10, 2), (334, .if_icmp .lt 16, 3), (337, .iload 12, 2), (339, .iload 11, 2), (341, .if_icmp .ge 9, 3), (344, .ldc2_w 30, 3), (347, .goto 23, 3), (370, .lstore 16, 2)] [.null, .null, .null, .long (-1 : Int64)] (P := (¬ (1 : Int32) = (0 : Int32)) ∧ (¬ (Int32.ofNat t') < (Int32.ofNat s')) ∧ ((Int32.ofNat t') < (Int32.ofNat e')) ∧ ((Jvm.Cond.constantLong "com/example/headers_to_descriptors/headerstodescriptors/NumeralsWholeValuePinLaw" 30 (-1 : Int64)).before a0 Z = true) ∧ True) (by decide +kernel) rfl ⟨(by decide), (by rw [n_lt (by omega) (by omega)]; omega), ((n_lt (by omega) (by omega)).mpr q2), (tw hw 127 rfl), trivial⟩
        exact Ends.pre (g1.trans (g2.trans g3)) (endp hw sf K hret O0 (Nw.mono (cells' := 21) (slots' := 398) N2 (by decide) (by decide)) nn xx ss ee pp a8 a9 hv hse he ht C2 hl2 hok2 (digJ_bad _ _ ⟨bad, mem_win hl he q1 q2, hbn⟩))
      · have g3 : Ld p e below T2 (mkF m 325 #[.val (.long nn), .second, .val (.int xx), .val (.int ss), .val (.int ee), .val (.int pp), .val (.long (Int64.ofNat v)), .second, .val (.int a8), .val (.int a9), .val (.int (Int32.ofNat s')), .val (.int (Int32.ofNat e')), .val (.int (Int32.ofNat t')), .val (.int (1 : Int32)), .val (.int bad), .val (.ref ca), .unset, .unset] []) T2 (mkF m 350 #[.val (.long nn), .second, .val (.int xx), .val (.int ss), .val (.int ee), .val (.int pp), .val (.long (Int64.ofNat v)), .second, .val (.int a8), .val (.int a9), .val (.int (Int32.ofNat s')), .val (.int (Int32.ofNat e')), .val (.int (Int32.ofNat t')), .val (.int (1 : Int32)), .val (.int bad), .val (.ref ca), .unset, .unset] []) := goRun K N2 #[] [(325, .iload 13, 2), (327, .ifCond .eq 23, 3), (330, .iload 12, 2), (332, .iload 10, 2), (334, .if_icmp .lt 16, 3), (337, .iload 12, 2), (339, .iload 11, 2), (341, .if_icmp .ge 9, 3)] [.null, .null, .ref 0] (P := (¬ (1 : Int32) = (0 : Int32)) ∧ (¬ (Int32.ofNat t') < (Int32.ofNat s')) ∧ (¬ (Int32.ofNat t') < (Int32.ofNat e')) ∧ True) (by decide +kernel) rfl ⟨(by decide), (by rw [n_lt (by omega) (by omega)]; omega), (by rw [n_lt (by omega) (by omega)]; exact q2), trivial⟩
        exact Ends.pre (g1.trans (g2.trans g3)) (expp hw sf K hret O0 N2 nn xx ss ee pp a8 a9 hv hse he ht C2 hl2 hok2 (fun j _ b => by rw [getD_set_ne (by omega)]; exact hd j (by omega)))
    · have g3 : Ld p e below T2 (mkF m 325 #[.val (.long nn), .second, .val (.int xx), .val (.int ss), .val (.int ee), .val (.int pp), .val (.long (Int64.ofNat v)), .second, .val (.int a8), .val (.int a9), .val (.int (Int32.ofNat s')), .val (.int (Int32.ofNat e')), .val (.int (Int32.ofNat t')), .val (.int (1 : Int32)), .val (.int bad), .val (.ref ca), .unset, .unset] []) T2 (mkF m 350 #[.val (.long nn), .second, .val (.int xx), .val (.int ss), .val (.int ee), .val (.int pp), .val (.long (Int64.ofNat v)), .second, .val (.int a8), .val (.int a9), .val (.int (Int32.ofNat s')), .val (.int (Int32.ofNat e')), .val (.int (Int32.ofNat t')), .val (.int (1 : Int32)), .val (.int bad), .val (.ref ca), .unset, .unset] []) := goRun K N2 #[] [(325, .iload 13, 2), (327, .ifCond .eq 23, 3), (330, .iload 12, 2), (332, .iload 10, 2), (334, .if_icmp .lt 16, 3)] [.null, .ref 0] (P := (¬ (1 : Int32) = (0 : Int32)) ∧ ((Int32.ofNat t') < (Int32.ofNat s')) ∧ True) (by decide +kernel) rfl ⟨(by decide), ((n_lt (by omega) (by omega)).mpr (by omega)), trivial⟩
      exact Ends.pre (g1.trans (g2.trans g3)) (expp hw sf K hret O0 N2 nn xx ss ee pp a8 a9 hv hse he ht C2 hl2 hok2 (fun j b _ => by rw [getD_set_ne (by omega)]; exact hd j (by omega)))
set_option maxHeartbeats 4000000 in
theorem fill_17 (hw : ∀ d ∈ tables_1, d.before a0 Z = true) {z : Int32} {fm : Value} (sf : SF Z z fm) (K : Cx Z "com/example/headers_to_descriptors/headerstodescriptors/NumeralsWholeValuePinLaw" code maxLocals p m c) (hret : meth.sig.returnType = ret) (O0 : Old Z n0 s.heap) (N : Nw Z n0 h p l e room_1 s m args below meth c T 18 341) (nn : Int64) (xx ss ee pp a8 a9 : Int32) {v s' e' t' : Nat} (hv : v < 1000000000000000000) (hse : s' ≤ e') (he : e' ≤ 18) (ht : t' < 18) {pl bad : Int32} (hpl : pl = 0 ∨ pl = 1) (hbd : Ch bad) (hbn : ¬ (48 ≤ bad.toInt ∧ bad.toInt ≤ 57)) {ca : Addr} {cs : List Int32} (C : Av Z h ca .char (cs.map Value.int)) (hl : cs.length = 18) (hok : ∀ c ∈ cs, Ch c) (hd : ∀ i, i < 17 → cs.getD i 0 = dgc v (17 - i)) (ha : n0 ≤ ca) :
    Ends Z n0 p l e room_1 s m args below meth c T (mkF m 302 #[.val (.long nn), .second, .val (.int xx), .val (.int ss), .val (.int ee), .val (.int pp), .val (.long (Int64.ofNat v)), .second, .val (.int a8), .val (.int a9), .val (.int (Int32.ofNat s')), .val (.int (Int32.ofNat e')), .val (.int (Int32.ofNat t')), .val (.int pl), .val (.int bad), .val (.ref ca), .unset, .unset] []) := by
  have g1 : Ld p e below T (mkF m 302 #[.val (.long nn), .second, .val (.int xx), .val (.int ss), .val (.int ee), .val (.int pp), .val (.long (Int64.ofNat v)), .second, .val (.int a8), .val (.int a9), .val (.int (Int32.ofNat s')), .val (.int (Int32.ofNat e')), .val (.int (Int32.ofNat t')), .val (.int pl), .val (.int bad), .val (.ref ca), .unset, .unset] []) T (mkF m 309 #[.val (.long nn), .second, .val (.int xx), .val (.int ss), .val (.int ee), .val (.int pp), .val (.long (Int64.ofNat v)), .second, .val (.int a8), .val (.int a9), .val (.int (Int32.ofNat s')), .val (.int (Int32.ofNat e')), .val (.int (Int32.ofNat t')), .val (.int pl), .val (.int bad), .val (.ref ca), .unset, .unset] [(.int (0 : Int32)), (.long (Int64.ofNat v)), (.int (17 : Int32)), (.ref ca)]) := goRun K N #[] [(302, .aload 15, 2), (304, .bipush 17, 2), (306, .lload 6, 2), (308, .iconst 0, 1)] [] (P := True) (by decide +kernel) rfl trivial
  obtain ⟨v2, T2, h2, N2, ⟨rfl, KD⟩, g2⟩ := goS K N (tw hw 12 rfl) (tw hw 13 rfl) (tw hw 14 rfl) (tw hw 15 rfl) (con_dgt hw (v := v) (k := 0) hv (by decide)) (argsL := [(.long (Int64.ofNat v)), (.int (0 : Int32))]) (W := 2) (rest := [(.int (17 : Int32)), (.ref ca)]) (by decide) (by decide) (by decide) (by decide) (by decide) (L := #[.val (.long nn), .second, .val (.int xx), .val (.int ss), .val (.int ee), .val (.int pp), .val (.long (Int64.ofNat v)), .second, .val (.int a8), .val (.int a9), .val (.int (Int32.ofNat s')), .val (.int (Int32.ofNat e')), .val (.int (Int32.ofNat t')), .val (.int pl), .val (.int bad), .val (.ref ca), .unset, .unset]) rfl pd17 rfl (Nat.le_of_eq rfl) (pc := 309) (by decide +kernel)
  obtain ⟨T3, h3, N3, K3, A3, g3⟩ := avStC K N2 (C.keep KD nin0) (j := (17 : Int32)) (i := 17) (x := dgc v (17 - 17)) rfl (by rw [List.length_map]; omega) ha (pc := 312) (L := #[.val (.long nn), .second, .val (.int xx), .val (.int ss), .val (.int ee), .val (.int pp), .val (.long (Int64.ofNat v)), .second, .val (.int a8), .val (.int a9), .val (.int (Int32.ofNat s')), .val (.int (Int32.ofNat e')), .val (.int (Int32.ofNat t')), .val (.int pl), .val (.int bad), .val (.ref ca), .unset, .unset]) (S := []) (by decide +kernel)
  have C2 : Av Z h3 ca .char ((cs.set 17 (dgc v (17 - 17))).map Value.int) := by rw [nar_ch (dgc_ch _ _)] at A3; rw [List.map_set]; exact A3
  exact Ends.pre (g1.trans (g2.trans g3)) (plantp hw sf K hret O0 N3 nn xx ss ee pp a8 a9 hv hse he ht hpl hbd hbn C2 (by rw [List.length_set]; exact hl) (ok_set hok (dgc_ch _ _)) (hd_set (f := fun i => dgc v (17 - i)) hd (by omega)) ha)
set_option maxHeartbeats 4000000 in
theorem fill_16 (hw : ∀ d ∈ tables_1, d.before a0 Z = true) {z : Int32} {fm : Value} (sf : SF Z z fm) (K : Cx Z "com/example/headers_to_descriptors/headerstodescriptors/NumeralsWholeValuePinLaw" code maxLocals p m c) (hret : meth.sig.returnType = ret) (O0 : Old Z n0 s.heap) (N : Nw Z n0 h p l e room_1 s m args below meth c T 17 322) (nn : Int64) (xx ss ee pp a8 a9 : Int32) {v s' e' t' : Nat} (hv : v < 1000000000000000000) (hse : s' ≤ e') (he : e' ≤ 18) (ht : t' < 18) {pl bad : Int32} (hpl : pl = 0 ∨ pl = 1) (hbd : Ch bad) (hbn : ¬ (48 ≤ bad.toInt ∧ bad.toInt ≤ 57)) {ca : Addr} {cs : List Int32} (C : Av Z h ca .char (cs.map Value.int)) (hl : cs.length = 18) (hok : ∀ c ∈ cs, Ch c) (hd : ∀ i, i < 16 → cs.getD i 0 = dgc v (17 - i)) (ha : n0 ≤ ca) :
    Ends Z n0 p l e room_1 s m args below meth c T (mkF m 291 #[.val (.long nn), .second, .val (.int xx), .val (.int ss), .val (.int ee), .val (.int pp), .val (.long (Int64.ofNat v)), .second, .val (.int a8), .val (.int a9), .val (.int (Int32.ofNat s')), .val (.int (Int32.ofNat e')), .val (.int (Int32.ofNat t')), .val (.int pl), .val (.int bad), .val (.ref ca), .unset, .unset] []) := by
  have g1 : Ld p e below T (mkF m 291 #[.val (.long nn), .second, .val (.int xx), .val (.int ss), .val (.int ee), .val (.int pp), .val (.long (Int64.ofNat v)), .second, .val (.int a8), .val (.int a9), .val (.int (Int32.ofNat s')), .val (.int (Int32.ofNat e')), .val (.int (Int32.ofNat t')), .val (.int pl), .val (.int bad), .val (.ref ca), .unset, .unset] []) T (mkF m 298 #[.val (.long nn), .second, .val (.int xx), .val (.int ss), .val (.int ee), .val (.int pp), .val (.long (Int64.ofNat v)), .second, .val (.int a8), .val (.int a9), .val (.int (Int32.ofNat s')), .val (.int (Int32.ofNat e')), .val (.int (Int32.ofNat t')), .val (.int pl), .val (.int bad), .val (.ref ca), .unset, .unset] [(.int (1 : Int32)), (.long (Int64.ofNat v)), (.int (16 : Int32)), (.ref ca)]) := goRun K N #[] [(291, .aload 15, 2), (293, .bipush 16, 2), (295, .lload 6, 2), (297, .iconst 1, 1)] [] (P := True) (by decide +kernel) rfl trivial
  obtain ⟨v2, T2, h2, N2, ⟨rfl, KD⟩, g2⟩ := goS K N (tw hw 12 rfl) (tw hw 13 rfl) (tw hw 14 rfl) (tw hw 15 rfl) (con_dgt hw (v := v) (k := 1) hv (by decide)) (argsL := [(.long (Int64.ofNat v)), (.int (1 : Int32))]) (W := 2) (rest := [(.int (16 : Int32)), (.ref ca)]) (by decide) (by decide) (by decide) (by decide) (by decide) (L := #[.val (.long nn), .second, .val (.int xx), .val (.int ss), .val (.int ee), .val (.int pp), .val (.long (Int64.ofNat v)), .second, .val (.int a8), .val (.int a9), .val (.int (Int32.ofNat s')), .val (.int (Int32.ofNat e')), .val (.int (Int32.ofNat t')), .val (.int pl), .val (.int bad), .val (.ref ca), .unset, .unset]) rfl pd17 rfl (Nat.le_of_eq rfl) (pc := 298) (by decide +kernel)
  obtain ⟨T3, h3, N3, K3, A3, g3⟩ := avStC K N2 (C.keep KD nin0) (j := (16 : Int32)) (i := 16) (x := dgc v (17 - 16)) rfl (by rw [List.length_map]; omega) ha (pc := 301) (L := #[.val (.long nn), .second, .val (.int xx), .val (.int ss), .val (.int ee), .val (.int pp), .val (.long (Int64.ofNat v)), .second, .val (.int a8), .val (.int a9), .val (.int (Int32.ofNat s')), .val (.int (Int32.ofNat e')), .val (.int (Int32.ofNat t')), .val (.int pl), .val (.int bad), .val (.ref ca), .unset, .unset]) (S := []) (by decide +kernel)
  have C2 : Av Z h3 ca .char ((cs.set 16 (dgc v (17 - 16))).map Value.int) := by rw [nar_ch (dgc_ch _ _)] at A3; rw [List.map_set]; exact A3
  exact Ends.pre (g1.trans (g2.trans g3)) (fill_17 hw sf K hret O0 N3 nn xx ss ee pp a8 a9 hv hse he ht hpl hbd hbn C2 (by rw [List.length_set]; exact hl) (ok_set hok (dgc_ch _ _)) (hd_set (f := fun i => dgc v (17 - i)) hd (by omega)) ha)
set_option maxHeartbeats 4000000 in
theorem fill_15 (hw : ∀ d ∈ tables_1, d.before a0 Z = true) {z : Int32} {fm : Value} (sf : SF Z z fm) (K : Cx Z "com/example/headers_to_descriptors/headerstodescriptors/NumeralsWholeValuePinLaw" code maxLocals p m c) (hret : meth.sig.returnType = ret) (O0 : Old Z n0 s.heap) (N : Nw Z n0 h p l e room_1 s m args below meth c T 16 303) (nn : Int64) (xx ss ee pp a8 a9 : Int32) {v s' e' t' : Nat} (hv : v < 1000000000000000000) (hse : s' ≤ e') (he : e' ≤ 18) (ht : t' < 18) {pl bad : Int32} (hpl : pl = 0 ∨ pl = 1) (hbd : Ch bad) (hbn : ¬ (48 ≤ bad.toInt ∧ bad.toInt ≤ 57)) {ca : Addr} {cs : List Int32} (C : Av Z h ca .char (cs.map Value.int)) (hl : cs.length = 18) (hok : ∀ c ∈ cs, Ch c) (hd : ∀ i, i < 15 → cs.getD i 0 = dgc v (17 - i)) (ha : n0 ≤ ca) :
    Ends Z n0 p l e room_1 s m args below meth c T (mkF m 280 #[.val (.long nn), .second, .val (.int xx), .val (.int ss), .val (.int ee), .val (.int pp), .val (.long (Int64.ofNat v)), .second, .val (.int a8), .val (.int a9), .val (.int (Int32.ofNat s')), .val (.int (Int32.ofNat e')), .val (.int (Int32.ofNat t')), .val (.int pl), .val (.int bad), .val (.ref ca), .unset, .unset] []) := by
  have g1 : Ld p e below T (mkF m 280 #[.val (.long nn), .second, .val (.int xx), .val (.int ss), .val (.int ee), .val (.int pp), .val (.long (Int64.ofNat v)), .second, .val (.int a8), .val (.int a9), .val (.int (Int32.ofNat s')), .val (.int (Int32.ofNat e')), .val (.int (Int32.ofNat t')), .val (.int pl), .val (.int bad), .val (.ref ca), .unset, .unset] []) T (mkF m 287 #[.val (.long nn), .second, .val (.int xx), .val (.int ss), .val (.int ee), .val (.int pp), .val (.long (Int64.ofNat v)), .second, .val (.int a8), .val (.int a9), .val (.int (Int32.ofNat s')), .val (.int (Int32.ofNat e')), .val (.int (Int32.ofNat t')), .val (.int pl), .val (.int bad), .val (.ref ca), .unset, .unset] [(.int (2 : Int32)), (.long (Int64.ofNat v)), (.int (15 : Int32)), (.ref ca)]) := goRun K N #[] [(280, .aload 15, 2), (282, .bipush 15, 2), (284, .lload 6, 2), (286, .iconst 2, 1)] [] (P := True) (by decide +kernel) rfl trivial
  obtain ⟨v2, T2, h2, N2, ⟨rfl, KD⟩, g2⟩ := goS K N (tw hw 12 rfl) (tw hw 13 rfl) (tw hw 14 rfl) (tw hw 15 rfl) (con_dgt hw (v := v) (k := 2) hv (by decide)) (argsL := [(.long (Int64.ofNat v)), (.int (2 : Int32))]) (W := 2) (rest := [(.int (15 : Int32)), (.ref ca)]) (by decide) (by decide) (by decide) (by decide) (by decide) (L := #[.val (.long nn), .second, .val (.int xx), .val (.int ss), .val (.int ee), .val (.int pp), .val (.long (Int64.ofNat v)), .second, .val (.int a8), .val (.int a9), .val (.int (Int32.ofNat s')), .val (.int (Int32.ofNat e')), .val (.int (Int32.ofNat t')), .val (.int pl), .val (.int bad), .val (.ref ca), .unset, .unset]) rfl pd17 rfl (Nat.le_of_eq rfl) (pc := 287) (by decide +kernel)
  obtain ⟨T3, h3, N3, K3, A3, g3⟩ := avStC K N2 (C.keep KD nin0) (j := (15 : Int32)) (i := 15) (x := dgc v (17 - 15)) rfl (by rw [List.length_map]; omega) ha (pc := 290) (L := #[.val (.long nn), .second, .val (.int xx), .val (.int ss), .val (.int ee), .val (.int pp), .val (.long (Int64.ofNat v)), .second, .val (.int a8), .val (.int a9), .val (.int (Int32.ofNat s')), .val (.int (Int32.ofNat e')), .val (.int (Int32.ofNat t')), .val (.int pl), .val (.int bad), .val (.ref ca), .unset, .unset]) (S := []) (by decide +kernel)
  have C2 : Av Z h3 ca .char ((cs.set 15 (dgc v (17 - 15))).map Value.int) := by rw [nar_ch (dgc_ch _ _)] at A3; rw [List.map_set]; exact A3
  exact Ends.pre (g1.trans (g2.trans g3)) (fill_16 hw sf K hret O0 N3 nn xx ss ee pp a8 a9 hv hse he ht hpl hbd hbn C2 (by rw [List.length_set]; exact hl) (ok_set hok (dgc_ch _ _)) (hd_set (f := fun i => dgc v (17 - i)) hd (by omega)) ha)
set_option maxHeartbeats 4000000 in
theorem fill_14 (hw : ∀ d ∈ tables_1, d.before a0 Z = true) {z : Int32} {fm : Value} (sf : SF Z z fm) (K : Cx Z "com/example/headers_to_descriptors/headerstodescriptors/NumeralsWholeValuePinLaw" code maxLocals p m c) (hret : meth.sig.returnType = ret) (O0 : Old Z n0 s.heap) (N : Nw Z n0 h p l e room_1 s m args below meth c T 15 284) (nn : Int64) (xx ss ee pp a8 a9 : Int32) {v s' e' t' : Nat} (hv : v < 1000000000000000000) (hse : s' ≤ e') (he : e' ≤ 18) (ht : t' < 18) {pl bad : Int32} (hpl : pl = 0 ∨ pl = 1) (hbd : Ch bad) (hbn : ¬ (48 ≤ bad.toInt ∧ bad.toInt ≤ 57)) {ca : Addr} {cs : List Int32} (C : Av Z h ca .char (cs.map Value.int)) (hl : cs.length = 18) (hok : ∀ c ∈ cs, Ch c) (hd : ∀ i, i < 14 → cs.getD i 0 = dgc v (17 - i)) (ha : n0 ≤ ca) :
    Ends Z n0 p l e room_1 s m args below meth c T (mkF m 269 #[.val (.long nn), .second, .val (.int xx), .val (.int ss), .val (.int ee), .val (.int pp), .val (.long (Int64.ofNat v)), .second, .val (.int a8), .val (.int a9), .val (.int (Int32.ofNat s')), .val (.int (Int32.ofNat e')), .val (.int (Int32.ofNat t')), .val (.int pl), .val (.int bad), .val (.ref ca), .unset, .unset] []) := by
  have g1 : Ld p e below T (mkF m 269 #[.val (.long nn), .second, .val (.int xx), .val (.int ss), .val (.int ee), .val (.int pp), .val (.long (Int64.ofNat v)), .second, .val (.int a8), .val (.int a9), .val (.int (Int32.ofNat s')), .val (.int (Int32.ofNat e')), .val (.int (Int32.ofNat t')), .val (.int pl), .val (.int bad), .val (.ref ca), .unset, .unset] []) T (mkF m 276 #[.val (.long nn), .second, .val (.int xx), .val (.int ss), .val (.int ee), .val (.int pp), .val (.long (Int64.ofNat v)), .second, .val (.int a8), .val (.int a9), .val (.int (Int32.ofNat s')), .val (.int (Int32.ofNat e')), .val (.int (Int32.ofNat t')), .val (.int pl), .val (.int bad), .val (.ref ca), .unset, .unset] [(.int (3 : Int32)), (.long (Int64.ofNat v)), (.int (14 : Int32)), (.ref ca)]) := goRun K N #[] [(269, .aload 15, 2), (271, .bipush 14, 2), (273, .lload 6, 2), (275, .iconst 3, 1)] [] (P := True) (by decide +kernel) rfl trivial
  obtain ⟨v2, T2, h2, N2, ⟨rfl, KD⟩, g2⟩ := goS K N (tw hw 12 rfl) (tw hw 13 rfl) (tw hw 14 rfl) (tw hw 15 rfl) (con_dgt hw (v := v) (k := 3) hv (by decide)) (argsL := [(.long (Int64.ofNat v)), (.int (3 : Int32))]) (W := 2) (rest := [(.int (14 : Int32)), (.ref ca)]) (by decide) (by decide) (by decide) (by decide) (by decide) (L := #[.val (.long nn), .second, .val (.int xx), .val (.int ss), .val (.int ee), .val (.int pp), .val (.long (Int64.ofNat v)), .second, .val (.int a8), .val (.int a9), .val (.int (Int32.ofNat s')), .val (.int (Int32.ofNat e')), .val (.int (Int32.ofNat t')), .val (.int pl), .val (.int bad), .val (.ref ca), .unset, .unset]) rfl pd17 rfl (Nat.le_of_eq rfl) (pc := 276) (by decide +kernel)
  obtain ⟨T3, h3, N3, K3, A3, g3⟩ := avStC K N2 (C.keep KD nin0) (j := (14 : Int32)) (i := 14) (x := dgc v (17 - 14)) rfl (by rw [List.length_map]; omega) ha (pc := 279) (L := #[.val (.long nn), .second, .val (.int xx), .val (.int ss), .val (.int ee), .val (.int pp), .val (.long (Int64.ofNat v)), .second, .val (.int a8), .val (.int a9), .val (.int (Int32.ofNat s')), .val (.int (Int32.ofNat e')), .val (.int (Int32.ofNat t')), .val (.int pl), .val (.int bad), .val (.ref ca), .unset, .unset]) (S := []) (by decide +kernel)
  have C2 : Av Z h3 ca .char ((cs.set 14 (dgc v (17 - 14))).map Value.int) := by rw [nar_ch (dgc_ch _ _)] at A3; rw [List.map_set]; exact A3
  exact Ends.pre (g1.trans (g2.trans g3)) (fill_15 hw sf K hret O0 N3 nn xx ss ee pp a8 a9 hv hse he ht hpl hbd hbn C2 (by rw [List.length_set]; exact hl) (ok_set hok (dgc_ch _ _)) (hd_set (f := fun i => dgc v (17 - i)) hd (by omega)) ha)
set_option maxHeartbeats 4000000 in
theorem fill_13 (hw : ∀ d ∈ tables_1, d.before a0 Z = true) {z : Int32} {fm : Value} (sf : SF Z z fm) (K : Cx Z "com/example/headers_to_descriptors/headerstodescriptors/NumeralsWholeValuePinLaw" code maxLocals p m c) (hret : meth.sig.returnType = ret) (O0 : Old Z n0 s.heap) (N : Nw Z n0 h p l e room_1 s m args below meth c T 14 265) (nn : Int64) (xx ss ee pp a8 a9 : Int32) {v s' e' t' : Nat} (hv : v < 1000000000000000000) (hse : s' ≤ e') (he : e' ≤ 18) (ht : t' < 18) {pl bad : Int32} (hpl : pl = 0 ∨ pl = 1) (hbd : Ch bad) (hbn : ¬ (48 ≤ bad.toInt ∧ bad.toInt ≤ 57)) {ca : Addr} {cs : List Int32} (C : Av Z h ca .char (cs.map Value.int)) (hl : cs.length = 18) (hok : ∀ c ∈ cs, Ch c) (hd : ∀ i, i < 13 → cs.getD i 0 = dgc v (17 - i)) (ha : n0 ≤ ca) :
    Ends Z n0 p l e room_1 s m args below meth c T (mkF m 258 #[.val (.long nn), .second, .val (.int xx), .val (.int ss), .val (.int ee), .val (.int pp), .val (.long (Int64.ofNat v)), .second, .val (.int a8), .val (.int a9), .val (.int (Int32.ofNat s')), .val (.int (Int32.ofNat e')), .val (.int (Int32.ofNat t')), .val (.int pl), .val (.int bad), .val (.ref ca), .unset, .unset] []) := by
  have g1 : Ld p e below T (mkF m 258 #[.val (.long nn), .second, .val (.int xx), .val (.int ss), .val (.int ee), .val (.int pp), .val (.long (Int64.ofNat v)), .second, .val (.int a8), .val (.int a9), .val (.int (Int32.ofNat s')), .val (.int (Int32.ofNat e')), .val (.int (Int32.ofNat t')), .val (.int pl), .val (.int bad), .val (.ref ca), .unset, .unset] []) T (mkF m 265 #[.val (.long nn), .second, .val (.int xx), .val (.int ss), .val (.int ee), .val (.int pp), .val (.long (Int64.ofNat v)), .second, .val (.int a8), .val (.int a9), .val (.int (Int32.ofNat s')), .val (.int (Int32.ofNat e')), .val (.int (Int32.ofNat t')), .val (.int pl), .val (.int bad), .val (.ref ca), .unset, .unset] [(.int (4 : Int32)), (.long (Int64.ofNat v)), (.int (13 : Int32)), (.ref ca)]) := goRun K N #[] [(258, .aload 15, 2), (260, .bipush 13, 2), (262, .lload 6, 2), (264, .iconst 4, 1)] [] (P := True) (by decide +kernel) rfl trivial
  obtain ⟨v2, T2, h2, N2, ⟨rfl, KD⟩, g2⟩ := goS K N (tw hw 12 rfl) (tw hw 13 rfl) (tw hw 14 rfl) (tw hw 15 rfl) (con_dgt hw (v := v) (k := 4) hv (by decide)) (argsL := [(.long (Int64.ofNat v)), (.int (4 : Int32))]) (W := 2) (rest := [(.int (13 : Int32)), (.ref ca)]) (by decide) (by decide) (by decide) (by decide) (by decide) (L := #[.val (.long nn), .second, .val (.int xx), .val (.int ss), .val (.int ee), .val (.int pp), .val (.long (Int64.ofNat v)), .second, .val (.int a8), .val (.int a9), .val (.int (Int32.ofNat s')), .val (.int (Int32.ofNat e')), .val (.int (Int32.ofNat t')), .val (.int pl), .val (.int bad), .val (.ref ca), .unset, .unset]) rfl pd17 rfl (Nat.le_of_eq rfl) (pc := 265) (by decide +kernel)
  obtain ⟨T3, h3, N3, K3, A3, g3⟩ := avStC K N2 (C.keep KD nin0) (j := (13 : Int32)) (i := 13) (x := dgc v (17 - 13)) rfl (by rw [List.length_map]; omega) ha (pc := 268) (L := #[.val (.long nn), .second, .val (.int xx), .val (.int ss), .val (.int ee), .val (.int pp), .val (.long (Int64.ofNat v)), .second, .val (.int a8), .val (.int a9), .val (.int (Int32.ofNat s')), .val (.int (Int32.ofNat e')), .val (.int (Int32.ofNat t')), .val (.int pl), .val (.int bad), .val (.ref ca), .unset, .unset]) (S := []) (by decide +kernel)
  have C2 : Av Z h3 ca .char ((cs.set 13 (dgc v (17 - 13))).map Value.int) := by rw [nar_ch (dgc_ch _ _)] at A3; rw [List.map_set]; exact A3
  exact Ends.pre (g1.trans (g2.trans g3)) (fill_14 hw sf K hret O0 N3 nn xx ss ee pp a8 a9 hv hse he ht hpl hbd hbn C2 (by rw [List.length_set]; exact hl) (ok_set hok (dgc_ch _ _)) (hd_set (f := fun i => dgc v (17 - i)) hd (by omega)) ha)
set_option maxHeartbeats 4000000 in
theorem fill_12 (hw : ∀ d ∈ tables_1, d.before a0 Z = true) {z : Int32} {fm : Value} (sf : SF Z z fm) (K : Cx Z "com/example/headers_to_descriptors/headerstodescriptors/NumeralsWholeValuePinLaw" code maxLocals p m c) (hret : meth.sig.returnType = ret) (O0 : Old Z n0 s.heap) (N : Nw Z n0 h p l e room_1 s m args below meth c T 13 246) (nn : Int64) (xx ss ee pp a8 a9 : Int32) {v s' e' t' : Nat} (hv : v < 1000000000000000000) (hse : s' ≤ e') (he : e' ≤ 18) (ht : t' < 18) {pl bad : Int32} (hpl : pl = 0 ∨ pl = 1) (hbd : Ch bad) (hbn : ¬ (48 ≤ bad.toInt ∧ bad.toInt ≤ 57)) {ca : Addr} {cs : List Int32} (C : Av Z h ca .char (cs.map Value.int)) (hl : cs.length = 18) (hok : ∀ c ∈ cs, Ch c) (hd : ∀ i, i < 12 → cs.getD i 0 = dgc v (17 - i)) (ha : n0 ≤ ca) :
    Ends Z n0 p l e room_1 s m args below meth c T (mkF m 247 #[.val (.long nn), .second, .val (.int xx), .val (.int ss), .val (.int ee), .val (.int pp), .val (.long (Int64.ofNat v)), .second, .val (.int a8), .val (.int a9), .val (.int (Int32.ofNat s')), .val (.int (Int32.ofNat e')), .val (.int (Int32.ofNat t')), .val (.int pl), .val (.int bad), .val (.ref ca), .unset, .unset] []) := by
  have g1 : Ld p e below T (mkF m 247 #[.val (.long nn), .second, .val (.int xx), .val (.int ss), .val (.int ee), .val (.int pp), .val (.long (Int64.ofNat v)), .second, .val (.int a8), .val (.int a9), .val (.int (Int32.ofNat s')), .val (.int (Int32.ofNat e')), .val (.int (Int32.ofNat t')), .val (.int pl), .val (.int bad), .val (.ref ca), .unset, .unset] []) T (mkF m 254 #[.val (.long nn), .second, .val (.int xx), .val (.int ss), .val (.int ee), .val (.int pp), .val (.long (Int64.ofNat v)), .second, .val (.int a8), .val (.int a9), .val (.int (Int32.ofNat s')), .val (.int (Int32.ofNat e')), .val (.int (Int32.ofNat t')), .val (.int pl), .val (.int bad), .val (.ref ca), .unset, .unset] [(.int (5 : Int32)), (.long (Int64.ofNat v)), (.int (12 : Int32)), (.ref ca)]) := goRun K N #[] [(247, .aload 15, 2), (249, .bipush 12, 2), (251, .lload 6, 2), (253, .iconst 5, 1)] [] (P := True) (by decide +kernel) rfl trivial
  obtain ⟨v2, T2, h2, N2, ⟨rfl, KD⟩, g2⟩ := goS K N (tw hw 12 rfl) (tw hw 13 rfl) (tw hw 14 rfl) (tw hw 15 rfl) (con_dgt hw (v := v) (k := 5) hv (by decide)) (argsL := [(.long (Int64.ofNat v)), (.int (5 : Int32))]) (W := 2) (rest := [(.int (12 : Int32)), (.ref ca)]) (by decide) (by decide) (by decide) (by decide) (by decide) (L := #[.val (.long nn), .second, .val (.int xx), .val (.int ss), .val (.int ee), .val (.int pp), .val (.long (Int64.ofNat v)), .second, .val (.int a8), .val (.int a9), .val (.int (Int32.ofNat s')), .val (.int (Int32.ofNat e')), .val (.int (Int32.ofNat t')), .val (.int pl), .val (.int bad), .val (.ref ca), .unset, .unset]) rfl pd17 rfl (Nat.le_of_eq rfl) (pc := 254) (by decide +kernel)
  obtain ⟨T3, h3, N3, K3, A3, g3⟩ := avStC K N2 (C.keep KD nin0) (j := (12 : Int32)) (i := 12) (x := dgc v (17 - 12)) rfl (by rw [List.length_map]; omega) ha (pc := 257) (L := #[.val (.long nn), .second, .val (.int xx), .val (.int ss), .val (.int ee), .val (.int pp), .val (.long (Int64.ofNat v)), .second, .val (.int a8), .val (.int a9), .val (.int (Int32.ofNat s')), .val (.int (Int32.ofNat e')), .val (.int (Int32.ofNat t')), .val (.int pl), .val (.int bad), .val (.ref ca), .unset, .unset]) (S := []) (by decide +kernel)
  have C2 : Av Z h3 ca .char ((cs.set 12 (dgc v (17 - 12))).map Value.int) := by rw [nar_ch (dgc_ch _ _)] at A3; rw [List.map_set]; exact A3
  exact Ends.pre (g1.trans (g2.trans g3)) (fill_13 hw sf K hret O0 N3 nn xx ss ee pp a8 a9 hv hse he ht hpl hbd hbn C2 (by rw [List.length_set]; exact hl) (ok_set hok (dgc_ch _ _)) (hd_set (f := fun i => dgc v (17 - i)) hd (by omega)) ha)
set_option maxHeartbeats 4000000 in
theorem fill_11 (hw : ∀ d ∈ tables_1, d.before a0 Z = true) {z : Int32} {fm : Value} (sf : SF Z z fm) (K : Cx Z "com/example/headers_to_descriptors/headerstodescriptors/NumeralsWholeValuePinLaw" code maxLocals p m c) (hret : meth.sig.returnType = ret) (O0 : Old Z n0 s.heap) (N : Nw Z n0 h p l e room_1 s m args below meth c T 12 227) (nn : Int64) (xx ss ee pp a8 a9 : Int32) {v s' e' t' : Nat} (hv : v < 1000000000000000000) (hse : s' ≤ e') (he : e' ≤ 18) (ht : t' < 18) {pl bad : Int32} (hpl : pl = 0 ∨ pl = 1) (hbd : Ch bad) (hbn : ¬ (48 ≤ bad.toInt ∧ bad.toInt ≤ 57)) {ca : Addr} {cs : List Int32} (C : Av Z h ca .char (cs.map Value.int)) (hl : cs.length = 18) (hok : ∀ c ∈ cs, Ch c) (hd : ∀ i, i < 11 → cs.getD i 0 = dgc v (17 - i)) (ha : n0 ≤ ca) :
    Ends Z n0 p l e room_1 s m args below meth c T (mkF m 235 #[.val (.long nn), .second, .val (.int xx), .val (.int ss), .val (.int ee), .val (.int pp), .val (.long (Int64.ofNat v)), .second, .val (.int a8), .val (.int a9), .val (.int (Int32.ofNat s')), .val (.int (Int32.ofNat e')), .val (.int (Int32.ofNat t')), .val (.int pl), .val (.int bad), .val (.ref ca), .unset, .unset] []) := by
  have g1 : Ld p e below T (mkF m 235 #[.val (.long nn), .second, .val (.int xx), .val (.int ss), .val (.int ee), .val (.int pp), .val (.long (Int64.ofNat v)), .second, .val (.int a8), .val (.int a9), .val (.int (Int32.ofNat s')), .val (.int (Int32.ofNat e')), .val (.int (Int32.ofNat t')), .val (.int pl), .val (.int bad), .val (.ref ca), .unset, .unset] []) T (mkF m 243 #[.val (.long nn), .second, .val (.int xx), .val (.int ss), .val (.int ee), .val (.int pp), .val (.long (Int64.ofNat v)), .second, .val (.int a8), .val (.int a9), .val (.int (Int32.ofNat s')), .val (.int (Int32.ofNat e')), .val (.int (Int32.ofNat t')), .val (.int pl), .val (.int bad), .val (.ref ca), .unset, .unset] [(.int (6 : Int32)), (.long (Int64.ofNat v)), (.int (11 : Int32)), (.ref ca)]) := goRun K N #[] [(235, .aload 15, 2), (237, .bipush 11, 2), (239, .lload 6, 2), (241, .bipush 6, 2)] [] (P := True) (by decide +kernel) rfl trivial
  obtain ⟨v2, T2, h2, N2, ⟨rfl, KD⟩, g2⟩ := goS K N (tw hw 12 rfl) (tw hw 13 rfl) (tw hw 14 rfl) (tw hw 15 rfl) (con_dgt hw (v := v) (k := 6) hv (by decide)) (argsL := [(.long (Int64.ofNat v)), (.int (6 : Int32))]) (W := 2) (rest := [(.int (11 : Int32)), (.ref ca)]) (by decide) (by decide) (by decide) (by decide) (by decide) (L := #[.val (.long nn), .second, .val (.int xx), .val (.int ss), .val (.int ee), .val (.int pp), .val (.long (Int64.ofNat v)), .second, .val (.int a8), .val (.int a9), .val (.int (Int32.ofNat s')), .val (.int (Int32.ofNat e')), .val (.int (Int32.ofNat t')), .val (.int pl), .val (.int bad), .val (.ref ca), .unset, .unset]) rfl pd17 rfl (Nat.le_of_eq rfl) (pc := 243) (by decide +kernel)
  obtain ⟨T3, h3, N3, K3, A3, g3⟩ := avStC K N2 (C.keep KD nin0) (j := (11 : Int32)) (i := 11) (x := dgc v (17 - 11)) rfl (by rw [List.length_map]; omega) ha (pc := 246) (L := #[.val (.long nn), .second, .val (.int xx), .val (.int ss), .val (.int ee), .val (.int pp), .val (.long (Int64.ofNat v)), .second, .val (.int a8), .val (.int a9), .val (.int (Int32.ofNat s')), .val (.int (Int32.ofNat e')), .val (.int (Int32.ofNat t')), .val (.int pl), .val (.int bad), .val (.ref ca), .unset, .unset]) (S := []) (by decide +kernel)
  have C2 : Av Z h3 ca .char ((cs.set 11 (dgc v (17 - 11))).map Value.int) := by rw [nar_ch (dgc_ch _ _)] at A3; rw [List.map_set]; exact A3
  exact Ends.pre (g1.trans (g2.trans g3)) (fill_12 hw sf K hret O0 N3 nn xx ss ee pp a8 a9 hv hse he ht hpl hbd hbn C2 (by rw [List.length_set]; exact hl) (ok_set hok (dgc_ch _ _)) (hd_set (f := fun i => dgc v (17 - i)) hd (by omega)) ha)
set_option maxHeartbeats 4000000 in
theorem fill_10 (hw : ∀ d ∈ tables_1, d.before a0 Z = true) {z : Int32} {fm : Value} (sf : SF Z z fm) (K : Cx Z "com/example/headers_to_descriptors/headerstodescriptors/NumeralsWholeValuePinLaw" code maxLocals p m c) (hret : meth.sig.returnType = ret) (O0 : Old Z n0 s.heap) (N : Nw Z n0 h p l e room_1 s m args below meth c T 11 208) (nn : Int64) (xx ss ee pp a8 a9 : Int32) {v s' e' t' : Nat} (hv : v < 1000000000000000000) (hse : s' ≤ e') (he : e' ≤ 18) (ht : t' < 18) {pl bad : Int32} (hpl : pl = 0 ∨ pl = 1) (hbd : Ch bad) (hbn : ¬ (48 ≤ bad.toInt ∧ bad.toInt ≤ 57)) {ca : Addr} {cs : List Int32} (C : Av Z h ca .char (cs.map Value.int)) (hl : cs.length = 18) (hok : ∀ c ∈ cs, Ch c) (hd : ∀ i, i < 10 → cs.getD i 0 = dgc v (17 - i)) (ha : n0 ≤ ca) :
    Ends Z n0 p l e room_1 s m args below meth c T (mkF m 223 #[.val (.long nn), .second, .val (.int xx), .val (.int ss), .val (.int ee), .val (.int pp), .val (.long (Int64.ofNat v)), .second, .val (.int a8), .val (.int a9), .val (.int (Int32.ofNat s')), .val (.int (Int32.ofNat e')), .val (.int (Int32.ofNat t')), .val (.int pl), .val (.int bad), .val (.ref ca), .unset, .unset] []) := by
  have g1 : Ld p e below T (mkF m 223 #[.val (.long nn), .second, .val (.int xx), .val (.int ss), .val (.int ee), .val (.int pp), .val (.long (Int64.ofNat v)), .second, .val (.int a8), .val (.int a9), .val (.int (Int32.ofNat s')), .val (.int (Int32.ofNat e')), .val (.int (Int32.ofNat t')), .val (.int pl), .val (.int bad), .val (.ref ca), .unset, .unset] []) T (mkF m 231 #[.val (.long nn), .second, .val (.int xx), .val (.int ss), .val (.int ee), .val (.int pp), .val (.long (Int64.ofNat v)), .second, .val (.int a8), .val (.int a9), .val (.int (Int32.ofNat s')), .val (.int (Int32.ofNat e')), .val (.int (Int32.ofNat t')), .val (.int pl), .val (.int bad), .val (.ref ca), .unset, .unset] [(.int (7 : Int32)), (.long (Int64.ofNat v)), (.int (10 : Int32)), (.ref ca)]) := goRun K N #[] [(223, .aload 15, 2), (225, .bipush 10, 2), (227, .lload 6, 2), (229, .bipush 7, 2)] [] (P := True) (by decide +kernel) rfl trivial
  obtain ⟨v2, T2, h2, N2, ⟨rfl, KD⟩, g2⟩ := goS K N (tw hw 12 rfl) (tw hw 13 rfl) (tw hw 14 rfl) (tw hw 15 rfl) (con_dgt hw (v := v) (k := 7) hv (by decide)) (argsL := [(.long (Int64.ofNat v)), (.int (7 : Int32))]) (W := 2) (rest := [(.int (10 : Int32)), (.ref ca)]) (by decide) (by decide) (by decide) (by decide) (by decide) (L := #[.val (.long nn), .second, .val (.int xx), .val (.int ss), .val (.int ee), .val (.int pp), .val (.long (Int64.ofNat v)), .second, .val (.int a8), .val (.int a9), .val (.int (Int32.ofNat s')), .val (.int (Int32.ofNat e')), .val (.int (Int32.ofNat t')), .val (.int pl), .val (.int bad), .val (.ref ca), .unset, .unset]) rfl pd17 rfl (Nat.le_of_eq rfl) (pc := 231) (by decide +kernel)
  obtain ⟨T3, h3, N3, K3, A3, g3⟩ := avStC K N2 (C.keep KD nin0) (j := (10 : Int32)) (i := 10) (x := dgc v (17 - 10)) rfl (by rw [List.length_map]; omega) ha (pc := 234) (L := #[.val (.long nn), .second, .val (.int xx), .val (.int ss), .val (.int ee), .val (.int pp), .val (.long (Int64.ofNat v)), .second, .val (.int a8), .val (.int a9), .val (.int (Int32.ofNat s')), .val (.int (Int32.ofNat e')), .val (.int (Int32.ofNat t')), .val (.int pl), .val (.int bad), .val (.ref ca), .unset, .unset]) (S := []) (by decide +kernel)
  have C2 : Av Z h3 ca .char ((cs.set 10 (dgc v (17 - 10))).map Value.int) := by rw [nar_ch (dgc_ch _ _)] at A3; rw [List.map_set]; exact A3
  exact Ends.pre (g1.trans (g2.trans g3)) (fill_11 hw sf K hret O0 N3 nn xx ss ee pp a8 a9 hv hse he ht hpl hbd hbn C2 (by rw [List.length_set]; exact hl) (ok_set hok (dgc_ch _ _)) (hd_set (f := fun i => dgc v (17 - i)) hd (by omega)) ha)
set_option maxHeartbeats 4000000 in
theorem fill_9 (hw : ∀ d ∈ tables_1, d.before a0 Z = true) {z : Int32} {fm : Value} (sf : SF Z z fm) (K : Cx Z "com/example/headers_to_descriptors/headerstodescriptors/NumeralsWholeValuePinLaw" code maxLocals p m c) (hret : meth.sig.returnType = ret) (O0 : Old Z n0 s.heap) (N : Nw Z n0 h p l e room_1 s m args below meth c T 10 189) (nn : Int64) (xx ss ee pp a8 a9 : Int32) {v s' e' t' : Nat} (hv : v < 1000000000000000000) (hse : s' ≤ e') (he : e' ≤ 18) (ht : t' < 18) {pl bad : Int32} (hpl : pl = 0 ∨ pl = 1) (hbd : Ch bad) (hbn : ¬ (48 ≤ bad.toInt ∧ bad.toInt ≤ 57)) {ca : Addr} {cs : List Int32} (C : Av Z h ca .char (cs.map Value.int)) (hl : cs.length = 18) (hok : ∀ c ∈ cs, Ch c) (hd : ∀ i, i < 9 → cs.getD i 0 = dgc v (17 - i)) (ha : n0 ≤ ca) :
    Ends Z n0 p l e room_1 s m args below meth c T (mkF m 211 #[.val (.long nn), .second, .val (.int xx), .val (.int ss), .val (.int ee), .val (.int pp), .val (.long (Int64.ofNat v)), .second, .val (.int a8), .val (.int a9), .val (.int (Int32.ofNat s')), .val (.int (Int32.ofNat e')), .val (.int (Int32.ofNat t')), .val (.int pl), .val (.int bad), .val (.ref ca), .unset, .unset] []) := by
  have g1 : Ld p e below T (mkF m 211 #[.val (.long nn), .second, .val (.int xx), .val (.int ss), .val (.int ee), .val (.int pp), .val (.long (Int64.ofNat v)), .second, .val (.int a8), .val (.int a9), .val (.int (Int32.ofNat s')), .val (.int (Int32.ofNat e')), .val (.int (Int32.ofNat t')), .val (.int pl), .val (.int bad), .val (.ref ca), .unset, .unset] []) T (mkF m 219 #[.val (.long nn), .second, .val (.int xx), .val (.int ss), .val (.int ee), .val (.int pp), .val (.long (Int64.ofNat v)), .second, .val (.int a8), .val (.int a9), .val (.int (Int32.ofNat s')), .val (.int (Int32.ofNat e')), .val (.int (Int32.ofNat t')), .val (.int pl), .val (.int bad), .val (.ref ca), .unset, .unset] [(.int (8 : Int32)), (.long (Int64.ofNat v)), (.int (9 : Int32)), (.ref ca)]) := goRun K N #[] [(211, .aload 15, 2), (213, .bipush 9, 2), (215, .lload 6, 2), (217, .bipush 8, 2)] [] (P := True) (by decide +kernel) rfl trivial
  obtain ⟨v2, T2, h2, N2, ⟨rfl, KD⟩, g2⟩ := goS K N (tw hw 12 rfl) (tw hw 13 rfl) (tw hw 14 rfl) (tw hw 15 rfl) (con_dgt hw (v := v) (k := 8) hv (by decide)) (argsL := [(.long (Int64.ofNat v)), (.int (8 : Int32))]) (W := 2) (rest := [(.int (9 : Int32)), (.ref ca)]) (by decide) (by decide) (by decide) (by decide) (by decide) (L := #[.val (.long nn), .second, .val (.int xx), .val (.int ss), .val (.int ee), .val (.int pp), .val (.long (Int64.ofNat v)), .second, .val (.int a8), .val (.int a9), .val (.int (Int32.ofNat s')), .val (.int (Int32.ofNat e')), .val (.int (Int32.ofNat t')), .val (.int pl), .val (.int bad), .val (.ref ca), .unset, .unset]) rfl pd17 rfl (Nat.le_of_eq rfl) (pc := 219) (by decide +kernel)
  obtain ⟨T3, h3, N3, K3, A3, g3⟩ := avStC K N2 (C.keep KD nin0) (j := (9 : Int32)) (i := 9) (x := dgc v (17 - 9)) rfl (by rw [List.length_map]; omega) ha (pc := 222) (L := #[.val (.long nn), .second, .val (.int xx), .val (.int ss), .val (.int ee), .val (.int pp), .val (.long (Int64.ofNat v)), .second, .val (.int a8), .val (.int a9), .val (.int (Int32.ofNat s')), .val (.int (Int32.ofNat e')), .val (.int (Int32.ofNat t')), .val (.int pl), .val (.int bad), .val (.ref ca), .unset, .unset]) (S := []) (by decide +kernel)
  have C2 : Av Z h3 ca .char ((cs.set 9 (dgc v (17 - 9))).map Value.int) := by rw [nar_ch (dgc_ch _ _)] at A3; rw [List.map_set]; exact A3
  exact Ends.pre (g1.trans (g2.trans g3)) (fill_10 hw sf K hret O0 N3 nn xx ss ee pp a8 a9 hv hse he ht hpl hbd hbn C2 (by rw [List.length_set]; exact hl) (ok_set hok (dgc_ch _ _)) (hd_set (f := fun i => dgc v (17 - i)) hd (by omega)) ha)
set_option maxHeartbeats 4000000 in
theorem fill_8 (hw : ∀ d ∈ tables_1, d.before a0 Z = true) {z : Int32} {fm : Value} (sf : SF Z z fm) (K : Cx Z "com/example/headers_to_descriptors/headerstodescriptors/NumeralsWholeValuePinLaw" code maxLocals p m c) (hret : meth.sig.returnType = ret) (O0 : Old Z n0 s.heap) (N : Nw Z n0 h p l e room_1 s m args below meth c T 9 170) (nn : Int64) (xx ss ee pp a8 a9 : Int32) {v s' e' t' : Nat} (hv : v < 1000000000000000000) (hse : s' ≤ e') (he : e' ≤ 18) (ht : t' < 18) {pl bad : Int32} (hpl : pl = 0 ∨ pl = 1) (hbd : Ch bad) (hbn : ¬ (48 ≤ bad.toInt ∧ bad.toInt ≤ 57)) {ca : Addr} {cs : List Int32} (C : Av Z h ca .char (cs.map Value.int)) (hl : cs.length = 18) (hok : ∀ c ∈ cs, Ch c) (hd : ∀ i, i < 8 → cs.getD i 0 = dgc v (17 - i)) (ha : n0 ≤ ca) :
    Ends Z n0 p l e room_1 s m args below meth c T (mkF m 199 #[.val (.long nn), .second, .val (.int xx), .val (.int ss), .val (.int ee), .val (.int pp), .val (.long (Int64.ofNat v)), .second, .val (.int a8), .val (.int a9), .val (.int (Int32.ofNat s')), .val (.int (Int32.ofNat e')), .val (.int (Int32.ofNat t')), .val (.int pl), .val (.int bad), .val (.ref ca), .unset, .unset] []) := by
  have g1 : Ld p e below T (mkF m 199 #[.val (.long nn), .second, .val (.int xx), .val (.int ss), .val (.int ee), .val (.int pp), .val (.long (Int64.ofNat v)), .second, .val (.int a8), .val (.int a9), .val (.int (Int32.ofNat s')), .val (.int (Int32.ofNat e')), .val (.int (Int32.ofNat t')), .val (.int pl), .val (.int bad), .val (.ref ca), .unset, .unset] []) T (mkF m 207 #[.val (.long nn), .second, .val (.int xx), .val (.int ss), .val (.int ee), .val (.int pp), .val (.long (Int64.ofNat v)), .second, .val (.int a8), .val (.int a9), .val (.int (Int32.ofNat s')), .val (.int (Int32.ofNat e')), .val (.int (Int32.ofNat t')), .val (.int pl), .val (.int bad), .val (.ref ca), .unset, .unset] [(.int (9 : Int32)), (.long (Int64.ofNat v)), (.int (8 : Int32)), (.ref ca)]) := goRun K N #[] [(199, .aload 15, 2), (201, .bipush 8, 2), (203, .lload 6, 2), (205, .bipush 9, 2)] [] (P := True) (by decide +kernel) rfl trivial
  obtain ⟨v2, T2, h2, N2, ⟨rfl, KD⟩, g2⟩ := goS K N (tw hw 12 rfl) (tw hw 13 rfl) (tw hw 14 rfl) (tw hw 15 rfl) (con_dgt hw (v := v) (k := 9) hv (by decide)) (argsL := [(.long (Int64.ofNat v)), (.int (9 : Int32))]) (W := 2) (rest := [(.int (8 : Int32)), (.ref ca)]) (by decide) (by decide) (by decide) (by decide) (by decide) (L := #[.val (.long nn), .second, .val (.int xx), .val (.int ss), .val (.int ee), .val (.int pp), .val (.long (Int64.ofNat v)), .second, .val (.int a8), .val (.int a9), .val (.int (Int32.ofNat s')), .val (.int (Int32.ofNat e')), .val (.int (Int32.ofNat t')), .val (.int pl), .val (.int bad), .val (.ref ca), .unset, .unset]) rfl pd17 rfl (Nat.le_of_eq rfl) (pc := 207) (by decide +kernel)
  obtain ⟨T3, h3, N3, K3, A3, g3⟩ := avStC K N2 (C.keep KD nin0) (j := (8 : Int32)) (i := 8) (x := dgc v (17 - 8)) rfl (by rw [List.length_map]; omega) ha (pc := 210) (L := #[.val (.long nn), .second, .val (.int xx), .val (.int ss), .val (.int ee), .val (.int pp), .val (.long (Int64.ofNat v)), .second, .val (.int a8), .val (.int a9), .val (.int (Int32.ofNat s')), .val (.int (Int32.ofNat e')), .val (.int (Int32.ofNat t')), .val (.int pl), .val (.int bad), .val (.ref ca), .unset, .unset]) (S := []) (by decide +kernel)
  have C2 : Av Z h3 ca .char ((cs.set 8 (dgc v (17 - 8))).map Value.int) := by rw [nar_ch (dgc_ch _ _)] at A3; rw [List.map_set]; exact A3
  exact Ends.pre (g1.trans (g2.trans g3)) (fill_9 hw sf K hret O0 N3 nn xx ss ee pp a8 a9 hv hse he ht hpl hbd hbn C2 (by rw [List.length_set]; exact hl) (ok_set hok (dgc_ch _ _)) (hd_set (f := fun i => dgc v (17 - i)) hd (by omega)) ha)
set_option maxHeartbeats 4000000 in
theorem fill_7 (hw : ∀ d ∈ tables_1, d.before a0 Z = true) {z : Int32} {fm : Value} (sf : SF Z z fm) (K : Cx Z "com/example/headers_to_descriptors/headerstodescriptors/NumeralsWholeValuePinLaw" code maxLocals p m c) (hret : meth.sig.returnType = ret) (O0 : Old Z n0 s.heap) (N : Nw Z n0 h p l e room_1 s m args below meth c T 8 151) (nn : Int64) (xx ss ee pp a8 a9 : Int32) {v s' e' t' : Nat} (hv : v < 1000000000000000000) (hse : s' ≤ e') (he : e' ≤ 18) (ht : t' < 18) {pl bad : Int32} (hpl : pl = 0 ∨ pl = 1) (hbd : Ch bad) (hbn : ¬ (48 ≤ bad.toInt ∧ bad.toInt ≤ 57)) {ca : Addr} {cs : List Int32} (C : Av Z h ca .char (cs.map Value.int)) (hl : cs.length = 18) (hok : ∀ c ∈ cs, Ch c) (hd : ∀ i, i < 7 → cs.getD i 0 = dgc v (17 - i)) (ha : n0 ≤ ca) :
    Ends Z n0 p l e room_1 s m args below meth c T (mkF m 187 #[.val (.long nn), .second, .val (.int xx), .val (.int ss), .val (.int ee), .val (.int pp), .val (.long (Int64.ofNat v)), .second, .val (.int a8), .val (.int a9), .val (.int (Int32.ofNat s')), .val (.int (Int32.ofNat e')), .val (.int (Int32.ofNat t')), .val (.int pl), .val (.int bad), .val (.ref ca), .unset, .unset] []) := by
  have g1 : Ld p e below T (mkF m 187 #[.val (.long nn), .second, .val (.int xx), .val (.int ss), .val (.int ee), .val (.int pp), .val (.long (Int64.ofNat v)), .second, .val (.int a8), .val (.int a9), .val (.int (Int32.ofNat s')), .val (.int (Int32.ofNat e')), .val (.int (Int32.ofNat t')), .val (.int pl), .val (.int bad), .val (.ref ca), .unset, .unset] []) T (mkF m 195 #[.val (.long nn), .second, .val (.int xx), .val (.int ss), .val (.int ee), .val (.int pp), .val (.long (Int64.ofNat v)), .second, .val (.int a8), .val (.int a9), .val (.int (Int32.ofNat s')), .val (.int (Int32.ofNat e')), .val (.int (Int32.ofNat t')), .val (.int pl), .val (.int bad), .val (.ref ca), .unset, .unset] [(.int (10 : Int32)), (.long (Int64.ofNat v)), (.int (7 : Int32)), (.ref ca)]) := goRun K N #[] [(187, .aload 15, 2), (189, .bipush 7, 2), (191, .lload 6, 2), (193, .bipush 10, 2)] [] (P := True) (by decide +kernel) rfl trivial
  obtain ⟨v2, T2, h2, N2, ⟨rfl, KD⟩, g2⟩ := goS K N (tw hw 12 rfl) (tw hw 13 rfl) (tw hw 14 rfl) (tw hw 15 rfl) (con_dgt hw (v := v) (k := 10) hv (by decide)) (argsL := [(.long (Int64.ofNat v)), (.int (10 : Int32))]) (W := 2) (rest := [(.int (7 : Int32)), (.ref ca)]) (by decide) (by decide) (by decide) (by decide) (by decide) (L := #[.val (.long nn), .second, .val (.int xx), .val (.int ss), .val (.int ee), .val (.int pp), .val (.long (Int64.ofNat v)), .second, .val (.int a8), .val (.int a9), .val (.int (Int32.ofNat s')), .val (.int (Int32.ofNat e')), .val (.int (Int32.ofNat t')), .val (.int pl), .val (.int bad), .val (.ref ca), .unset, .unset]) rfl pd17 rfl (Nat.le_of_eq rfl) (pc := 195) (by decide +kernel)
  obtain ⟨T3, h3, N3, K3, A3, g3⟩ := avStC K N2 (C.keep KD nin0) (j := (7 : Int32)) (i := 7) (x := dgc v (17 - 7)) rfl (by rw [List.length_map]; omega) ha (pc := 198) (L := #[.val (.long nn), .second, .val (.int xx), .val (.int ss), .val (.int ee), .val (.int pp), .val (.long (Int64.ofNat v)), .second, .val (.int a8), .val (.int a9), .val (.int (Int32.ofNat s')), .val (.int (Int32.ofNat e')), .val (.int (Int32.ofNat t')), .val (.int pl), .val (.int bad), .val (.ref ca), .unset, .unset]) (S := []) (by decide +kernel)
  have C2 : Av Z h3 ca .char ((cs.set 7 (dgc v (17 - 7))).map Value.int) := by rw [nar_ch (dgc_ch _ _)] at A3; rw [List.map_set]; exact A3
  exact Ends.pre (g1.trans (g2.trans g3)) (fill_8 hw sf K hret O0 N3 nn xx ss ee pp a8 a9 hv hse he ht hpl hbd hbn C2 (by rw [List.length_set]; exact hl) (ok_set hok (dgc_ch _ _)) (hd_set (f := fun i => dgc v (17 - i)) hd (by omega)) ha)
set_option maxHeartbeats 4000000 in
theorem fill_6 (hw : ∀ d ∈ tables_1, d.before a0 Z = true) {z : Int32} {fm : Value} (sf : SF Z z fm) (K : Cx Z "com/example/headers_to_descriptors/headerstodescriptors/NumeralsWholeValuePinLaw" code maxLocals p m c) (hret : meth.sig.returnType = ret) (O0 : Old Z n0 s.heap) (N : Nw Z n0 h p l e room_1 s m args below meth c T 7 132) (nn : Int64) (xx ss ee pp a8 a9 : Int32) {v s' e' t' : Nat} (hv : v < 1000000000000000000) (hse : s' ≤ e') (he : e' ≤ 18) (ht : t' < 18) {pl bad : Int32} (hpl : pl = 0 ∨ pl = 1) (hbd : Ch bad) (hbn : ¬ (48 ≤ bad.toInt ∧ bad.toInt ≤ 57)) {ca : Addr} {cs : List Int32} (C : Av Z h ca .char (cs.map Value.int)) (hl : cs.length = 18) (hok : ∀ c ∈ cs, Ch c) (hd : ∀ i, i < 6 → cs.getD i 0 = dgc v (17 - i)) (ha : n0 ≤ ca) :
    Ends Z n0 p l e room_1 s m args below meth c T (mkF m 175 #[.val (.long nn), .second, .val (.int xx), .val (.int ss), .val (.int ee), .val (.int pp), .val (.long (Int64.ofNat v)), .second, .val (.int a8), .val (.int a9), .val (.int (Int32.ofNat s')), .val (.int (Int32.ofNat e')), .val (.int (Int32.ofNat t')), .val (.int pl), .val (.int bad), .val (.ref ca), .unset, .unset] []) := by
  have g1 : Ld p e below T (mkF m 175 #[.val (.long nn), .second, .val (.int xx), .val (.int ss), .val (.int ee), .val (.int pp), .val (.long (Int64.ofNat v)), .second, .val (.int a8), .val (.int a9), .val (.int (Int32.ofNat s')), .val (.int (Int32.ofNat e')), .val (.int (Int32.ofNat t')), .val (.int pl), .val (.int bad), .val (.ref ca), .unset, .unset] []) T (mkF m 183 #[.val (.long nn), .second, .val (.int xx), .val (.int ss), .val (.int ee), .val (.int pp), .val (.long (Int64.ofNat v)), .second, .val (.int a8), .val (.int a9), .val (.int (Int32.ofNat s')), .val (.int (Int32.ofNat e')), .val (.int (Int32.ofNat t')), .val (.int pl), .val (.int bad), .val (.ref ca), .unset, .unset] [(.int (11 : Int32)), (.long (Int64.ofNat v)), (.int (6 : Int32)), (.ref ca)]) := goRun K N #[] [(175, .aload 15, 2), (177, .bipush 6, 2), (179, .lload 6, 2), (181, .bipush 11, 2)] [] (P := True) (by decide +kernel) rfl trivial
  obtain ⟨v2, T2, h2, N2, ⟨rfl, KD⟩, g2⟩ := goS K N (tw hw 12 rfl) (tw hw 13 rfl) (tw hw 14 rfl) (tw hw 15 rfl) (con_dgt hw (v := v) (k := 11) hv (by decide)) (argsL := [(.long (Int64.ofNat v)), (.int (11 : Int32))]) (W := 2) (rest := [(.int (6 : Int32)), (.ref ca)]) (by decide) (by decide) (by decide) (by decide) (by decide) (L := #[.val (.long nn), .second, .val (.int xx), .val (.int ss), .val (.int ee), .val (.int pp), .val (.long (Int64.ofNat v)), .second, .val (.int a8), .val (.int a9), .val (.int (Int32.ofNat s')), .val (.int (Int32.ofNat e')), .val (.int (Int32.ofNat t')), .val (.int pl), .val (.int bad), .val (.ref ca), .unset, .unset]) rfl pd17 rfl (Nat.le_of_eq rfl) (pc := 183) (by decide +kernel)
  obtain ⟨T3, h3, N3, K3, A3, g3⟩ := avStC K N2 (C.keep KD nin0) (j := (6 : Int32)) (i := 6) (x := dgc v (17 - 6)) rfl (by rw [List.length_map]; omega) ha (pc := 186) (L := #[.val (.long nn), .second, .val (.int xx), .val (.int ss), .val (.int ee), .val (.int pp), .val (.long (Int64.ofNat v)), .second, .val (.int a8), .val (.int a9), .val (.int (Int32.ofNat s')), .val (.int (Int32.ofNat e')), .val (.int (Int32.ofNat t')), .val (.int pl), .val (.int bad), .val (.ref ca), .unset, .unset]) (S := []) (by decide +kernel)
  have C2 : Av Z h3 ca .char ((cs.set 6 (dgc v (17 - 6))).map Value.int) := by rw [nar_ch (dgc_ch _ _)] at A3; rw [List.map_set]; exact A3
  exact Ends.pre (g1.trans (g2.trans g3)) (fill_7 hw sf K hret O0 N3 nn xx ss ee pp a8 a9 hv hse he ht hpl hbd hbn C2 (by rw [List.length_set]; exact hl) (ok_set hok (dgc_ch _ _)) (hd_set (f := fun i => dgc v (17 - i)) hd (by omega)) ha)
set_option maxHeartbeats 4000000 in
theorem fill_5 (hw : ∀ d ∈ tables_1, d.before a0 Z = true) {z : Int32} {fm : Value} (sf : SF Z z fm) (K : Cx Z "com/example/headers_to_descriptors/headerstodescriptors/NumeralsWholeValuePinLaw" code maxLocals p m c) (hret : meth.sig.returnType = ret) (O0 : Old Z n0 s.heap) (N : Nw Z n0 h p l e room_1 s m args below meth c T 6 113) (nn : Int64) (xx ss ee pp a8 a9 : Int32) {v s' e' t' : Nat} (hv : v < 1000000000000000000) (hse : s' ≤ e') (he : e' ≤ 18) (ht : t' < 18) {pl bad : Int32} (hpl : pl = 0 ∨ pl = 1) (hbd : Ch bad) (hbn : ¬ (48 ≤ bad.toInt ∧ bad.toInt ≤ 57)) {ca : Addr} {cs : List Int32} (C : Av Z h ca .char (cs.map Value.int)) (hl : cs.length = 18) (hok : ∀ c ∈ cs, Ch c) (hd : ∀ i, i < 5 → cs.getD i 0 = dgc v (17 - i)) (ha : n0 ≤ ca) :
    Ends Z n0 p l e room_1 s m args below meth c T (mkF m 164 #[.val (.long nn), .second, .val (.int xx), .val (.int ss), .val (.int ee), .val (.int pp), .val (.long (Int64.ofNat v)), .second, .val (.int a8), .val (.int a9), .val (.int (Int32.ofNat s')), .val (.int (Int32.ofNat e')), .val (.int (Int32.ofNat t')), .val (.int pl), .val (.int bad), .val (.ref ca), .unset, .unset] []) := by
  have g1 : Ld p e below T (mkF m 164 #[.val (.long nn), .second, .val (.int xx), .val (.int ss), .val (.int ee), .val (.int pp), .val (.long (Int64.ofNat v)), .second, .val (.int a8), .val (.int a9), .val (.int (Int32.ofNat s')), .val (.int (Int32.ofNat e')), .val (.int (Int32.ofNat t')), .val (.int pl), .val (.int bad), .val (.ref ca), .unset, .unset] []) T (mkF m 171 #[.val (.long nn), .second, .val (.int xx), .val (.int ss), .val (.int ee), .val (.int pp), .val (.long (Int64.ofNat v)), .second, .val (.int a8), .val (.int a9), .val (.int (Int32.ofNat s')), .val (.int (Int32.ofNat e')), .val (.int (Int32.ofNat t')), .val (.int pl), .val (.int bad), .val (.ref ca), .unset, .unset] [(.int (12 : Int32)), (.long (Int64.ofNat v)), (.int (5 : Int32)), (.ref ca)]) := goRun K N #[] [(164, .aload 15, 2), (166, .iconst 5, 1), (167, .lload 6, 2), (169, .bipush 12, 2)] [] (P := True) (by decide +kernel) rfl trivial
  obtain ⟨v2, T2, h2, N2, ⟨rfl, KD⟩, g2⟩ := goS K N (tw hw 12 rfl) (tw hw 13 rfl) (tw hw 14 rfl) (tw hw 15 rfl) (con_dgt hw (v := v) (k := 12) hv (by decide)) (argsL := [(.long (Int64.ofNat v)), (.int (12 : Int32))]) (W := 2) (rest := [(.int (5 : Int32)), (.ref ca)]) (by decide) (by decide) (by decide) (by decide) (by decide) (L := #[.val (.long nn), .second, .val (.int xx), .val (.int ss), .val (.int ee), .val (.int pp), .val (.long (Int64.ofNat v)), .second, .val (.int a8), .val (.int a9), .val (.int (Int32.ofNat s')), .val (.int (Int32.ofNat e')), .val (.int (Int32.ofNat t')), .val (.int pl), .val (.int bad), .val (.ref ca), .unset, .unset]) rfl pd17 rfl (Nat.le_of_eq rfl) (pc := 171) (by decide +kernel)
  obtain ⟨T3, h3, N3, K3, A3, g3⟩ := avStC K N2 (C.keep KD nin0) (j := (5 : Int32)) (i := 5) (x := dgc v (17 - 5)) rfl (by rw [List.length_map]; omega) ha (pc := 174) (L := #[.val (.long nn), .second, .val (.int xx), .val (.int ss), .val (.int ee), .val (.int pp), .val (.long (Int64.ofNat v)), .second, .val (.int a8), .val (.int a9), .val (.int (Int32.ofNat s')), .val (.int (Int32.ofNat e')), .val (.int (Int32.ofNat t')), .val (.int pl), .val (.int bad), .val (.ref ca), .unset, .unset]) (S := []) (by decide +kernel)
  have C2 : Av Z h3 ca .char ((cs.set 5 (dgc v (17 - 5))).map Value.int) := by rw [nar_ch (dgc_ch _ _)] at A3; rw [List.map_set]; exact A3
  exact Ends.pre (g1.trans (g2.trans g3)) (fill_6 hw sf K hret O0 N3 nn xx ss ee pp a8 a9 hv hse he ht hpl hbd hbn C2 (by rw [List.length_set]; exact hl) (ok_set hok (dgc_ch _ _)) (hd_set (f := fun i => dgc v (17 - i)) hd (by omega)) ha)
set_option maxHeartbeats 4000000 in
theorem fill_4 (hw : ∀ d ∈ tables_1, d.before a0 Z = true) {z : Int32} {fm : Value} (sf : SF Z z fm) (K : Cx Z "com/example/headers_to_descriptors/headerstodescriptors/NumeralsWholeValuePinLaw" code maxLocals p m c) (hret : meth.sig.returnType = ret) (O0 : Old Z n0 s.heap) (N : Nw Z n0 h p l e room_1 s m args below meth c T 5 94) (nn : Int64) (xx ss ee pp a8 a9 : Int32) {v s' e' t' : Nat} (hv : v < 1000000000000000000) (hse : s' ≤ e') (he : e' ≤ 18) (ht : t' < 18) {pl bad : Int32} (hpl : pl = 0 ∨ pl = 1) (hbd : Ch bad) (hbn : ¬ (48 ≤ bad.toInt ∧ bad.toInt ≤ 57)) {ca : Addr} {cs : List Int32} (C : Av Z h ca .char (cs.map Value.int)) (hl : cs.length = 18) (hok : ∀ c ∈ cs, Ch c) (hd : ∀ i, i < 4 → cs.getD i 0 = dgc v (17 - i)) (ha : n0 ≤ ca) :
    Ends Z n0 p l e room_1 s m args below meth c T (mkF m 153 #[.val (.long nn), .second, .val (.int xx), .val (.int ss), .val (.int ee), .val (.int pp), .val (.long (Int64.ofNat v)), .second, .val (.int a8), .val (.int a9), .val (.int (Int32.ofNat s')), .val (.int (Int32.ofNat e')), .val (.int (Int32.ofNat t')), .val (.int pl), .val (.int bad), .val (.ref ca), .unset, .unset] []) := by
  have g1 : Ld p e below T (mkF m 153 #[.val (.long nn), .second, .val (.int xx), .val (.int ss), .val (.int ee), .val (.int pp), .val (.long (Int64.ofNat v)), .second, .val (.int a8), .val (.int a9), .val (.int (Int32.ofNat s')), .val (.int (Int32.ofNat e')), .val (.int (Int32.ofNat t')), .val (.int pl), .val (.int bad), .val (.ref ca), .unset, .unset] []) T (mkF m 160 #[.val (.long nn), .second, .val (.int xx), .val (.int ss), .val (.int ee), .val (.int pp), .val (.long (Int64.ofNat v)), .second, .val (.int a8), .val (.int a9), .val (.int (Int32.ofNat s')), .val (.int (Int32.ofNat e')), .val (.int (Int32.ofNat t')), .val (.int pl), .val (.int bad), .val (.ref ca), .unset, .unset] [(.int (13 : Int32)), (.long (Int64.ofNat v)), (.int (4 : Int32)), (.ref ca)]) := goRun K N #[] [(153, .aload 15, 2), (155, .iconst 4, 1), (156, .lload 6, 2), (158, .bipush 13, 2)] [] (P := True) (by decide +kernel) rfl trivial
  obtain ⟨v2, T2, h2, N2, ⟨rfl, KD⟩, g2⟩ := goS K N (tw hw 12 rfl) (tw hw 13 rfl) (tw hw 14 rfl) (tw hw 15 rfl) (con_dgt hw (v := v) (k := 13) hv (by decide)) (argsL := [(.long (Int64.ofNat v)), (.int (13 : Int32))]) (W := 2) (rest := [(.int (4 : Int32)), (.ref ca)]) (by decide) (by decide) (by decide) (by decide) (by decide) (L := #[.val (.long nn), .second, .val (.int xx), .val (.int ss), .val (.int ee), .val (.int pp), .val (.long (Int64.ofNat v)), .second, .val (.int a8), .val (.int a9), .val (.int (Int32.ofNat s')), .val (.int (Int32.ofNat e')), .val (.int (Int32.ofNat t')), .val (.int pl), .val (.int bad), .val (.ref ca), .unset, .unset]) rfl pd17 rfl (Nat.le_of_eq rfl) (pc := 160) (by decide +kernel)
  obtain ⟨T3, h3, N3, K3, A3, g3⟩ := avStC K N2 (C.keep KD nin0) (j := (4 : Int32)) (i := 4) (x := dgc v (17 - 4)) rfl (by rw [List.length_map]; omega) ha (pc := 163) (L := #[.val (.long nn), .second, .val (.int xx), .val (.int ss), .val (.int ee), .val (.int pp), .val (.long (Int64.ofNat v)), .second, .val (.int a8), .val (.int a9), .val (.int (Int32.ofNat s')), .val (.int (Int32.ofNat e')), .val (.int (Int32.ofNat t')), .val (.int pl), .val (.int bad), .val (.ref ca), .unset, .unset]) (S := []) (by decide +kernel)
  have C2 : Av Z h3 ca .char ((cs.set 4 (dgc v (17 - 4))).map Value.int) := by rw [nar_ch (dgc_ch _ _)] at A3; rw [List.map_set]; exact A3
  exact Ends.pre (g1.trans (g2.trans g3)) (fill_5 hw sf K hret O0 N3 nn xx ss ee pp a8 a9 hv hse he ht hpl hbd hbn C2 (by rw [List.length_set]; exact hl) (ok_set hok (dgc_ch _ _)) (hd_set (f := fun i => dgc v (17 - i)) hd (by omega)) ha)
set_option maxHeartbeats 4000000 in
theorem fill_3 (hw : ∀ d ∈ tables_1, d.before a0 Z = true) {z : Int32} {fm : Value} (sf : SF Z z fm) (K : Cx Z "com/example/headers_to_descriptors/headerstodescriptors/NumeralsWholeValuePinLaw" code maxLocals p m c) (hret : meth.sig.returnType = ret) (O0 : Old Z n0 s.heap) (N : Nw Z n0 h p l e room_1 s m args below meth c T 4 75) (nn : Int64) (xx ss ee pp a8 a9 : Int32) {v s' e' t' : Nat} (hv : v < 1000000000000000000) (hse : s' ≤ e') (he : e' ≤ 18) (ht : t' < 18) {pl bad : Int32} (hpl : pl = 0 ∨ pl = 1) (hbd : Ch bad) (hbn : ¬ (48 ≤ bad.toInt ∧ bad.toInt ≤ 57)) {ca : Addr} {cs : List Int32} (C : Av Z h ca .char (cs.map Value.int)) (hl : cs.length = 18) (hok : ∀ c ∈ cs, Ch c) (hd : ∀ i, i < 3 → cs.getD i 0 = dgc v (17 - i)) (ha : n0 ≤ ca) :
    Ends Z n0 p l e room_1 s m args below meth c T (mkF m 142 #[.val (.long nn), .second, .val (.int xx), .val (.int ss), .val (.int ee), .val (.int pp), .val (.long (Int64.ofNat v)), .second, .val (.int a8), .val (.int a9), .val (.int (Int32.ofNat s')), .val (.int (Int32.ofNat e')), .val (.int (Int32.ofNat t')), .val (.int pl), .val (.int bad), .val (.ref ca), .unset, .unset] []) := by
  have g1 : Ld p e below T (mkF m 142 #[.val (.long nn), .second, .val (.int xx), .val (.int ss), .val (.int ee), .val (.int pp), .val (.long (Int64.ofNat v)), .second, .val (.int a8), .val (.int a9), .val (.int (Int32.ofNat s')), .val (.int (Int32.ofNat e')), .val (.int (Int32.ofNat t')), .val (.int pl), .val (.int bad), .val (.ref ca), .unset, .unset] []) T (mkF m 149 #[.val (.long nn), .second, .val (.int xx), .val (.int ss), .val (.int ee), .val (.int pp), .val (.long (Int64.ofNat v)), .second, .val (.int a8), .val (.int a9), .val (.int (Int32.ofNat s')), .val (.int (Int32.ofNat e')), .val (.int (Int32.ofNat t')), .val (.int pl), .val (.int bad), .val (.ref ca), .unset, .unset] [(.int (14 : Int32)), (.long (Int64.ofNat v)), (.int (3 : Int32)), (.ref ca)]) := goRun K N #[] [(142, .aload 15, 2), (144, .iconst 3, 1), (145, .lload 6, 2), (147, .bipush 14, 2)] [] (P := True) (by decide +kernel) rfl trivial
  obtain ⟨v2, T2, h2, N2, ⟨rfl, KD⟩, g2⟩ := goS K N (tw hw 12 rfl) (tw hw 13 rfl) (tw hw 14 rfl) (tw hw 15 rfl) (con_dgt hw (v := v) (k := 14) hv (by decide)) (argsL := [(.long (Int64.ofNat v)), (.int (14 : Int32))]) (W := 2) (rest := [(.int (3 : Int32)), (.ref ca)]) (by decide) (by decide) (by decide) (by decide) (by decide) (L := #[.val (.long nn), .second, .val (.int xx), .val (.int ss), .val (.int ee), .val (.int pp), .val (.long (Int64.ofNat v)), .second, .val (.int a8), .val (.int a9), .val (.int (Int32.ofNat s')), .val (.int (Int32.ofNat e')), .val (.int (Int32.ofNat t')), .val (.int pl), .val (.int bad), .val (.ref ca), .unset, .unset]) rfl pd17 rfl (Nat.le_of_eq rfl) (pc := 149) (by decide +kernel)
  obtain ⟨T3, h3, N3, K3, A3, g3⟩ := avStC K N2 (C.keep KD nin0) (j := (3 : Int32)) (i := 3) (x := dgc v (17 - 3)) rfl (by rw [List.length_map]; omega) ha (pc := 152) (L := #[.val (.long nn), .second, .val (.int xx), .val (.int ss), .val (.int ee), .val (.int pp), .val (.long (Int64.ofNat v)), .second, .val (.int a8), .val (.int a9), .val (.int (Int32.ofNat s')), .val (.int (Int32.ofNat e')), .val (.int (Int32.ofNat t')), .val (.int pl), .val (.int bad), .val (.ref ca), .unset, .unset]) (S := []) (by decide +kernel)
  have C2 : Av Z h3 ca .char ((cs.set 3 (dgc v (17 - 3))).map Value.int) := by rw [nar_ch (dgc_ch _ _)] at A3; rw [List.map_set]; exact A3
  exact Ends.pre (g1.trans (g2.trans g3)) (fill_4 hw sf K hret O0 N3 nn xx ss ee pp a8 a9 hv hse he ht hpl hbd hbn C2 (by rw [List.length_set]; exact hl) (ok_set hok (dgc_ch _ _)) (hd_set (f := fun i => dgc v (17 - i)) hd (by omega)) ha)
set_option maxHeartbeats 4000000 in
theorem fill_2 (hw : ∀ d ∈ tables_1, d.before a0 Z = true) {z : Int32} {fm : Value} (sf : SF Z z fm) (K : Cx Z "com/example/headers_to_descriptors/headerstodescriptors/NumeralsWholeValuePinLaw" code maxLocals p m c) (hret : meth.sig.returnType = ret) (O0 : Old Z n0 s.heap) (N : Nw Z n0 h p l e room_1 s m args below meth c T 3 56) (nn : Int64) (xx ss ee pp a8 a9 : Int32) {v s' e' t' : Nat} (hv : v < 1000000000000000000) (hse : s' ≤ e') (he : e' ≤ 18) (ht : t' < 18) {pl bad : Int32} (hpl : pl = 0 ∨ pl = 1) (hbd : Ch bad) (hbn : ¬ (48 ≤ bad.toInt ∧ bad.toInt ≤ 57)) {ca : Addr} {cs : List Int32} (C : Av Z h ca .char (cs.map Value.int)) (hl : cs.length = 18) (hok : ∀ c ∈ cs, Ch c) (hd : ∀ i, i < 2 → cs.getD i 0 = dgc v (17 - i)) (ha : n0 ≤ ca) :
    Ends Z n0 p l e room_1 s m args below meth c T (mkF m 131 #[.val (.long nn), .second, .val (.int xx), .val (.int ss), .val (.int ee), .val (.int pp), .val (.long (Int64.ofNat v)), .second, .val (.int a8), .val (.int a9), .val (.int (Int32.ofNat s')), .val (.int (Int32.ofNat e')), .val (.int (Int32.ofNat t')), .val (.int pl), .val (.int bad), .val (.ref ca), .unset, .unset] []) := by
  have g1 : Ld p e below T (mkF m 131 #[.val (.long nn), .second, .val (.int xx), .val (.int ss), .val (.int ee), .val (.int pp), .val (.long (Int64.ofNat v)), .second, .val (.int a8), .val (.int a9), .val (.int (Int32.ofNat s')), .val (.int (Int32.ofNat e')), .val (.int (Int32.ofNat t')), .val (.int pl), .val (.int bad), .val (.ref ca), .unset, .unset] []) T (mkF m 138 #[.val (.long nn), .second, .val (.int xx), .val (.int ss), .val (.int ee), .val (.int pp), .val (.long (Int64.ofNat v)), .second, .val (.int a8), .val (.int a9), .val (.int (Int32.ofNat s')), .val (.int (Int32.ofNat e')), .val (.int (Int32.ofNat t')), .val (.int pl), .val (.int bad), .val (.ref ca), .unset, .unset] [(.int (15 : Int32)), (.long (Int64.ofNat v)), (.int (2 : Int32)), (.ref ca)]) := goRun K N #[] [(131, .aload 15, 2), (133, .iconst 2, 1), (134, .lload 6, 2), (136, .bipush 15, 2)] [] (P := True) (by decide +kernel) rfl trivial
  obtain ⟨v2, T2, h2, N2, ⟨rfl, KD⟩, g2⟩ := goS K N (tw hw 12 rfl) (tw hw 13 rfl) (tw hw 14 rfl) (tw hw 15 rfl) (con_dgt hw (v := v) (k := 15) hv (by decide)) (argsL := [(.long (Int64.ofNat v)), (.int (15 : Int32))]) (W := 2) (rest := [(.int (2 : Int32)), (.ref ca)]) (by decide) (by decide) (by decide) (by decide) (by decide) (L := #[.val (.long nn), .second, .val (.int xx), .val (.int ss), .val (.int ee), .val (.int pp), .val (.long (Int64.ofNat v)), .second, .val (.int a8), .val (.int a9), .val (.int (Int32.ofNat s')), .val (.int (Int32.ofNat e')), .val (.int (Int32.ofNat t')), .val (.int pl), .val (.int bad), .val (.ref ca), .unset, .unset]) rfl pd17 rfl (Nat.le_of_eq rfl) (pc := 138) (by decide +kernel)
  obtain ⟨T3, h3, N3, K3, A3, g3⟩ := avStC K N2 (C.keep KD nin0) (j := (2 : Int32)) (i := 2) (x := dgc v (17 - 2)) rfl (by rw [List.length_map]; omega) ha (pc := 141) (L := #[.val (.long nn), .second, .val (.int xx), .val (.int ss), .val (.int ee), .val (.int pp), .val (.long (Int64.ofNat v)), .second, .val (.int a8), .val (.int a9), .val (.int (Int32.ofNat s')), .val (.int (Int32.ofNat e')), .val (.int (Int32.ofNat t')), .val (.int pl), .val (.int bad), .val (.ref ca), .unset, .unset]) (S := []) (by decide +kernel)
  have C2 : Av Z h3 ca .char ((cs.set 2 (dgc v (17 - 2))).map Value.int) := by rw [nar_ch (dgc_ch _ _)] at A3; rw [List.map_set]; exact A3
  exact Ends.pre (g1.trans (g2.trans g3)) (fill_3 hw sf K hret O0 N3 nn xx ss ee pp a8 a9 hv hse he ht hpl hbd hbn C2 (by rw [List.length_set]; exact hl) (ok_set hok (dgc_ch _ _)) (hd_set (f := fun i => dgc v (17 - i)) hd (by omega)) ha)
set_option maxHeartbeats 4000000 in
theorem fill_1 (hw : ∀ d ∈ tables_1, d.before a0 Z = true) {z : Int32} {fm : Value} (sf : SF Z z fm) (K : Cx Z "com/example/headers_to_descriptors/headerstodescriptors/NumeralsWholeValuePinLaw" code maxLocals p m c) (hret : meth.sig.returnType = ret) (O0 : Old Z n0 s.heap) (N : Nw Z n0 h p l e room_1 s m args below meth c T 2 37) (nn : Int64) (xx ss ee pp a8 a9 : Int32) {v s' e' t' : Nat} (hv : v < 1000000000000000000) (hse : s' ≤ e') (he : e' ≤ 18) (ht : t' < 18) {pl bad : Int32} (hpl : pl = 0 ∨ pl = 1) (hbd : Ch bad) (hbn : ¬ (48 ≤ bad.toInt ∧ bad.toInt ≤ 57)) {ca : Addr} {cs : List Int32} (C : Av Z h ca .char (cs.map Value.int)) (hl : cs.length = 18) (hok : ∀ c ∈ cs, Ch c) (hd : ∀ i, i < 1 → cs.getD i 0 = dgc v (17 - i)) (ha : n0 ≤ ca) :
    Ends Z n0 p l e room_1 s m args below meth c T (mkF m 120 #[.val (.long nn), .second, .val (.int xx), .val (.int ss), .val (.int ee), .val (.int pp), .val (.long (Int64.ofNat v)), .second, .val (.int a8), .val (.int a9), .val (.int (Int32.ofNat s')), .val (.int (Int32.ofNat e')), .val (.int (Int32.ofNat t')), .val (.int pl), .val (.int bad), .val (.ref ca), .unset, .unset] []) := by
  have g1 : Ld p e below T (mkF m 120 #[.val (.long nn), .second, .val (.int xx), .val (.int ss), .val (.int ee), .val (.int pp), .val (.long (Int64.ofNat v)), .second, .val (.int a8), .val (.int a9), .val (.int (Int32.ofNat s')), .val (.int (Int32.ofNat e')), .val (.int (Int32.ofNat t')), .val (.int pl), .val (.int bad), .val (.ref ca), .unset, .unset] []) T (mkF m 127 #[.val (.long nn), .second, .val (.int xx), .val (.int ss), .val (.int ee), .val (.int pp), .val (.long (Int64.ofNat v)), .second, .val (.int a8), .val (.int a9), .val (.int (Int32.ofNat s')), .val (.int (Int32.ofNat e')), .val (.int (Int32.ofNat t')), .val (.int pl), .val (.int bad), .val (.ref ca), .unset, .unset] [(.int (16 : Int32)), (.long (Int64.ofNat v)), (.int (1 : Int32)), (.ref ca)]) := goRun K N #[] [(120, .aload 15, 2), (122, .iconst 1, 1), (123, .lload 6, 2), (125, .bipush 16, 2)] [] (P := True) (by decide +kernel) rfl trivial
  obtain ⟨v2, T2, h2, N2, ⟨rfl, KD⟩, g2⟩ := goS K N (tw hw 12 rfl) (tw hw 13 rfl) (tw hw 14 rfl) (tw hw 15 rfl) (con_dgt hw (v := v) (k := 16) hv (by decide)) (argsL := [(.long (Int64.ofNat v)), (.int (16 : Int32))]) (W := 2) (rest := [(.int (1 : Int32)), (.ref ca)]) (by decide) (by decide) (by decide) (by decide) (by decide) (L := #[.val (.long nn), .second, .val (.int xx), .val (.int ss), .val (.int ee), .val (.int pp), .val (.long (Int64.ofNat v)), .second, .val (.int a8), .val (.int a9), .val (.int (Int32.ofNat s')), .val (.int (Int32.ofNat e')), .val (.int (Int32.ofNat t')), .val (.int pl), .val (.int bad), .val (.ref ca), .unset, .unset]) rfl pd17 rfl (Nat.le_of_eq rfl) (pc := 127) (by decide +kernel)
  obtain ⟨T3, h3, N3, K3, A3, g3⟩ := avStC K N2 (C.keep KD nin0) (j := (1 : Int32)) (i := 1) (x := dgc v (17 - 1)) rfl (by rw [List.length_map]; omega) ha (pc := 130) (L := #[.val (.long nn), .second, .val (.int xx), .val (.int ss), .val (.int ee), .val (.int pp), .val (.long (Int64.ofNat v)), .second, .val (.int a8), .val (.int a9), .val (.int (Int32.ofNat s')), .val (.int (Int32.ofNat e')), .val (.int (Int32.ofNat t')), .val (.int pl), .val (.int bad), .val (.ref ca), .unset, .unset]) (S := []) (by decide +kernel)
  have C2 : Av Z h3 ca .char ((cs.set 1 (dgc v (17 - 1))).map Value.int) := by rw [nar_ch (dgc_ch _ _)] at A3; rw [List.map_set]; exact A3
  exact Ends.pre (g1.trans (g2.trans g3)) (fill_2 hw sf K hret O0 N3 nn xx ss ee pp a8 a9 hv hse he ht hpl hbd hbn C2 (by rw [List.length_set]; exact hl) (ok_set hok (dgc_ch _ _)) (hd_set (f := fun i => dgc v (17 - i)) hd (by omega)) ha)
set_option maxHeartbeats 4000000 in
theorem fill_0 (hw : ∀ d ∈ tables_1, d.before a0 Z = true) {z : Int32} {fm : Value} (sf : SF Z z fm) (K : Cx Z "com/example/headers_to_descriptors/headerstodescriptors/NumeralsWholeValuePinLaw" code maxLocals p m c) (hret : meth.sig.returnType = ret) (O0 : Old Z n0 s.heap) (N : Nw Z n0 h p l e room_1 s m args below meth c T 1 18) (nn : Int64) (xx ss ee pp a8 a9 : Int32) {v s' e' t' : Nat} (hv : v < 1000000000000000000) (hse : s' ≤ e') (he : e' ≤ 18) (ht : t' < 18) {pl bad : Int32} (hpl : pl = 0 ∨ pl = 1) (hbd : Ch bad) (hbn : ¬ (48 ≤ bad.toInt ∧ bad.toInt ≤ 57)) {ca : Addr} {cs : List Int32} (C : Av Z h ca .char (cs.map Value.int)) (hl : cs.length = 18) (hok : ∀ c ∈ cs, Ch c) (hd : ∀ i, i < 0 → cs.getD i 0 = dgc v (17 - i)) (ha : n0 ≤ ca) :
    Ends Z n0 p l e room_1 s m args below meth c T (mkF m 109 #[.val (.long nn), .second, .val (.int xx), .val (.int ss), .val (.int ee), .val (.int pp), .val (.long (Int64.ofNat v)), .second, .val (.int a8), .val (.int a9), .val (.int (Int32.ofNat s')), .val (.int (Int32.ofNat e')), .val (.int (Int32.ofNat t')), .val (.int pl), .val (.int bad), .val (.ref ca), .unset, .unset] []) := by
  have g1 : Ld p e below T (mkF m 109 #[.val (.long nn), .second, .val (.int xx), .val (.int ss), .val (.int ee), .val (.int pp), .val (.long (Int64.ofNat v)), .second, .val (.int a8), .val (.int a9), .val (.int (Int32.ofNat s')), .val (.int (Int32.ofNat e')), .val (.int (Int32.ofNat t')), .val (.int pl), .val (.int bad), .val (.ref ca), .unset, .unset] []) T (mkF m 116 #[.val (.long nn), .second, .val (.int xx), .val (.int ss), .val (.int ee), .val (.int pp), .val (.long (Int64.ofNat v)), .second, .val (.int a8), .val (.int a9), .val (.int (Int32.ofNat s')), .val (.int (Int32.ofNat e')), .val (.int (Int32.ofNat t')), .val (.int pl), .val (.int bad), .val (.ref ca), .unset, .unset] [(.int (17 : Int32)), (.long (Int64.ofNat v)), (.int (0 : Int32)), (.ref ca)]) := goRun K N #[] [(109, .aload 15, 2), (111, .iconst 0, 1), (112, .lload 6, 2), (114, .bipush 17, 2)] [] (P := True) (by decide +kernel) rfl trivial
  obtain ⟨v2, T2, h2, N2, ⟨rfl, KD⟩, g2⟩ := goS K N (tw hw 12 rfl) (tw hw 13 rfl) (tw hw 14 rfl) (tw hw 15 rfl) (con_dgt hw (v := v) (k := 17) hv (by decide)) (argsL := [(.long (Int64.ofNat v)), (.int (17 : Int32))]) (W := 2) (rest := [(.int (0 : Int32)), (.ref ca)]) (by decide) (by decide) (by decide) (by decide) (by decide) (L := #[.val (.long nn), .second, .val (.int xx), .val (.int ss), .val (.int ee), .val (.int pp), .val (.long (Int64.ofNat v)), .second, .val (.int a8), .val (.int a9), .val (.int (Int32.ofNat s')), .val (.int (Int32.ofNat e')), .val (.int (Int32.ofNat t')), .val (.int pl), .val (.int bad), .val (.ref ca), .unset, .unset]) rfl pd17 rfl (Nat.le_of_eq rfl) (pc := 116) (by decide +kernel)
  obtain ⟨T3, h3, N3, K3, A3, g3⟩ := avStC K N2 (C.keep KD nin0) (j := (0 : Int32)) (i := 0) (x := dgc v (17 - 0)) rfl (by rw [List.length_map]; omega) ha (pc := 119) (L := #[.val (.long nn), .second, .val (.int xx), .val (.int ss), .val (.int ee), .val (.int pp), .val (.long (Int64.ofNat v)), .second, .val (.int a8), .val (.int a9), .val (.int (Int32.ofNat s')), .val (.int (Int32.ofNat e')), .val (.int (Int32.ofNat t')), .val (.int pl), .val (.int bad), .val (.ref ca), .unset, .unset]) (S := []) (by decide +kernel)
  have C2 : Av Z h3 ca .char ((cs.set 0 (dgc v (17 - 0))).map Value.int) := by rw [nar_ch (dgc_ch _ _)] at A3; rw [List.map_set]; exact A3
  exact Ends.pre (g1.trans (g2.trans g3)) (fill_1 hw sf K hret O0 N3 nn xx ss ee pp a8 a9 hv hse he ht hpl hbd hbn C2 (by rw [List.length_set]; exact hl) (ok_set hok (dgc_ch _ _)) (hd_set (f := fun i => dgc v (17 - i)) hd (by omega)) ha)
set_option maxHeartbeats 4000000 in
theorem mkp (hw : ∀ d ∈ tables_1, d.before a0 Z = true) {z : Int32} {fm : Value} (sf : SF Z z fm) (K : Cx Z "com/example/headers_to_descriptors/headerstodescriptors/NumeralsWholeValuePinLaw" code maxLocals p m c) (hret : meth.sig.returnType = ret) (O0 : Old Z n0 s.heap) (N : Nw Z n0 h p l e room_1 s m args below meth c T 0 0) (nn : Int64) (xx ss ee pp a8 a9 : Int32) {v s' e' t' : Nat} (hv : v < 1000000000000000000) (hse : s' ≤ e') (he : e' ≤ 18) (ht : t' < 18) {pl bad : Int32} (hpl : pl = 0 ∨ pl = 1) (hbd : Ch bad) (hbn : ¬ (48 ≤ bad.toInt ∧ bad.toInt ≤ 57)) :
    Ends Z n0 p l e room_1 s m args below meth c T (mkF m 103 #[.val (.long nn), .second, .val (.int xx), .val (.int ss), .val (.int ee), .val (.int pp), .val (.long (Int64.ofNat v)), .second, .val (.int a8), .val (.int a9), .val (.int (Int32.ofNat s')), .val (.int (Int32.ofNat e')), .val (.int (Int32.ofNat t')), .val (.int pl), .val (.int bad), .unset, .unset, .unset] []) := by
  have g1 : Ld p e below T (mkF m 103 #[.val (.long nn), .second, .val (.int xx), .val (.int ss), .val (.int ee), .val (.int pp), .val (.long (Int64.ofNat v)), .second, .val (.int a8), .val (.int a9), .val (.int (Int32.ofNat s')), .val (.int (Int32.ofNat e')), .val (.int (Int32.ofNat t')), .val (.int pl), .val (.int bad), .unset, .unset, .unset] []) T (mkF m 105 #[.val (.long nn), .second, .val (.int xx), .val (.int ss), .val (.int ee), .val (.int pp), .val (.long (Int64.ofNat v)), .second, .val (.int a8), .val (.int a9), .val (.int (Int32.ofNat s')), .val (.int (Int32.ofNat e')), .val (.int (Int32.ofNat t')), .val (.int pl), .val (.int bad), .unset, .unset, .unset] [(.int (18 : Int32))]) := goRun K N #[] [(103, .bipush 18, 2)] [] (P := True) (by decide +kernel) rfl trivial
  have hn18 : (18 : Int32).toInt = ((18 : Nat) : Int) := rfl
  obtain ⟨T2, h2, a2, cA2, ea2, N2, E2, A2, g2⟩ := goNewP K N (aty := .char) (tw hw 11 rfl) (n := (18 : Int32)) (not_neg_of hn18) (cap := 18) (by rw [clamp_of hn18]; omega) (by decide) (by decide) (by decide) (pc := 105) (L := #[.val (.long nn), .second, .val (.int xx), .val (.int ss), .val (.int ee), .val (.int pp), .val (.long (Int64.ofNat v)), .second, .val (.int a8), .val (.int a9), .val (.int (Int32.ofNat s')), .val (.int (Int32.ofNat e')), .val (.int (Int32.ofNat t')), .val (.int pl), .val (.int bad), .unset, .unset, .unset]) (S := []) (by decide +kernel)
  have A2 := Av.new A2 (not_neg_of hn18) hn18
  have ha2 : n0 ≤ a2 := ea2 ▸ N.size
  have C2 : Av Z h2 a2 .char ((List.replicate 18 (0 : Int32)).map Value.int) := by rw [List.map_replicate]; exact A2
  have g3 : Ld p e below T2 (mkF m 107 #[.val (.long nn), .second, .val (.int xx), .val (.int ss), .val (.int ee), .val (.int pp), .val (.long (Int64.ofNat v)), .second, .val (.int a8), .val (.int a9), .val (.int (Int32.ofNat s')), .val (.int (Int32.ofNat e')), .val (.int (Int32.ofNat t')), .val (.int pl), .val (.int bad), .unset, .unset, .unset] [(.ref a2)]) T2 (mkF m 109 #[.val (.long nn), .second, .val (.int xx), .val (.int ss), .val (.int ee), .val (.int pp), .val (.long (Int64.ofNat v)), .second, .val (.int a8), .val (.int a9), .val (.int (Int32.ofNat s')), .val (.int (Int32.ofNat e')), .val (.int (Int32.ofNat t')), .val (.int pl), .val (.int bad), .val (.ref a2), .unset, .unset] []) := goRun K N2 #[] [(107, .astore 15, 2)] [] (P := True) (by decide +kernel) rfl trivial
  exact Ends.pre (g1.trans (g2.trans g3)) (fill_0 hw sf K hret O0 N2 nn xx ss ee pp a8 a9 hv hse he ht hpl hbd hbn C2 List.length_replicate (fun c hc => by rw [List.eq_of_mem_replicate hc]; constructor <;> decide) (fun i hi => absurd hi (Nat.not_lt_zero _)) ha2)
set_option maxHeartbeats 4000000 in
theorem badp (hw : ∀ d ∈ tables_1, d.before a0 Z = true) {z : Int32} {fm : Value} (sf : SF Z z fm) (K : Cx Z "com/example/headers_to_descriptors/headerstodescriptors/NumeralsWholeValuePinLaw" code maxLocals p m c) (hret : meth.sig.returnType = ret) (O0 : Old Z n0 s.heap) (N : Nw Z n0 h p l e room_1 s m args below meth c T 0 0) (nn : Int64) (xx ss ee pp a8 a9 : Int32) {v s' e' t' : Nat} (hv : v < 1000000000000000000) (hse : s' ≤ e') (he : e' ≤ 18) (ht : t' < 18) {pl : Int32} (hpl : pl = 0 ∨ pl = 1) :
    Ends Z n0 p l e room_1 s m args below meth c T (mkF m 74 #[.val (.long nn), .second, .val (.int xx), .val (.int ss), .val (.int ee), .val (.int pp), .val (.long (Int64.ofNat v)), .second, .val (.int a8), .val (.int a9), .val (.int (Int32.ofNat s')), .val (.int (Int32.ofNat e')), .val (.int (Int32.ofNat t')), .val (.int pl), .unset, .unset, .unset, .unset] []) := by
  have g1 : Ld p e below T (mkF m 74 #[.val (.long nn), .second, .val (.int xx), .val (.int ss), .val (.int ee), .val (.int pp), .val (.long (Int64.ofNat v)), .second, .val (.int a8), .val (.int a9), .val (.int (Int32.ofNat s')), .val (.int (Int32.ofNat e')), .val (.int (Int32.ofNat t')), .val (.int pl), .unset, .unset, .unset, .unset] []) T (mkF m 81 #[.val (.long nn), .second, .val (.int xx), .val (.int ss), .val (.int ee), .val (.int pp), .val (.long (Int64.ofNat v)), .second, .val (.int a8), .val (.int a9), .val (.int (Int32.ofNat s')), .val (.int (Int32.ofNat e')), .val (.int (Int32.ofNat t')), .val (.int pl), .val (.int ((xx &&& (65535 : Int32)).toUInt32.toUInt16.toUInt32.toInt32)), .unset, .unset, .unset] []) := goRun K N a0 [(74, .iload_n 2, 1), (75, .ldc 23, 2), (77, .iand, 1), (78, .i2c, 1), (79, .istore 14, 2)] [.int (65535 : Int32)] (P := ((Jvm.Cond.constant "com/example/headers_to_descriptors/headerstodescriptors/NumeralsWholeValuePinLaw" 23 (65535 : Int32)).before a0 Z = true) ∧ True) (by decide +kernel) rfl ⟨(tw hw 10 rfl), trivial⟩
  have hb0 : Ch ((xx &&& (65535 : Int32)).toUInt32.toUInt16.toUInt32.toInt32) := ch_nar _
  generalize (xx &&& (65535 : Int32)).toUInt32.toUInt16.toUInt32.toInt32 = d0 at g1 hb0
  by_cases q1 : 48 ≤ d0.toInt
  · by_cases q2 : d0.toInt ≤ 57
    · have g2 : Ld p e below T (mkF m 81 #[.val (.long nn), .second, .val (.int xx), .val (.int ss), .val (.int ee), .val (.int pp), .val (.long (Int64.ofNat v)), .second, .val (.int a8), .val (.int a9), .val (.int (Int32.ofNat s')), .val (.int (Int32.ofNat e')), .val (.int (Int32.ofNat t')), .val (.int pl), .val (.int d0), .unset, .unset, .unset] []) T (mkF m 103 #[.val (.long nn), .second, .val (.int xx), .val (.int ss), .val (.int ee), .val (.int pp), .val (.long (Int64.ofNat v)), .second, .val (.int a8), .val (.int a9), .val (.int (Int32.ofNat s')), .val (.int (Int32.ofNat e')), .val (.int (Int32.ofNat t')), .val (.int pl), .val (.int ((d0 + (10 : Int32)).toUInt32.toUInt16.toUInt32.toInt32)), .unset, .unset, .unset] []) := goRun K N #[] [(81, .iload 14, 2), (83, .bipush 48, 2), (85, .if_icmp .lt 18, 3), (88, .iload 14, 2), (90, .bipush 57, 2), (92, .if_icmp .gt 11, 3), (95, .iload 14, 2), (97, .bipush 10, 2), (99, .iadd, 1), (100, .i2c, 1), (101, .istore 14, 2)] [.null, .null] (P := (¬ d0 < (48 : Int32)) ∧ (¬ (57 : Int32) < d0) ∧ True) (by decide +kernel) rfl ⟨(i_nlt q1), (i_nlt q2), trivial⟩
      have hb1 : ((d0 + (10 : Int32)).toUInt32.toUInt16.toUInt32.toInt32).toInt = d0.toInt + 10 := by
        have e : (d0 + 10).toInt = d0.toInt + 10 := by rw [Int32.toInt_add]; exact Int.bmod_eq_of_le (by show _ ≤ d0.toInt + 10; omega) (by show d0.toInt + 10 < _; omega)
        have e2 : Ch (d0 + 10) := by constructor <;> omega
        have e3 := nar_ch e2
        rw [← e]; exact congrArg Int32.toInt e3
      exact Ends.pre (g1.trans g2) (mkp hw sf K hret O0 N nn xx ss ee pp a8 a9 hv hse he ht hpl (ch_nar _) (fun q => by rw [hb1] at q; omega))
    · have g2 : Ld p e below T (mkF m 81 #[.val (.long nn), .second, .val (.int xx), .val (.int ss), .val (.int ee), .val (.int pp), .val (.long (Int64.ofNat v)), .second, .val (.int a8), .val (.int a9), .val (.int (Int32.ofNat s')), .val (.int (Int32.ofNat e')), .val (.int (Int32.ofNat t')), .val (.int pl), .val (.int d0), .unset, .unset, .unset] []) T (mkF m 103 #[.val (.long nn), .second, .val (.int xx), .val (.int ss), .val (.int ee), .val (.int pp), .val (.long (Int64.ofNat v)), .second, .val (.int a8), .val (.int a9), .val (.int (Int32.ofNat s')), .val (.int (Int32.ofNat e')), .val (.int (Int32.ofNat t')), .val (.int pl), .val (.int d0), .unset, .unset, .unset] []) := goRun K N #[] [(81, .iload 14, 2), (83, .bipush 48, 2), (85, .if_icmp .lt 18, 3), (88, .iload 14, 2), (90, .bipush 57, 2), (92, .if_icmp .gt 11, 3)] [.null, .ref 0] (P := (¬ d0 < (48 : Int32)) ∧ ((57 : Int32) < d0) ∧ True) (by decide +kernel) rfl ⟨(i_nlt q1), (i_lt (by show (57 : Int) < _; omega)), trivial⟩
      exact Ends.pre (g1.trans g2) (mkp hw sf K hret O0 N nn xx ss ee pp a8 a9 hv hse he ht hpl hb0 (fun q => q2 q.2))
  · have g2 : Ld p e below T (mkF m 81 #[.val (.long nn), .second, .val (.int xx), .val (.int ss), .val (.int ee), .val (.int pp), .val (.long (Int64.ofNat v)), .second, .val (.int a8), .val (.int a9), .val (.int (Int32.ofNat s')), .val (.int (Int32.ofNat e')), .val (.int (Int32.ofNat t')), .val (.int pl), .val (.int d0), .unset, .unset, .unset] []) T (mkF m 103 #[.val (.long nn), .second, .val (.int xx), .val (.int ss), .val (.int ee), .val (.int pp), .val (.long (Int64.ofNat v)), .second, .val (.int a8), .val (.int a9), .val (.int (Int32.ofNat s')), .val (.int (Int32.ofNat e')), .val (.int (Int32.ofNat t')), .val (.int pl), .val (.int d0), .unset, .unset, .unset] []) := goRun K N #[] [(81, .iload 14, 2), (83, .bipush 48, 2), (85, .if_icmp .lt 18, 3)] [.ref 0] (P := (d0 < (48 : Int32)) ∧ True) (by decide +kernel) rfl ⟨(i_lt (by show _ < (48 : Int); omega)), trivial⟩
    exact Ends.pre (g1.trans g2) (mkp hw sf K hret O0 N nn xx ss ee pp a8 a9 hv hse he ht hpl hb0 (fun q => q1 q.1))
set_option maxHeartbeats 4000000 in
theorem con_law (hw : ∀ d ∈ tables_1, d.before a0 Z = true) {z : Int32} {fm : Value} (sf : SF Z z fm) (nn : Int64) (xx ss ee pp : Int32) (O : Old Z n0 h) (ws : List Jvm.Cond) : Con l Z n0 x code maxLocals ret ws room_1 #[.long nn, .int xx, .int ss, .int ee, .int pp] h (fun v _ => v = some (.int 1)) := by
  refine Con.ofH (plainFor_of_name pn4) (L0 := #[.val (.long nn), .second, .val (.int xx), .val (.int ss), .val (.int ee), .val (.int pp), .unset, .unset, .unset, .unset, .unset, .unset, .unset, .unset, .unset, .unset, .unset, .unset]) (fun m => by first | (simp [entryFrame, mkF, argsToLocals, Value.category, maxLocals]; done) | rfl) ?_
  intro p e s m below meth c T K hret hnm N hs
  have K : Cx Z "com/example/headers_to_descriptors/headerstodescriptors/NumeralsWholeValuePinLaw" code maxLocals p m c := K
  have O0 : Old Z n0 s.heap := by rw [hs]; exact O
  have fin : Ends Z n0 p l e room_1 s m #[.long nn, .int xx, .int ss, .int ee, .int pp] below meth c T (mkF m 0 #[.val (.long nn), .second, .val (.int xx), .val (.int ss), .val (.int ee), .val (.int pp), .unset, .unset, .unset, .unset, .unset, .unset, .unset, .unset, .unset, .unset, .unset, .unset] []) := by
    obtain ⟨v0, hv0, ev0⟩ := j_of_nn (maskJ nn)
    have ev : (nn &&& (9223372036854775807 : Int64)) % (1000000000000000000 : Int64) = Int64.ofNat (v0 % 1000000000000000000) := by rw [ev0]; exact j_rem (b := 1000000000000000000) hv0 (by decide)
    have hv : v0 % 1000000000000000000 < 1000000000000000000 := Nat.mod_lt _ (by decide)
    generalize v0 % 1000000000000000000 = v at ev hv
    obtain ⟨q8, hq8, eq8⟩ : ∃ n : Nat, n < 19 ∧ (ss &&& (2147483647 : Int32)) % (19 : Int32) = Int32.ofNat n := n_rem (mask_nn ss) (by decide) (by decide)
    obtain ⟨q9, hq9, eq9⟩ : ∃ n : Nat, n < 19 ∧ (ee &&& (2147483647 : Int32)) % (19 : Int32) = Int32.ofNat n := n_rem (mask_nn ee) (by decide) (by decide)
    obtain ⟨t', ht', et'⟩ : ∃ n : Nat, n < 18 ∧ (pp &&& (2147483647 : Int32)) % (18 : Int32) = Int32.ofNat n := n_rem (mask_nn pp) (by decide) (by decide)
    have g1 : Ld p e below T (mkF m 0 #[.val (.long nn), .second, .val (.int xx), .val (.int ss), .val (.int ee), .val (.int pp), .unset, .unset, .unset, .unset, .unset, .unset, .unset, .unset, .unset, .unset, .unset, .unset] []) T (mkF m 34 #[.val (.long nn), .second, .val (.int xx), .val (.int ss), .val (.int ee), .val (.int pp), .val (.long ((nn &&& (9223372036854775807 : Int64)) % (1000000000000000000 : Int64))), .second, .val (.int ((ss &&& (2147483647 : Int32)) % (19 : Int32))), .val (.int ((ee &&& (2147483647 : Int32)) % (19 : Int32))), .unset, .unset, .unset, .unset, .unset, .unset, .unset, .unset] [(.int ((ee &&& (2147483647 : Int32)) % (19 : Int32))), (.int ((ss &&& (2147483647 : Int32)) % (19 : Int32)))]) := goRun K N a0 [(0, .lload_n 0, 1), (1, .ldc2_w 9, 3), (4, .land, 1), (5, .ldc2_w 11, 3), (8, .lrem, 1), (9, .lstore 6, 2), (11, .iload_n 3, 1), (12, .ldc 13, 2), (14, .iand, 1), (15, .bipush 19, 2), (17, .irem, 1), (18, .istore 8, 2), (20, .iload 4, 2), (22, .ldc 13, 2), (24, .iand, 1), (25, .bipush 19, 2), (27, .irem, 1), (28, .istore 9, 2), (30, .iload 8, 2), (32, .iload 9, 2)] [.long (9223372036854775807 : Int64), .long (1000000000000000000 : Int64), .int (2147483647 : Int32), .int (2147483647 : Int32)] (P := ((Jvm.Cond.constantLong "com/example/headers_to_descriptors/headerstodescriptors/NumeralsWholeValuePinLaw" 9 (9223372036854775807 : Int64)).before a0 Z = true) ∧ ((Jvm.Cond.constantLong "com/example/headers_to_descriptors/headerstodescriptors/NumeralsWholeValuePinLaw" 11 (1000000000000000000 : Int64)).before a0 Z = true) ∧ ((1000000000000000000 : Int64) ≠ 0) ∧ ((Jvm.Cond.constant "com/example/headers_to_descriptors/headerstodescriptors/NumeralsWholeValuePinLaw" 13 (2147483647 : Int32)).before a0 Z = true) ∧ ((19 : Int32) ≠ 0) ∧ ((Jvm.Cond.constant "com/example/headers_to_descriptors/headerstodescriptors/NumeralsWholeValuePinLaw" 13 (2147483647 : Int32)).before a0 Z = true) ∧ ((19 : Int32) ≠ 0) ∧ True) (by decide +kernel) rfl ⟨(tw hw 0 rfl), (tw hw 1 rfl), (by decide), (tw hw 2 rfl), (by decide), (tw hw 2 rfl), (by decide), trivial⟩
    rw [ev, eq8, eq9] at g1
    obtain ⟨v2, T2, _, N2, ⟨rfl, rfl⟩, g2⟩ := goS K N (tw hw 3 rfl) (tw hw 4 rfl) (tw hw 5 rfl) (tw hw 6 rfl) (con_mn q8 q9 (by omega) (by omega)) (argsL := [(.int (Int32.ofNat q8)), (.int (Int32.ofNat q9))]) (W := 0) (rest := []) (by decide) (by decide) (by decide) (by decide) (by decide) (L := #[.val (.long nn), .second, .val (.int xx), .val (.int ss), .val (.int ee), .val (.int pp), .val (.long (Int64.ofNat v)), .second, .val (.int (Int32.ofNat q8)), .val (.int (Int32.ofNat q9)), .unset, .unset, .unset, .unset, .unset, .unset, .unset, .unset]) rfl pd15 rfl (Nat.le_of_eq rfl) (pc := 34) (by decide +kernel)
    have g3 : Ld p e below T2 (mkF m 37 #[.val (.long nn), .second, .val (.int xx), .val (.int ss), .val (.int ee), .val (.int pp), .val (.long (Int64.ofNat v)), .second, .val (.int (Int32.ofNat q8)), .val (.int (Int32.ofNat q9)), .unset, .unset, .unset, .unset, .unset, .unset, .unset, .unset] [(.int (Int32.ofNat (min q8 q9)))]) T2 (mkF m 43 #[.val (.long nn), .second, .val (.int xx), .val (.int ss), .val (.int ee), .val (.int pp), .val (.long (Int64.ofNat v)), .second, .val (.int (Int32.ofNat q8)), .val (.int (Int32.ofNat q9)), .val (.int (Int32.ofNat (min q8 q9))), .unset, .unset, .unset, .unset, .unset, .unset, .unset] [(.int (Int32.ofNat q9)), (.int (Int32.ofNat q8))]) := goRun K N2 #[] [(37, .istore 10, 2), (39, .iload 8, 2), (41, .iload 9, 2)] [] (P := True) (by decide +kernel) rfl trivial
    obtain ⟨v4, T4, _, N4, ⟨rfl, rfl⟩, g4⟩ := goS K N2 (tw hw 7 rfl) (tw hw 8 rfl) (tw hw 5 rfl) (tw hw 9 rfl) (con_mx q8 q9 (by omega) (by omega)) (argsL := [(.int (Int32.ofNat q8)), (.int (Int32.ofNat q9))]) (W := 0) (rest := []) (by decide) (by decide) (by decide) (by decide) (by decide) (L := #[.val (.long nn), .second, .val (.int xx), .val (.int ss), .val (.int ee), .val (.int pp), .val (.long (Int64.ofNat v)), .second, .val (.int (Int32.ofNat q8)), .val (.int (Int32.ofNat q9)), .val (.int (Int32.ofNat (min q8 q9))), .unset, .unset, .unset, .unset, .unset, .unset, .unset]) rfl pd15 rfl (Nat.le_of_eq rfl) (pc := 43) (by decide +kernel)
    have g5 : Ld p e below T4 (mkF m 46 #[.val (.long nn), .second, .val (.int xx), .val (.int ss), .val (.int ee), .val (.int pp), .val (.long (Int64.ofNat v)), .second, .val (.int (Int32.ofNat q8)), .val (.int (Int32.ofNat q9)), .val (.int (Int32.ofNat (min q8 q9))), .unset, .unset, .unset, .unset, .unset, .unset, .unset] [(.int (Int32.ofNat (max q8 q9)))]) T4 (mkF m 64 #[.val (.long nn), .second, .val (.int xx), .val (.int ss), .val (.int ee), .val (.int pp), .val (.long (Int64.ofNat v)), .second, .val (.int (Int32.ofNat q8)), .val (.int (Int32.ofNat q9)), .val (.int (Int32.ofNat (min q8 q9))), .val (.int (Int32.ofNat (max q8 q9))), .val (.int ((pp &&& (2147483647 : Int32)) % (18 : Int32))), .unset, .unset, .unset, .unset, .unset] [(.int ((XT.ushr xx (16 : Int32)) &&& (1 : Int32)))]) := goRun K N4 a0 [(46, .istore 11, 2), (48, .iload 5, 2), (50, .ldc 13, 2), (52, .iand, 1), (53, .bipush 18, 2), (55, .irem, 1), (56, .istore 12, 2), (58, .iload_n 2, 1), (59, .bipush 16, 2), (61, .iushr, 1), (62, .iconst 1, 1), (63, .iand, 1)] [.int (2147483647 : Int32)] (P := ((Jvm.Cond.constant "com/example/headers_to_descriptors/headerstodescriptors/NumeralsWholeValuePinLaw" 13 (2147483647 : Int32)).before a0 Z = true) ∧ ((18 : Int32) ≠ 0) ∧ True) (by decide +kernel) rfl ⟨(tw hw 2 rfl), (by decide), trivial⟩
    rw [et'] at g5
    by_cases qp : (XT.ushr xx (16 : Int32)) &&& (1 : Int32) = 0
    · have g6 : Ld p e below T4 (mkF m 64 #[.val (.long nn), .second, .val (.int xx), .val (.int ss), .val (.int ee), .val (.int pp), .val (.long (Int64.ofNat v)), .second, .val (.int (Int32.ofNat q8)), .val (.int (Int32.ofNat q9)), .val (.int (Int32.ofNat (min q8 q9))), .val (.int (Int32.ofNat (max q8 q9))), .val (.int (Int32.ofNat t')), .unset, .unset, .unset, .unset, .unset] [(.int ((XT.ushr xx (16 : Int32)) &&& (1 : Int32)))]) T4 (mkF m 74 #[.val (.long nn), .second, .val (.int xx), .val (.int ss), .val (.int ee), .val (.int pp), .val (.long (Int64.ofNat v)), .second, .val (.int (Int32.ofNat q8)), .val (.int (Int32.ofNat q9)), .val (.int (Int32.ofNat (min q8 q9))), .val (.int (Int32.ofNat (max q8 q9))), .val (.int (Int32.ofNat t')), .val (.int (0 : Int32)), .unset, .unset, .unset, .unset] []) := goRun K N4 #[] [(64, .ifCond .eq 7, 3), (71, .iconst 0, 1), (72, .istore 13, 2)] [.ref 0] (P := (((XT.ushr xx (16 : Int32)) &&& (1 : Int32)) = (0 : Int32)) ∧ True) (by decide +kernel) rfl ⟨qp, trivial⟩
      exact Ends.pre (g1.trans (g2.trans (g3.trans (g4.trans (g5.trans g6))))) (badp hw sf K hret O0 N4 nn xx ss ee pp _ _ hv (by omega) (by omega) ht' (Or.inl rfl))
    · have g6 : Ld p e below T4 (mkF m 64 #[.val (.long nn), .second, .val (.int xx), .val (.int ss), .val (.int ee), .val (.int pp), .val (.long (Int64.ofNat v)), .second, .val (.int (Int32.ofNat q8)), .val (.int (Int32.ofNat q9)), .val (.int (Int32.ofNat (min q8 q9))), .val (.int (Int32.ofNat (max q8 q9))), .val (.int (Int32.ofNat t')), .unset, .unset, .unset, .unset, .unset] [(.int ((XT.ushr xx (16 : Int32)) &&& (1 : Int32)))]) T4 (mkF m 74 #[.val (.long nn), .second, .val (.int xx), .val (.int ss), .val (.int ee), .val (.int pp), .val (.long (Int64.ofNat v)), .second, .val (.int (Int32.ofNat q8)), .val (.int (Int32.ofNat q9)), .val (.int (Int32.ofNat (min q8 q9))), .val (.int (Int32.ofNat (max q8 q9))), .val (.int (Int32.ofNat t')), .val (.int (1 : Int32)), .unset, .unset, .unset, .unset] []) := goRun K N4 #[] [(64, .ifCond .eq 7, 3), (67, .iconst 1, 1), (68, .goto 4, 3), (72, .istore 13, 2)] [.null] (P := (¬ ((XT.ushr xx (16 : Int32)) &&& (1 : Int32)) = (0 : Int32)) ∧ True) (by decide +kernel) rfl ⟨qp, trivial⟩
      exact Ends.pre (g1.trans (g2.trans (g3.trans (g4.trans (g5.trans g6))))) (badp hw sf K hret O0 N4 nn xx ss ee pp _ _ hv (by omega) (by omega) ht' (Or.inr rfl))
  obtain ⟨T', g', h', k, n, a1, a2, a3, a5, a6⟩ := fin
  exact ⟨_, T', g', h', k, n, a1, a2, a3, fun q => (nomatch q), rfl, a5, a6⟩
theorem own_int {args : Array Value} {first s : State} {o : Option Outcome} {idx : List Nat} {t : Term} {k : Int32} (h : (Jvm.Cond.eq t (.int k)).value args first o s idx = some true) : t.eval args first o idx s = some (.int k) := by
  simp only [Cond.value, Term.eval] at h
  cases ht : t.eval args first o idx s with
  | none => simp [ht] at h
  | some x => cases x <;> simp [ht] at h ⊢; exact h
set_option maxRecDepth 65536 in
set_option maxHeartbeats 4000000 in
theorem comes_1 {Post : Tables → Env → Array Value → State → Outcome → State → Prop} (hpost : ∀ tb e args s v u, (limb_1_1.after args s (.returned v) u = true ∧ limb_1_2.after args s (.returned v) u = true ∧ True) → FrameEnd s (.returned v) u (Jvm.fieldLocs frame_1_writes args s ++ Jvm.arrayLocs frame_1_arrays args s ++ Jvm.staticLocs frame_1_statics s) 56 1024 → Post tb e args s (.returned v) u) :
    ArmFor flags0 classFile x code maxLocals ret World_1 tables_1 room_1 Calls_1 rest_1 Pre_1 Post := by
  intro l hfl _ _ p e ha hc hk s m args below hf hA hF happ hP
  obtain ⟨hcalls, hrest, hpre⟩ := hP
  obtain ⟨-, -, -, hnamed, -, -, -, hat⟩ := (Spec.applies_iff hf).mp happ
  obtain ⟨hg, hn⟩ := and_e (Cond.before_iff.mp (show (Jvm.Cond.and given_1 narrow_1).before args s = true from hpre))
  obtain ⟨hcnt, u0⟩ := and_e hg
  obtain ⟨k0, u1⟩ := and_e u0
  obtain ⟨k1, u2⟩ := and_e u1
  obtain ⟨k2, u3⟩ := and_e u2
  obtain ⟨k3, u4⟩ := and_e u3
  have k4 := u4
  obtain ⟨w0, w1, w2, w3, w4, rfl⟩ : ∃ w0 w1 w2 w3 w4 : Value, args = #[w0, w1, w2, w3, w4] := by
    have hs : args.size = 5 := by simpa [Cond.value, given_1] using hcnt
    obtain ⟨L⟩ := args
    match L, hs with
    | [w0, w1, w2, w3, w4], _ => exact ⟨w0, w1, w2, w3, w4, rfl⟩
  have hw := fun d (hd : d ∈ tables_1) => atoms_spec (ws := Jvm.Cond.code x code maxLocals ret :: tables_1) hat d (List.mem_cons_of_mem _ hd)
  obtain ⟨i0, ei0⟩ := isL_v k0
  obtain rfl : w0 = (.long i0) := Option.some.inj ei0
  obtain ⟨i1, ei1⟩ := is_v k1
  obtain rfl : w1 = (.int i1) := Option.some.inj ei1
  obtain ⟨i2, ei2⟩ := is_v k2
  obtain rfl : w2 = (.int i2) := Option.some.inj ei2
  obtain ⟨i3, ei3⟩ := is_v k3
  obtain rfl : w3 = (.int i3) := Option.some.inj ei3
  obtain ⟨i4, ei4⟩ := is_v k4
  obtain rfl : w4 = (.int i4) := Option.some.inj ei4
  obtain ⟨hsets, hown0⟩ := atoms_of _ (rest_1_c_eq ▸ (show rest_1_c.before _ s = true from hrest))
  have nz := not_v (Cond.before_iff.mp (hsets _ (List.mem_of_getElem? (i := 2) rfl)))
  obtain ⟨z, ez⟩ := is_v (Cond.before_iff.mp (hsets _ (List.mem_of_getElem? (i := 1) rfl)))
  have S1 : Sta s s.heap "java/lang/String" "COMPACT_STRINGS" "Z" (.int z) := Sta.start ez (Or.inl (hsets _ (List.mem_of_getElem? (i := 0) rfl)))
  have S2 : ¬ (z = (0 : Int32)) := gotF (Cond.eq_ints ez (Term.int_eval (0))) nz
  obtain ⟨fm, efm, rfm⟩ := isR_v (Cond.before_iff.mp (hsets _ (List.mem_of_getElem? (i := 8) rfl)))
  have S3 : Sta s s.heap "jdk/internal/util/Preconditions" "SIOOBE_FORMATTER" "Ljava/util/function/BiFunction;" fm := Sta.start efm (Or.inl (hsets _ (List.mem_of_getElem? (i := 7) rfl)))
  have eS5 := own_int (Cond.before_iff.mp (hsets _ (List.mem_of_getElem? (i := 12) rfl)))
  have S5 : Sta s s.heap "java/lang/StringUTF16" "$assertionsDisabled" "Z" (.int 1) := Sta.start eS5 (Or.inl (hsets _ (List.mem_of_getElem? (i := 11) rfl)))
  have eS6 := own_int (Cond.before_iff.mp (hsets _ (List.mem_of_getElem? (i := 15) rfl)))
  have S6 : Sta s s.heap "java/lang/StringUTF16" "HI_BYTE_SHIFT" "I" (.int 0) := Sta.start eS6 (Or.inl (hsets _ (List.mem_of_getElem? (i := 14) rfl)))
  have eS7 := own_int (Cond.before_iff.mp (hsets _ (List.mem_of_getElem? (i := 18) rfl)))
  have S7 : Sta s s.heap "java/lang/StringUTF16" "LO_BYTE_SHIFT" "I" (.int 8) := Sta.start eS7 (Or.inl (hsets _ (List.mem_of_getElem? (i := 17) rfl)))
  have sf : SF s z fm := ⟨S1, S2, S3, rfm, S5, S6, S7⟩
  obtain ⟨n, o, h1, h2, h3, _, L, rfl, ⟨_, N, rfl⟩, hq⟩ := (con_law (l := l) (Z := s) (n0 := s.heap.size) (h := s.heap) hw sf i0 i1 i2 i3 i4 (Old.start s) tables_1) (Nat.le_refl _) p e ha hc hk s m _ below hf ((Spec.applies_iff_loose hf).mp happ).1 ⟨rfl, State.Warmed39.refl s, rfl⟩ trivial
  refine ⟨n, _, h1, h2, h3, hpost _ _ _ _ _ _ ⟨Cond.after_iff.mpr rfl, Cond.after_iff.mpr (eq_i res_at (Term.int_eval (1)) rfl), trivial⟩ ⟨hq.1, hq.2.1, (hq.2.2.sift fun y hy => Or.inr (N y hy)).mono (by decide) (by decide)⟩⟩
theorem main_1_1 : Claimed_1_1 := comes_1 fun _ _ _ _ _ _ h hF => ⟨h.1, hF⟩
theorem main_1_2 : Claimed_1_2 := comes_1 fun _ _ _ _ _ _ h hF => ⟨h.2.1, hF⟩
end Jvm.Pilot.@@N@@
namespace Jvm.Pilot.@@N@@
open Jvm Jvm.ClassFile Sem Op Lib Jvm.Free Jvm.Stand Jvm.Pilot.@@N@@.Jvm.D
/-! MADE BY PROGRAM (witnessworld.py) out of the Statement's table words and the real class files: 23 classes; the members and pool entries that the words name. The judged class is class 1, her method 1. -/
namespace start1
open Jvm.ClassFile
def u (s : String) : CpInfo := .utf8 (stringToUtf16 s)
/-- a pool by its gaps: so many unusable entries, then the entry; so many at the end -/
def gap : Nat → List CpInfo → List CpInfo
  | 0, r => r
  | n + 1, r => .unusable :: gap n r
def poolList (es : List (Nat × CpInfo)) (last : Nat) : List CpInfo := es.foldr (fun e r => gap e.1 (e.2 :: r)) (gap last [])
def pool (es : List (Nat × CpInfo)) (last : Nat) : Array CpInfo := ⟨poolList es last⟩
def fileOf (pool : Array CpInfo) (this : Nat) (attrs : Array Attribute := #[]) (ms : Array MethodInfo := #[]) (fl : Nat := 33) (sup : Nat := 0) (ifs : Array Nat := #[]) (fds : Array FieldInfo := #[]) : ClassFile where
  minorVersion := 0
  majorVersion := 65
  constantPool := pool
  accessFlags := fl
  thisClass := this
  superClass := sup
  interfaces := ifs
  fields := fds
  methods := ms
  attributes := attrs
def plain (name : String) (sup : Option ClassId) : Class where
  name := name
  kind := .ordinary
  loader := none
  accessFlags := 33
  super := sup
  interfaces := #[]
  cf := none
  fields := #[]
  methods := #[]
  instanceTypes := #[]
  staticTypes := #[]
  resolved := #[]
  callSites := []
  init := .initialized
  statics := none
  mirror := none

def pool0 : Array CpInfo := pool [(5, u "<init>"), (0, u "()V"), (1, .class_ 10), (1, u "java/lang/Object")] 113

def k0c0 : Code := { maxStack := 0, maxLocals := 1, code := object_method_1_code, exceptionTable := #[], attributes := #[] }
def k0m0 : Method := { name := "<init>", desc := "()V", sig := { parameters := [], returnType := none }, accessFlags := 1, code := some k0c0 }
/-- java/lang/Object -/
def k0 : Class := { plain "java/lang/Object" none with
  accessFlags := 33
  interfaces := #[]
  cf := some (fileOf pool0 8 #[] #[{ accessFlags := 1, nameIndex := 5, descriptorIndex := 6, attributes := #[] }] 33 0 #[] #[])
  fields := #[]
  methods := #[k0m0]
  instanceTypes := #[]
  staticTypes := #[]
  resolved := Array.replicate 124 none
  statics := none }

def pool1 : Array CpInfo := pool [(2, .class_ 4), (1, u "java/lang/Object"), (0, u "<init>"), (0, u "()V"), (2, .long 9223372036854775807), (1, .long 1000000000000000000), (1, .integer 2147483647), (0, .methodref 15 16), (0, .class_ 17), (0, .nameAndType 18 19), (0, u "java/lang/Math"), (0, u "min"), (0, u "(II)I"), (0, .methodref 15 21), (0, .nameAndType 22 19), (0, u "max"), (0, .integer 65535), (0, .methodref 25 26), (0, .class_ 27), (0, .nameAndType 28 29), (0, u "com/example/headers_to_descriptors/headerstodescriptors/NumeralsWholeValuePinLaw"), (0, u "digit"), (0, u "(JI)C"), (0, .long 18446744073709551615), (1, .methodref 25 33), (0, .nameAndType 34 35), (0, u "pow10"), (0, u "(I)J"), (0, .class_ 37), (0, u "java/lang/String"), (0, .methodref 36 39), (0, .nameAndType 5 40), (0, u "([C)V"), (0, .methodref 42 43), (0, .class_ 44), (0, .nameAndType 45 46), (0, u "com/example/headers_to_descriptors/headerstodescriptors/Numerals"), (0, u "wholeValue"), (0, u "(Ljava/lang/CharSequence;II)J"), (0, .long 48), (1, .long 10), (1, .long 100), (1, .long 1000), (1, .long 10000), (1, .long 100000), (1, .long 1000000), (1, .long 10000000), (1, .long 100000000), (1, .long 1000000000), (1, .long 10000000000), (1, .long 100000000000), (1, .long 1000000000000), (1, .long 10000000000000), (1, .long 100000000000000), (1, .long 1000000000000000), (1, .long 10000000000000000), (1, .long 100000000000000000), (3, u "law"), (0, u "(JIIII)Z")] 5

def k1m0 : Method := { name := "<init>", desc := "()V", sig := { parameters := [], returnType := none }, accessFlags := 1, code := none }
def k1c1 : Code := { maxStack := 5, maxLocals := 18, code := code, exceptionTable := #[], attributes := #[] }
def k1m1 : Method := { name := "law", desc := "(JIIII)Z", sig := { parameters := [.long, .int, .int, .int, .int], returnType := some .boolean }, accessFlags := 9, code := some k1c1 }
def k1c2 : Code := { maxStack := 6, maxLocals := 3, code := method_3_code, exceptionTable := #[], attributes := #[] }
def k1m2 : Method := { name := "digit", desc := "(JI)C", sig := { parameters := [.long, .int], returnType := some .char }, accessFlags := 10, code := some k1c2 }
def k1c3 : Code := { maxStack := 5, maxLocals := 2, code := method_4_code, exceptionTable := #[], attributes := #[] }
def k1m3 : Method := { name := "pow10", desc := "(I)J", sig := { parameters := [.int], returnType := some .long }, accessFlags := 10, code := some k1c3 }
/-- com/example/headers_to_descriptors/headerstodescriptors/NumeralsWholeValuePinLaw -/
def k1 : Class := { plain "com/example/headers_to_descriptors/headerstodescriptors/NumeralsWholeValuePinLaw" (some 0) with
  accessFlags := 49
  interfaces := #[]
  cf := some (fileOf pool1 25 #[] #[{ accessFlags := 1, nameIndex := 5, descriptorIndex := 6, attributes := #[] }, { accessFlags := 9, nameIndex := 85, descriptorIndex := 86, attributes := #[] }, { accessFlags := 10, nameIndex := 28, descriptorIndex := 29, attributes := #[] }, { accessFlags := 10, nameIndex := 34, descriptorIndex := 35, attributes := #[] }] 49 2 #[] #[])
  fields := #[]
  methods := #[k1m0, k1m1, k1m2, k1m3]
  instanceTypes := #[]
  staticTypes := #[]
  resolved := Array.replicate 92 none
  statics := none }

def pool2 : Array CpInfo := pool [(1, .class_ 2), (0, u "java/lang/Math"), (1, .class_ 6), (1, u "java/lang/Object"), (0, u "<init>"), (0, u "()V"), (89, .class_ 100), (1, u "java/lang/Math$RandomNumberGeneratorHolder"), (71, u "negativeZeroFloatBits"), (0, u "J"), (2, u "negativeZeroDoubleBits"), (21, u "max"), (2, u "min"), (43, u "$assertionsDisabled"), (0, u "Z"), (88, u "(II)I"), (2, u "twoToTheDoubleScaleDown"), (0, u "D"), (4, u "twoToTheDoubleScaleUp"), (9, u "E"), (3, u "PI"), (2, u "TAU"), (2, u "DEGREES_TO_RADIANS"), (0, u "RADIANS_TO_DEGREES")] 94

def k2m0 : Method := { name := "<init>", desc := "()V", sig := { parameters := [], returnType := none }, accessFlags := 2, code := none }
def k2c1 : Code := { maxStack := 2, maxLocals := 2, code := jdk_29_method_65_code, exceptionTable := #[], attributes := #[] }
def k2m1 : Method := { name := "max", desc := "(II)I", sig := { parameters := [.int, .int], returnType := some .int }, accessFlags := 9, code := some k2c1 }
def k2c2 : Code := { maxStack := 2, maxLocals := 2, code := jdk_29_method_69_code, exceptionTable := #[], attributes := #[] }
def k2m2 : Method := { name := "min", desc := "(II)I", sig := { parameters := [.int, .int], returnType := some .int }, accessFlags := 9, code := some k2c2 }
/-- java/lang/Math -/
def k2 : Class := { plain "java/lang/Math" (some 0) with
  accessFlags := 49
  interfaces := #[]
  cf := some (fileOf pool2 1 #[.nestMembers #[98]] #[{ accessFlags := 2, nameIndex := 7, descriptorIndex := 8, attributes := #[] }, { accessFlags := 9, nameIndex := 198, descriptorIndex := 335, attributes := #[] }, { accessFlags := 9, nameIndex := 201, descriptorIndex := 335, attributes := #[] }] 49 4 #[] #[{ accessFlags := 25, nameIndex := 354, descriptorIndex := 339, attributes := #[] }, { accessFlags := 25, nameIndex := 358, descriptorIndex := 339, attributes := #[] }, { accessFlags := 25, nameIndex := 361, descriptorIndex := 339, attributes := #[] }, { accessFlags := 26, nameIndex := 364, descriptorIndex := 339, attributes := #[] }, { accessFlags := 26, nameIndex := 365, descriptorIndex := 339, attributes := #[] }, { accessFlags := 26, nameIndex := 172, descriptorIndex := 173, attributes := #[] }, { accessFlags := 26, nameIndex := 176, descriptorIndex := 173, attributes := #[] }, { accessFlags := 8, nameIndex := 344, descriptorIndex := 339, attributes := #[] }, { accessFlags := 8, nameIndex := 338, descriptorIndex := 339, attributes := #[] }, { accessFlags := 4120, nameIndex := 245, descriptorIndex := 246, attributes := #[] }])
  fields := #[{ name := "E", type := .double, accessFlags := 25, slot := 0, constantValue := 0 }, { name := "PI", type := .double, accessFlags := 25, slot := 1, constantValue := 0 }, { name := "TAU", type := .double, accessFlags := 25, slot := 2, constantValue := 0 }, { name := "DEGREES_TO_RADIANS", type := .double, accessFlags := 26, slot := 3, constantValue := 0 }, { name := "RADIANS_TO_DEGREES", type := .double, accessFlags := 26, slot := 4, constantValue := 0 }, { name := "negativeZeroFloatBits", type := .long, accessFlags := 26, slot := 5, constantValue := 0 }, { name := "negativeZeroDoubleBits", type := .long, accessFlags := 26, slot := 6, constantValue := 0 }, { name := "twoToTheDoubleScaleUp", type := .double, accessFlags := 8, slot := 7, constantValue := 0 }, { name := "twoToTheDoubleScaleDown", type := .double, accessFlags := 8, slot := 8, constantValue := 0 }, { name := "$assertionsDisabled", type := .boolean, accessFlags := 4120, slot := 9, constantValue := 0 }]
  methods := #[k2m0, k2m1, k2m2]
  instanceTypes := #[]
  staticTypes := #[.double, .double, .double, .double, .double, .long, .long, .double, .double, .boolean]
  resolved := Array.replicate 460 none
  statics := none }

def pool3 : Array CpInfo := pool [(1, .class_ 2), (0, u "java/io/Serializable"), (0, .class_ 4), (0, u "java/lang/Object")] 2

/-- java/io/Serializable -/
def k3 : Class := { plain "java/io/Serializable" (some 0) with
  accessFlags := 1537
  interfaces := #[]
  cf := some (fileOf pool3 1 #[] #[] 1537 3 #[] #[])
  fields := #[]
  methods := #[]
  instanceTypes := #[]
  staticTypes := #[]
  resolved := Array.replicate 7 none
  statics := none }

def pool4 : Array CpInfo := pool [(1, .class_ 2), (0, u "java/lang/Comparable"), (0, .class_ 4), (0, u "java/lang/Object")] 7

/-- java/lang/Comparable -/
def k4 : Class := { plain "java/lang/Comparable" (some 0) with
  accessFlags := 1537
  interfaces := #[]
  cf := some (fileOf pool4 1 #[] #[] 1537 3 #[] #[])
  fields := #[]
  methods := #[]
  instanceTypes := #[]
  staticTypes := #[]
  resolved := Array.replicate 12 none
  statics := none }

def pool5 : Array CpInfo := pool [(2, .class_ 4), (1, u "java/lang/CharSequence"), (40, u "charAt"), (0, u "(I)C"), (0, .class_ 48), (0, u "java/lang/CharSequence$1CodePointIterator"), (10, .class_ 60), (0, u "java/lang/CharSequence$1CharIterator"), (5, .class_ 67), (0, u "java/lang/Object")] 63

def k5m0 : Method := { name := "charAt", desc := "(I)C", sig := { parameters := [.int], returnType := some .char }, accessFlags := 1025, code := none }
/-- java/lang/CharSequence -/
def k5 : Class := { plain "java/lang/CharSequence" (some 0) with
  accessFlags := 1537
  interfaces := #[]
  cf := some (fileOf pool5 2 #[.nestMembers #[47, 59]] #[{ accessFlags := 1025, nameIndex := 45, descriptorIndex := 46, attributes := #[] }] 1537 66 #[] #[])
  fields := #[]
  methods := #[k5m0]
  instanceTypes := #[]
  staticTypes := #[]
  resolved := Array.replicate 131 none
  statics := none }

def pool6 : Array CpInfo := pool [(1, .class_ 2), (0, u "java/lang/constant/Constable"), (0, .class_ 4), (0, u "java/lang/Object")] 6

/-- java/lang/constant/Constable -/
def k6 : Class := { plain "java/lang/constant/Constable" (some 0) with
  accessFlags := 1537
  interfaces := #[]
  cf := some (fileOf pool6 1 #[] #[] 1537 3 #[] #[])
  fields := #[]
  methods := #[]
  instanceTypes := #[]
  staticTypes := #[]
  resolved := Array.replicate 11 none
  statics := none }

def pool7 : Array CpInfo := pool [(1, .class_ 2), (0, u "java/lang/constant/ConstantDesc"), (0, .class_ 4), (0, u "java/lang/Object")] 32

/-- java/lang/constant/ConstantDesc -/
def k7 : Class := { plain "java/lang/constant/ConstantDesc" (some 0) with
  accessFlags := 1537
  interfaces := #[]
  cf := some (fileOf pool7 1 #[] #[] 1537 3 #[] #[])
  fields := #[]
  methods := #[]
  instanceTypes := #[]
  staticTypes := #[]
  resolved := Array.replicate 37 none
  statics := none }

def pool8 : Array CpInfo := pool [(1, .methodref 2 3), (0, .class_ 4), (0, .nameAndType 5 6), (0, u "java/lang/Object"), (0, u "<init>"), (0, u "()V"), (2, .fieldref 10 11), (0, .class_ 12), (0, .nameAndType 13 14), (0, u "java/lang/String"), (0, u "value"), (0, u "[B"), (0, .fieldref 10 16), (0, .nameAndType 17 18), (0, u "coder"), (0, u "B"), (2, u "hash"), (0, u "I"), (2, u "hashIsZero"), (0, u "Z"), (0, .methodref 10 28), (0, .nameAndType 5 29), (0, u "([CIILjava/lang/Void;)V"), (8, .fieldref 10 39), (0, .nameAndType 40 26), (0, u "COMPACT_STRINGS"), (1, .class_ 44), (1, u "java/lang/StringUTF16"), (0, u "compress"), (1, .methodref 42 48), (0, .nameAndType 49 50), (0, u "coderFromArrayLen"), (0, u "([BI)B"), (56, .class_ 109), (1, u "java/lang/StringLatin1"), (32, u "()Z"), (34, .methodref 42 178), (0, .nameAndType 45 179), (0, u "([CII)[B"), (183, u "([BI)C"), (27, u "(II)V"), (35, u "(I)C"), (64, .methodref 10 493), (0, .nameAndType 494 142), (0, u "isLatin1"), (0, .methodref 107 496), (0, .nameAndType 497 363), (0, u "charAt"), (0, .methodref 42 496), (2, u "checkIndex"), (73, .class_ 576), (0, u "java/lang/CharSequence"), (22, u "CASE_INSENSITIVE_ORDER"), (0, u "Ljava/util/Comparator;"), (409, u "([C)V"), (42, .fieldref 1054 1055), (0, .class_ 1056), (0, .nameAndType 1057 1058), (0, u "jdk/internal/util/Preconditions"), (0, u "SIOOBE_FORMATTER"), (0, u "Ljava/util/function/BiFunction;"), (0, .methodref 1054 1060), (0, .nameAndType 501 1061), (0, u "(IILjava/util/function/BiFunction;)I"), (39, u "serialPersistentFields"), (0, u "[Ljava/io/ObjectStreamField;"), (0, .class_ 1104), (0, u "java/lang/String$CaseInsensitiveComparator"), (1, .class_ 1107), (0, u "java/io/Serializable"), (0, .class_ 1109), (0, u "java/lang/Comparable"), (0, .class_ 1111), (0, u "java/lang/constant/Constable"), (0, .class_ 1113), (0, u "java/lang/constant/ConstantDesc"), (2, u "serialVersionUID"), (0, u "J"), (3, u "REPL"), (0, u "C"), (2, u "LATIN1"), (1, u "UTF16")] 323

def k8m0 : Method := { name := "<init>", desc := "()V", sig := { parameters := [], returnType := none }, accessFlags := 1, code := none }
def k8c1 : Code := { maxStack := 5, maxLocals := 2, code := jdk_42_method_3_code, exceptionTable := #[], attributes := #[] }
def k8m1 : Method := { name := "<init>", desc := "([C)V", sig := { parameters := [(.array .char)], returnType := none }, accessFlags := 1, code := some k8c1 }
def k8c2 : Code := { maxStack := 2, maxLocals := 2, code := jdk_42_method_56_code, exceptionTable := #[], attributes := #[] }
def k8m2 : Method := { name := "charAt", desc := "(I)C", sig := { parameters := [.int], returnType := some .char }, accessFlags := 1, code := some k8c2 }
def k8c3 : Code := { maxStack := 4, maxLocals := 6, code := jdk_42_method_149_code, exceptionTable := #[], attributes := #[] }
def k8m3 : Method := { name := "<init>", desc := "([CIILjava/lang/Void;)V", sig := { parameters := [(.array .char), .int, .int, (.object "java/lang/Void")], returnType := none }, accessFlags := 2, code := some k8c3 }
def k8c4 : Code := { maxStack := 1, maxLocals := 1, code := jdk_42_method_154_code, exceptionTable := #[], attributes := #[] }
def k8m4 : Method := { name := "isLatin1", desc := "()Z", sig := { parameters := [], returnType := some .boolean }, accessFlags := 0, code := some k8c4 }
def k8c5 : Code := { maxStack := 3, maxLocals := 2, code := jdk_42_method_155_code, exceptionTable := #[], attributes := #[] }
def k8m5 : Method := { name := "checkIndex", desc := "(II)V", sig := { parameters := [.int, .int], returnType := none }, accessFlags := 8, code := some k8c5 }
/-- java/lang/String -/
def k8 : Class := { plain "java/lang/String" (some 0) with
  accessFlags := 49
  interfaces := #[3, 4, 5, 6, 7]
  cf := some (fileOf pool8 10 #[.nestMembers #[1103]] #[{ accessFlags := 1, nameIndex := 5, descriptorIndex := 6, attributes := #[] }, { accessFlags := 1, nameIndex := 5, descriptorIndex := 1010, attributes := #[] }, { accessFlags := 1, nameIndex := 497, descriptorIndex := 427, attributes := #[] }, { accessFlags := 2, nameIndex := 5, descriptorIndex := 29, attributes := #[] }, { accessFlags := 0, nameIndex := 494, descriptorIndex := 142, attributes := #[] }, { accessFlags := 8, nameIndex := 501, descriptorIndex := 391, attributes := #[] }] 49 2 #[1106, 1108, 575, 1110, 1112] #[{ accessFlags := 18, nameIndex := 13, descriptorIndex := 14, attributes := #[] }, { accessFlags := 18, nameIndex := 17, descriptorIndex := 18, attributes := #[] }, { accessFlags := 2, nameIndex := 21, descriptorIndex := 22, attributes := #[] }, { accessFlags := 2, nameIndex := 25, descriptorIndex := 26, attributes := #[] }, { accessFlags := 26, nameIndex := 1116, descriptorIndex := 1117, attributes := #[] }, { accessFlags := 24, nameIndex := 40, descriptorIndex := 26, attributes := #[] }, { accessFlags := 26, nameIndex := 1101, descriptorIndex := 1102, attributes := #[] }, { accessFlags := 26, nameIndex := 1121, descriptorIndex := 1122, attributes := #[] }, { accessFlags := 25, nameIndex := 599, descriptorIndex := 600, attributes := #[] }, { accessFlags := 24, nameIndex := 1125, descriptorIndex := 18, attributes := #[] }, { accessFlags := 24, nameIndex := 1127, descriptorIndex := 18, attributes := #[] }])
  fields := #[{ name := "value", type := (.array .byte), accessFlags := 18, slot := 0, constantValue := 0 }, { name := "coder", type := .byte, accessFlags := 18, slot := 1, constantValue := 0 }, { name := "hash", type := .int, accessFlags := 2, slot := 2, constantValue := 0 }, { name := "hashIsZero", type := .boolean, accessFlags := 2, slot := 3, constantValue := 0 }, { name := "serialVersionUID", type := .long, accessFlags := 26, slot := 0, constantValue := 0 }, { name := "COMPACT_STRINGS", type := .boolean, accessFlags := 24, slot := 1, constantValue := 0 }, { name := "serialPersistentFields", type := (.array (.object "java/io/ObjectStreamField")), accessFlags := 26, slot := 2, constantValue := 0 }, { name := "REPL", type := .char, accessFlags := 26, slot := 3, constantValue := 0 }, { name := "CASE_INSENSITIVE_ORDER", type := (.object "java/util/Comparator"), accessFlags := 25, slot := 4, constantValue := 0 }, { name := "LATIN1", type := .byte, accessFlags := 24, slot := 5, constantValue := 0 }, { name := "UTF16", type := .byte, accessFlags := 24, slot := 6, constantValue := 0 }]
  methods := #[k8m0, k8m1, k8m2, k8m3, k8m4, k8m5]
  instanceTypes := #[(.array .byte), .byte, .int, .boolean]
  staticTypes := #[.long, .boolean, (.array (.object "java/io/ObjectStreamField")), .char, (.object "java/util/Comparator"), .byte, .byte]
  resolved := Array.replicate 1451 none
  statics := some 0 }

def pool9 : Array CpInfo := pool [(3, .class_ 4), (0, u "java/lang/String"), (1, .class_ 8), (1, u "java/lang/Object"), (0, u "<init>"), (0, u "()V"), (0, .methodref 12 13), (0, .class_ 14), (0, .nameAndType 15 16), (0, u "java/lang/StringUTF16"), (0, u "newBytesLength"), (0, u "(I)I"), (3, .integer 1073741823), (23, .fieldref 12 45), (0, .nameAndType 46 47), (0, u "$assertionsDisabled"), (0, u "Z"), (0, .methodref 12 49), (0, .nameAndType 50 51), (0, u "length"), (0, u "([B)I"), (7, .fieldref 12 60), (0, .nameAndType 61 62), (0, u "HI_BYTE_SHIFT"), (0, u "I"), (0, .fieldref 12 64), (0, .nameAndType 65 62), (0, u "LO_BYTE_SHIFT"), (1, .methodref 12 68), (0, .nameAndType 69 70), (0, u "checkIndex"), (0, u "(I[B)V"), (0, .methodref 12 72), (0, .nameAndType 73 74), (0, u "getChar"), (0, u "([BI)C"), (32, .methodref 12 108), (0, .nameAndType 109 110), (0, u "newBytesFor"), (0, u "(I)[B"), (0, .methodref 12 112), (0, .nameAndType 113 114), (0, u "putChar"), (0, u "([BII)V"), (0, .methodref 12 116), (0, .nameAndType 117 118), (0, u "compress"), (0, u "([CI[BII)I"), (0, .methodref 12 120), (0, .nameAndType 121 122), (0, u "toBytes"), (0, u "([CII)[B"), (138, u "coderFromArrayLen"), (0, u "([BI)B"), (106, .class_ 371), (1, u "java/lang/StringUTF16$LinesSpliterator"), (20, u "charAt"), (21, .methodref 3 415), (0, .nameAndType 69 416), (0, u "(II)V"), (13, u "MAX_LENGTH"), (196, .class_ 628), (0, u "java/lang/StringUTF16$CodePointsSpliterator"), (0, .class_ 630), (0, u "java/lang/StringUTF16$CharsSpliterator")] 4

def k9m0 : Method := { name := "<init>", desc := "()V", sig := { parameters := [], returnType := none }, accessFlags := 0, code := none }
def k9c1 : Code := { maxStack := 1, maxLocals := 1, code := jdk_52_method_2_code, exceptionTable := #[], attributes := #[] }
def k9m1 : Method := { name := "newBytesFor", desc := "(I)[B", sig := { parameters := [.int], returnType := some (.array .byte) }, accessFlags := 9, code := some k9c1 }
def k9c2 : Code := { maxStack := 4, maxLocals := 1, code := jdk_52_method_3_code, exceptionTable := #[], attributes := #[] }
def k9m2 : Method := { name := "newBytesLength", desc := "(I)I", sig := { parameters := [.int], returnType := some .int }, accessFlags := 9, code := some k9c2 }
def k9c3 : Code := { maxStack := 4, maxLocals := 3, code := jdk_52_method_4_code, exceptionTable := #[], attributes := #[] }
def k9m3 : Method := { name := "putChar", desc := "([BII)V", sig := { parameters := [(.array .byte), .int, .int], returnType := none }, accessFlags := 8, code := some k9c3 }
def k9c4 : Code := { maxStack := 3, maxLocals := 2, code := jdk_52_method_5_code, exceptionTable := #[], attributes := #[] }
def k9m4 : Method := { name := "getChar", desc := "([BI)C", sig := { parameters := [(.array .byte), .int], returnType := some .char }, accessFlags := 8, code := some k9c4 }
def k9c5 : Code := { maxStack := 2, maxLocals := 1, code := jdk_52_method_6_code, exceptionTable := #[], attributes := #[] }
def k9m5 : Method := { name := "length", desc := "([B)I", sig := { parameters := [(.array .byte)], returnType := some .int }, accessFlags := 9, code := some k9c5 }
def k9c6 : Code := { maxStack := 4, maxLocals := 5, code := jdk_52_method_14_code, exceptionTable := #[], attributes := #[] }
def k9m6 : Method := { name := "toBytes", desc := "([CII)[B", sig := { parameters := [(.array .char), .int, .int], returnType := some (.array .byte) }, accessFlags := 9, code := some k9c6 }
def k9c7 : Code := { maxStack := 2, maxLocals := 2, code := jdk_52_method_15_code, exceptionTable := #[], attributes := #[] }
def k9m7 : Method := { name := "coderFromArrayLen", desc := "([BI)B", sig := { parameters := [(.array .byte), .int], returnType := some .byte }, accessFlags := 8, code := some k9c7 }
def k9c8 : Code := { maxStack := 5, maxLocals := 6, code := jdk_52_method_16_code, exceptionTable := #[], attributes := #[] }
def k9m8 : Method := { name := "compress", desc := "([CII)[B", sig := { parameters := [(.array .char), .int, .int], returnType := some (.array .byte) }, accessFlags := 9, code := some k9c8 }
def k9c9 : Code := { maxStack := 3, maxLocals := 7, code := jdk_52_method_21_code, exceptionTable := #[], attributes := #[] }
def k9m9 : Method := { name := "compress", desc := "([CI[BII)I", sig := { parameters := [(.array .char), .int, (.array .byte), .int, .int], returnType := some .int }, accessFlags := 9, code := some k9c9 }
def k9c10 : Code := { maxStack := 2, maxLocals := 2, code := jdk_52_method_83_code, exceptionTable := #[], attributes := #[] }
def k9m10 : Method := { name := "charAt", desc := "([BI)C", sig := { parameters := [(.array .byte), .int], returnType := some .char }, accessFlags := 9, code := some k9c10 }
def k9c11 : Code := { maxStack := 2, maxLocals := 2, code := jdk_52_method_91_code, exceptionTable := #[], attributes := #[] }
def k9m11 : Method := { name := "checkIndex", desc := "(I[B)V", sig := { parameters := [.int, (.array .byte)], returnType := none }, accessFlags := 9, code := some k9c11 }
/-- java/lang/StringUTF16 -/
def k9 : Class := { plain "java/lang/StringUTF16" (some 0) with
  accessFlags := 48
  interfaces := #[]
  cf := some (fileOf pool9 12 #[.nestMembers #[627, 629, 369]] #[{ accessFlags := 0, nameIndex := 9, descriptorIndex := 10, attributes := #[] }, { accessFlags := 9, nameIndex := 109, descriptorIndex := 110, attributes := #[] }, { accessFlags := 9, nameIndex := 15, descriptorIndex := 16, attributes := #[] }, { accessFlags := 8, nameIndex := 113, descriptorIndex := 114, attributes := #[] }, { accessFlags := 8, nameIndex := 73, descriptorIndex := 74, attributes := #[] }, { accessFlags := 9, nameIndex := 50, descriptorIndex := 51, attributes := #[] }, { accessFlags := 9, nameIndex := 121, descriptorIndex := 122, attributes := #[] }, { accessFlags := 8, nameIndex := 261, descriptorIndex := 262, attributes := #[] }, { accessFlags := 9, nameIndex := 117, descriptorIndex := 122, attributes := #[] }, { accessFlags := 9, nameIndex := 117, descriptorIndex := 118, attributes := #[] }, { accessFlags := 9, nameIndex := 392, descriptorIndex := 74, attributes := #[] }, { accessFlags := 9, nameIndex := 69, descriptorIndex := 70, attributes := #[] }] 48 6 #[] #[{ accessFlags := 26, nameIndex := 61, descriptorIndex := 62, attributes := #[] }, { accessFlags := 26, nameIndex := 65, descriptorIndex := 62, attributes := #[] }, { accessFlags := 24, nameIndex := 430, descriptorIndex := 62, attributes := #[] }, { accessFlags := 4120, nameIndex := 46, descriptorIndex := 47, attributes := #[] }])
  fields := #[{ name := "HI_BYTE_SHIFT", type := .int, accessFlags := 26, slot := 0, constantValue := 0 }, { name := "LO_BYTE_SHIFT", type := .int, accessFlags := 26, slot := 1, constantValue := 0 }, { name := "MAX_LENGTH", type := .int, accessFlags := 24, slot := 2, constantValue := 0 }, { name := "$assertionsDisabled", type := .boolean, accessFlags := 4120, slot := 3, constantValue := 0 }]
  methods := #[k9m0, k9m1, k9m2, k9m3, k9m4, k9m5, k9m6, k9m7, k9m8, k9m9, k9m10, k9m11]
  instanceTypes := #[]
  staticTypes := #[.int, .int, .int, .boolean]
  resolved := Array.replicate 635 none
  statics := some 1 }

def pool10 : Array CpInfo := pool [(2, .class_ 4), (1, u "java/lang/Object"), (0, u "<init>"), (0, u "()V"), (0, .interfaceMethodref 8 9), (0, .class_ 10), (0, .nameAndType 11 12), (0, u "java/lang/CharSequence"), (0, u "charAt"), (0, u "(I)C"), (0, .class_ 14), (0, u "com/example/headers_to_descriptors/headerstodescriptors/Numerals"), (2, u "wholeValue"), (0, u "(Ljava/lang/CharSequence;II)J"), (7, .class_ 28), (1, u "com/example/headers_to_descriptors/headerstodescriptors/Numerals$Format"), (6, .long 18446744073709551615), (32, .long 10), (40, u "I"), (9, u "POWERS_OF_FIVE"), (0, u "[J"), (34, u "FLOAT_POWERS"), (0, u "[F"), (6, u "DOUBLE_POWERS"), (0, u "[D"), (108, u "LONG_DIGITS"), (2, u "SIGNIFICANT_DIGITS"), (1, u "LARGEST_EXPONENT"), (0, u "SMALLEST_POWER"), (1, u "LARGEST_POWER"), (1, u "NAN"), (0, u "Ljava/lang/String;"), (0, u "INFINITY"), (0, u "NONE"), (0, u "J")] 15

def k10m0 : Method := { name := "<init>", desc := "()V", sig := { parameters := [], returnType := none }, accessFlags := 2, code := none }
def k10c1 : Code := { maxStack := 4, maxLocals := 7, code := prog_4_method_5_code, exceptionTable := #[], attributes := #[] }
def k10m1 : Method := { name := "wholeValue", desc := "(Ljava/lang/CharSequence;II)J", sig := { parameters := [(.object "java/lang/CharSequence"), .int, .int], returnType := some .long }, accessFlags := 8, code := some k10c1 }
/-- com/example/headers_to_descriptors/headerstodescriptors/Numerals -/
def k10 : Class := { plain "com/example/headers_to_descriptors/headerstodescriptors/Numerals" (some 0) with
  accessFlags := 32
  interfaces := #[]
  cf := some (fileOf pool10 13 #[.nestMembers #[26]] #[{ accessFlags := 2, nameIndex := 5, descriptorIndex := 6, attributes := #[] }, { accessFlags := 8, nameIndex := 17, descriptorIndex := 18, attributes := #[] }] 32 2 #[] #[{ accessFlags := 26, nameIndex := 273, descriptorIndex := 109, attributes := #[] }, { accessFlags := 26, nameIndex := 276, descriptorIndex := 109, attributes := #[] }, { accessFlags := 26, nameIndex := 278, descriptorIndex := 109, attributes := #[] }, { accessFlags := 26, nameIndex := 279, descriptorIndex := 109, attributes := #[] }, { accessFlags := 26, nameIndex := 281, descriptorIndex := 109, attributes := #[] }, { accessFlags := 26, nameIndex := 119, descriptorIndex := 120, attributes := #[] }, { accessFlags := 26, nameIndex := 163, descriptorIndex := 164, attributes := #[] }, { accessFlags := 26, nameIndex := 155, descriptorIndex := 156, attributes := #[] }, { accessFlags := 26, nameIndex := 283, descriptorIndex := 284, attributes := #[] }, { accessFlags := 26, nameIndex := 285, descriptorIndex := 284, attributes := #[] }, { accessFlags := 26, nameIndex := 286, descriptorIndex := 287, attributes := #[] }])
  fields := #[{ name := "LONG_DIGITS", type := .int, accessFlags := 26, slot := 0, constantValue := 0 }, { name := "SIGNIFICANT_DIGITS", type := .int, accessFlags := 26, slot := 1, constantValue := 0 }, { name := "LARGEST_EXPONENT", type := .int, accessFlags := 26, slot := 2, constantValue := 0 }, { name := "SMALLEST_POWER", type := .int, accessFlags := 26, slot := 3, constantValue := 0 }, { name := "LARGEST_POWER", type := .int, accessFlags := 26, slot := 4, constantValue := 0 }, { name := "POWERS_OF_FIVE", type := (.array .long), accessFlags := 26, slot := 5, constantValue := 0 }, { name := "DOUBLE_POWERS", type := (.array .double), accessFlags := 26, slot := 6, constantValue := 0 }, { name := "FLOAT_POWERS", type := (.array .float), accessFlags := 26, slot := 7, constantValue := 0 }, { name := "NAN", type := (.object "java/lang/String"), accessFlags := 26, slot := 8, constantValue := 0 }, { name := "INFINITY", type := (.object "java/lang/String"), accessFlags := 26, slot := 9, constantValue := 0 }, { name := "NONE", type := .long, accessFlags := 26, slot := 10, constantValue := 0 }]
  methods := #[k10m0, k10m1]
  instanceTypes := #[]
  staticTypes := #[.int, .int, .int, .int, .int, (.array .long), (.array .double), (.array .float), (.object "java/lang/String"), (.object "java/lang/String"), .long]
  resolved := Array.replicate 303 none
  statics := none }

def pool11 : Array CpInfo := pool [(1, .class_ 2), (0, u "java/lang/String"), (1, .class_ 6), (1, u "java/lang/Object"), (0, u "<init>"), (0, u "()V"), (0, .methodref 1 10), (0, .nameAndType 11 12), (0, u "checkIndex"), (0, u "(II)V"), (1, .class_ 16), (1, u "java/lang/StringLatin1"), (36, u "([BI)C"), (67, u "$assertionsDisabled"), (0, u "Z"), (98, .class_ 223), (1, u "java/lang/StringLatin1$LinesSpliterator"), (28, u "charAt"), (137, .class_ 391), (0, u "java/lang/StringLatin1$CharsSpliterator")] 3

def k11m0 : Method := { name := "<init>", desc := "()V", sig := { parameters := [], returnType := none }, accessFlags := 0, code := none }
def k11c1 : Code := { maxStack := 2, maxLocals := 2, code := jdk_43_method_2_code, exceptionTable := #[], attributes := #[] }
def k11m1 : Method := { name := "charAt", desc := "([BI)C", sig := { parameters := [(.array .byte), .int], returnType := some .char }, accessFlags := 9, code := some k11c1 }
/-- java/lang/StringLatin1 -/
def k11 : Class := { plain "java/lang/StringLatin1" (some 0) with
  accessFlags := 48
  interfaces := #[]
  cf := some (fileOf pool11 14 #[.nestMembers #[390, 221]] #[{ accessFlags := 0, nameIndex := 7, descriptorIndex := 8, attributes := #[] }, { accessFlags := 9, nameIndex := 252, descriptorIndex := 53, attributes := #[] }] 48 4 #[] #[{ accessFlags := 4120, nameIndex := 121, descriptorIndex := 122, attributes := #[] }])
  fields := #[{ name := "$assertionsDisabled", type := .boolean, accessFlags := 4120, slot := 0, constantValue := 0 }]
  methods := #[k11m0, k11m1]
  instanceTypes := #[]
  staticTypes := #[.boolean]
  resolved := Array.replicate 395 none
  statics := none }

def pool12 : Array CpInfo := pool [(2, .class_ 4), (1, u "java/lang/Object"), (0, u "<init>"), (0, u "()V"), (17, .class_ 26), (1, u "jdk/internal/util/Preconditions"), (6, u "checkIndex"), (21, .class_ 56), (0, u "jdk/internal/util/Preconditions$4"), (57, .class_ 115), (0, u "jdk/internal/util/Preconditions$1"), (7, u "SIOOBE_FORMATTER"), (0, u "Ljava/util/function/BiFunction;"), (0, .class_ 126), (0, u "jdk/internal/util/Preconditions$2"), (3, u "AIOOBE_FORMATTER"), (0, .class_ 132), (0, u "jdk/internal/util/Preconditions$3"), (3, u "IOOBE_FORMATTER"), (41, u "(IILjava/util/function/BiFunction;)I")] 15

def k12m0 : Method := { name := "<init>", desc := "()V", sig := { parameters := [], returnType := none }, accessFlags := 1, code := none }
def k12c1 : Code := { maxStack := 3, maxLocals := 3, code := jdk_41_method_11_code, exceptionTable := #[], attributes := #[] }
def k12m1 : Method := { name := "checkIndex", desc := "(IILjava/util/function/BiFunction;)I", sig := { parameters := [.int, .int, (.object "java/util/function/BiFunction")], returnType := some .int }, accessFlags := 9, code := some k12c1 }
/-- jdk/internal/util/Preconditions -/
def k12 : Class := { plain "jdk/internal/util/Preconditions" (some 0) with
  accessFlags := 33
  interfaces := #[]
  cf := some (fileOf pool12 24 #[.nestMembers #[55, 131, 125, 114]] #[{ accessFlags := 1, nameIndex := 5, descriptorIndex := 6, attributes := #[] }, { accessFlags := 9, nameIndex := 33, descriptorIndex := 178, attributes := #[] }] 33 2 #[] #[{ accessFlags := 25, nameIndex := 123, descriptorIndex := 124, attributes := #[] }, { accessFlags := 25, nameIndex := 130, descriptorIndex := 124, attributes := #[] }, { accessFlags := 25, nameIndex := 136, descriptorIndex := 124, attributes := #[] }])
  fields := #[{ name := "SIOOBE_FORMATTER", type := (.object "java/util/function/BiFunction"), accessFlags := 25, slot := 0, constantValue := 0 }, { name := "AIOOBE_FORMATTER", type := (.object "java/util/function/BiFunction"), accessFlags := 25, slot := 1, constantValue := 0 }, { name := "IOOBE_FORMATTER", type := (.object "java/util/function/BiFunction"), accessFlags := 25, slot := 2, constantValue := 0 }]
  methods := #[k12m0, k12m1]
  instanceTypes := #[]
  staticTypes := #[(.object "java/util/function/BiFunction"), (.object "java/util/function/BiFunction"), (.object "java/util/function/BiFunction")]
  resolved := Array.replicate 194 none
  statics := some 2 }

def pool13 : Array CpInfo := pool [(9, u "<init>"), (6, .class_ 18), (1, u "java/lang/Object"), (0, u "()V"), (1, .class_ 23), (1, u "jdk/internal/util/ArraysSupport"), (0, u "LOG2_ARRAY_LONG_INDEX_SCALE"), (0, u "I"), (2, u "U"), (0, u "Ljdk/internal/misc/Unsafe;"), (8, u "BIG_ENDIAN"), (0, u "Z"), (8, u "LOG2_BYTE_BIT_SIZE"), (4, u "LOG2_ARRAY_INT_INDEX_SCALE"), (54, u "JLA"), (0, u "Ljdk/internal/access/JavaLangAccess;"), (11, u "LOG2_ARRAY_BOOLEAN_INDEX_SCALE"), (9, u "LOG2_ARRAY_BYTE_INDEX_SCALE"), (5, u "LOG2_ARRAY_CHAR_INDEX_SCALE"), (5, u "LOG2_ARRAY_SHORT_INDEX_SCALE"), (18, u "LOG2_ARRAY_FLOAT_INDEX_SCALE"), (24, u "LOG2_ARRAY_DOUBLE_INDEX_SCALE"), (89, u "T_BOOLEAN"), (2, u "T_CHAR"), (1, u "T_FLOAT"), (1, u "T_DOUBLE"), (1, u "T_BYTE"), (1, u "T_SHORT"), (1, u "T_INT"), (1, u "T_LONG"), (1, u "SOFT_MAX_ARRAY_LENGTH")] 83

def k13m0 : Method := { name := "<init>", desc := "()V", sig := { parameters := [], returnType := none }, accessFlags := 2, code := none }
/-- jdk/internal/util/ArraysSupport -/
def k13 : Class := { plain "jdk/internal/util/ArraysSupport" (some 0) with
  accessFlags := 33
  interfaces := #[]
  cf := some (fileOf pool13 21 #[] #[{ accessFlags := 2, nameIndex := 9, descriptorIndex := 19, attributes := #[] }] 33 16 #[] #[{ accessFlags := 24, nameIndex := 28, descriptorIndex := 29, attributes := #[] }, { accessFlags := 26, nameIndex := 38, descriptorIndex := 39, attributes := #[] }, { accessFlags := 25, nameIndex := 121, descriptorIndex := 25, attributes := #[] }, { accessFlags := 25, nameIndex := 131, descriptorIndex := 25, attributes := #[] }, { accessFlags := 25, nameIndex := 137, descriptorIndex := 25, attributes := #[] }, { accessFlags := 25, nameIndex := 143, descriptorIndex := 25, attributes := #[] }, { accessFlags := 25, nameIndex := 53, descriptorIndex := 25, attributes := #[] }, { accessFlags := 25, nameIndex := 24, descriptorIndex := 25, attributes := #[] }, { accessFlags := 25, nameIndex := 162, descriptorIndex := 25, attributes := #[] }, { accessFlags := 25, nameIndex := 187, descriptorIndex := 25, attributes := #[] }, { accessFlags := 26, nameIndex := 48, descriptorIndex := 25, attributes := #[] }, { accessFlags := 25, nameIndex := 277, descriptorIndex := 25, attributes := #[] }, { accessFlags := 25, nameIndex := 280, descriptorIndex := 25, attributes := #[] }, { accessFlags := 25, nameIndex := 282, descriptorIndex := 25, attributes := #[] }, { accessFlags := 25, nameIndex := 284, descriptorIndex := 25, attributes := #[] }, { accessFlags := 25, nameIndex := 286, descriptorIndex := 25, attributes := #[] }, { accessFlags := 25, nameIndex := 288, descriptorIndex := 25, attributes := #[] }, { accessFlags := 25, nameIndex := 290, descriptorIndex := 25, attributes := #[] }, { accessFlags := 25, nameIndex := 292, descriptorIndex := 25, attributes := #[] }, { accessFlags := 26, nameIndex := 108, descriptorIndex := 109, attributes := #[] }, { accessFlags := 25, nameIndex := 294, descriptorIndex := 25, attributes := #[] }])
  fields := #[{ name := "U", type := (.object "jdk/internal/misc/Unsafe"), accessFlags := 24, slot := 0, constantValue := 0 }, { name := "BIG_ENDIAN", type := .boolean, accessFlags := 26, slot := 1, constantValue := 0 }, { name := "LOG2_ARRAY_BOOLEAN_INDEX_SCALE", type := .int, accessFlags := 25, slot := 2, constantValue := 0 }, { name := "LOG2_ARRAY_BYTE_INDEX_SCALE", type := .int, accessFlags := 25, slot := 3, constantValue := 0 }, { name := "LOG2_ARRAY_CHAR_INDEX_SCALE", type := .int, accessFlags := 25, slot := 4, constantValue := 0 }, { name := "LOG2_ARRAY_SHORT_INDEX_SCALE", type := .int, accessFlags := 25, slot := 5, constantValue := 0 }, { name := "LOG2_ARRAY_INT_INDEX_SCALE", type := .int, accessFlags := 25, slot := 6, constantValue := 0 }, { name := "LOG2_ARRAY_LONG_INDEX_SCALE", type := .int, accessFlags := 25, slot := 7, constantValue := 0 }, { name := "LOG2_ARRAY_FLOAT_INDEX_SCALE", type := .int, accessFlags := 25, slot := 8, constantValue := 0 }, { name := "LOG2_ARRAY_DOUBLE_INDEX_SCALE", type := .int, accessFlags := 25, slot := 9, constantValue := 0 }, { name := "LOG2_BYTE_BIT_SIZE", type := .int, accessFlags := 26, slot := 10, constantValue := 0 }, { name := "T_BOOLEAN", type := .int, accessFlags := 25, slot := 11, constantValue := 0 }, { name := "T_CHAR", type := .int, accessFlags := 25, slot := 12, constantValue := 0 }, { name := "T_FLOAT", type := .int, accessFlags := 25, slot := 13, constantValue := 0 }, { name := "T_DOUBLE", type := .int, accessFlags := 25, slot := 14, constantValue := 0 }, { name := "T_BYTE", type := .int, accessFlags := 25, slot := 15, constantValue := 0 }, { name := "T_SHORT", type := .int, accessFlags := 25, slot := 16, constantValue := 0 }, { name := "T_INT", type := .int, accessFlags := 25, slot := 17, constantValue := 0 }, { name := "T_LONG", type := .int, accessFlags := 25, slot := 18, constantValue := 0 }, { name := "JLA", type := (.object "jdk/internal/access/JavaLangAccess"), accessFlags := 26, slot := 19, constantValue := 0 }, { name := "SOFT_MAX_ARRAY_LENGTH", type := .int, accessFlags := 25, slot := 20, constantValue := 0 }]
  methods := #[k13m0]
  instanceTypes := #[]
  staticTypes := #[(.object "jdk/internal/misc/Unsafe"), .boolean, .int, .int, .int, .int, .int, .int, .int, .int, .int, .int, .int, .int, .int, .int, .int, .int, .int, (.object "jdk/internal/access/JavaLangAccess"), .int]
  resolved := Array.replicate 378 none
  statics := none }

def pool14 : Array CpInfo := pool [(1, u "java/lang/Cloneable"), (0, .class_ 1), (0, u "java/lang/Object"), (0, .class_ 3)] 3

/-- java/lang/Cloneable -/
def k14 : Class := { plain "java/lang/Cloneable" (some 0) with
  accessFlags := 1537
  interfaces := #[]
  cf := some (fileOf pool14 2 #[] #[] 1537 4 #[] #[])
  fields := #[]
  methods := #[]
  instanceTypes := #[]
  staticTypes := #[]
  resolved := Array.replicate 8 none
  statics := none }

/-- the primitive byte -/
def k15 : Class := { plain "byte" none with kind := .primitive 'B', accessFlags := 0x411 }
/-- [B -/
def k16 : Class := { plain "[B" (some 0) with kind := .array 15 .byte, interfaces := #[14, 3], accessFlags := 1041 }

/-- the primitive char -/
def k17 : Class := { plain "char" none with kind := .primitive 'C', accessFlags := 0x411 }
/-- [C -/
def k18 : Class := { plain "[C" (some 0) with kind := .array 17 .char, interfaces := #[14, 3], accessFlags := 1041 }

/-- the primitive int -/
def k19 : Class := { plain "int" none with kind := .primitive 'I', accessFlags := 0x411 }
/-- [I -/
def k20 : Class := { plain "[I" (some 0) with kind := .array 19 .int, interfaces := #[14, 3], accessFlags := 1041 }

/-- the primitive long -/
def k21 : Class := { plain "long" none with kind := .primitive 'J', accessFlags := 0x411 }
/-- [J -/
def k22 : Class := { plain "[J" (some 0) with kind := .array 21 .long, interfaces := #[14, 3], accessFlags := 1041 }

def heap : Heap := #[{ cls := 8, slots := #[.long 0, .int 1, .null, .int 0, .null, .int 0, .int 0], vm := .statics 8 },
  { cls := 9, slots := #[.int 0, .int 8, .int 0, .int 1], vm := .statics 9 },
  { cls := 12, slots := #[.null, .null, .null], vm := .statics 12 }]
def classes : Array Class := #[k0, k1, k2, k3, k4, k5, k6, k7, k8, k9, k10, k11, k12, k13, k14, k15, k16, k17, k18, k19, k20, k21, k22]
def interned : List (Array UInt16 × Addr) := []
def slotsUsed : Nat := 14
def theMethod : MethodId := ⟨1, 1⟩
def args0 : Array Value := #[.long 5, .int 6, .int 7, .int 8, .int 3]
def aboutOver (below : List Frame) : State where
  vm := { classes := classes, interned := interned.toArray }
  heap := heap
  slotsUsed := slotsUsed
  threads := #[{ frames := .invoking theMethod args0 :: below }]
def below0 : List Frame := [.native { method := ⟨0, 0⟩, args := #[] }]
def about1 : State := aboutOver below0
def p0 : Program := .bare "" "" ""
def e0 : Env := launch0.env 0 0 0
theorem w_frames : about1.frames = Frame.invoking theMethod args0 :: below0 := rfl
set_option maxRecDepth 65536 in
theorem w_args : argsFit about1.vm theMethod args0 = true := by decide +kernel
set_option maxRecDepth 65536 in
theorem w_heap : heapFits about1 = true := by decide +kernel
set_option maxRecDepth 65536 in
theorem w_runnable : about1.curStatus? = some .runnable := by decide +kernel
set_option maxRecDepth 65536 in
theorem w_alone : about1.alone = true := by decide +kernel
set_option maxRecDepth 65536 in
theorem w_named : about1.methodNamed? x = some theMethod := by decide +kernel
set_option maxRecDepth 65536 in
theorem w_hears : about1.hears theMethod below0 = true := by decide +kernel
set_option maxRecDepth 65536 in
theorem w_ripe : about1.ripe theMethod args0 below0 = true := by decide +kernel
theorem w_running : about1.status = .running := rfl
set_option maxRecDepth 65536 in
theorem w_room : about1.hasRoom e0.platform room_1 = true :=
  launch0.hasRoom_least _ room_1 (by decide +kernel) (by decide +kernel) (by decide +kernel) (by decide +kernel) (by decide +kernel) (by decide +kernel)
theorem allAtoms_all (ts : List Jvm.Cond) (a : Array Jvm.Value) (st : Jvm.State) : (allAtoms ts).before a st = ts.all (fun c => c.before a st) := by
  induction ts with
  | nil => rfl
  | cons c t ih =>
    show (Jvm.Cond.and c (allAtoms t)).before a st = _
    rw [Jvm.Cond.before_and, ih, List.all_cons]
def words1 : List Jvm.Cond := Jvm.Cond.code x code maxLocals ret :: tables_1
/-- a 'code' word, met by the world's own term for the bytes: nothing is compared byte by byte -/
theorem code_word {y : MethodName} {bytes : ByteArray} {mx : Nat} {rt : Option FieldType} {a : Array Value} {s : State} {m : MethodId} {meth : Method} {c : Code} (h1 : s.methodNamed? y = some m) (h2 : s.vm.method? m = some meth) (h3 : meth.code = some c) (h4 : c.code = bytes)
    (h5 : (c.maxLocals == mx && c.exceptionTable.isEmpty && decide (c.maxStack ≤ mostOperands) && decide (meth.sig.returnType = rt) && !meth.locks && decide (parseMethodDescriptor y.desc = some meth.sig)) = true) : (Jvm.Cond.code y bytes mx rt).before a s = true := by
  simp only [Bool.and_eq_true, beq_iff_eq, Bool.not_eq_true', decide_eq_true_eq] at h5
  obtain ⟨⟨⟨⟨⟨g1, g2⟩, g3⟩, g4⟩, g5⟩, g6⟩ := h5
  simp [Cond.before, Cond.holds, Cond.value, h1, h2, h3, h4, g1, g2, g3, g4, g5, g6]
def isCode : Jvm.Cond → Bool
  | .code _ _ _ _ => true
  | _ => false
theorem all_split {L : List Jvm.Cond} {P : Jvm.Cond → Bool} (h1 : L.all (fun c => isCode c || P c) = true) (h2 : ∀ c ∈ L.filter isCode, P c = true) : L.all P = true := by
  refine List.all_eq_true.mpr fun c hc => ?_
  have h := List.all_eq_true.mp h1 c hc
  rcases Bool.eq_false_or_eq_true (isCode c) with hi | hi
  · exact h2 c (List.mem_filter.mpr ⟨hc, hi⟩)
  · simpa [hi] using h
set_option maxRecDepth 65536 in
theorem w_c0 : (Jvm.Cond.code x code maxLocals ret).before args0 about1 = true := code_word (m := ⟨1, 1⟩) (meth := k1m1) (c := k1c1) (by decide +kernel) rfl rfl rfl (by decide +kernel)
set_option maxRecDepth 65536 in
theorem w_c1 : (Jvm.Cond.code ({ cls := "java/lang/Math", name := "min", desc := "(II)I" } : Jvm.MethodName) jdk_29_method_69_code (2 : Nat) (Option.some Jvm.ClassFile.FieldType.int)).before args0 about1 = true := code_word (m := ⟨2, 2⟩) (meth := k2m2) (c := k2c2) (by decide +kernel) rfl rfl rfl (by decide +kernel)
set_option maxRecDepth 65536 in
theorem w_c2 : (Jvm.Cond.code ({ cls := "java/lang/Math", name := "max", desc := "(II)I" } : Jvm.MethodName) jdk_29_method_65_code (2 : Nat) (Option.some Jvm.ClassFile.FieldType.int)).before args0 about1 = true := code_word (m := ⟨2, 1⟩) (meth := k2m1) (c := k2c1) (by decide +kernel) rfl rfl rfl (by decide +kernel)
set_option maxRecDepth 65536 in
theorem w_c3 : (Jvm.Cond.code ({ cls := "com/example/headers_to_descriptors/headerstodescriptors/NumeralsWholeValuePinLaw", name := "digit", desc := "(JI)C" } : Jvm.MethodName) method_3_code (3 : Nat) (Option.some Jvm.ClassFile.FieldType.char)).before args0 about1 = true := code_word (m := ⟨1, 2⟩) (meth := k1m2) (c := k1c2) (by decide +kernel) rfl rfl rfl (by decide +kernel)
set_option maxRecDepth 65536 in
theorem w_c4 : (Jvm.Cond.code ({ cls := "com/example/headers_to_descriptors/headerstodescriptors/NumeralsWholeValuePinLaw", name := "pow10", desc := "(I)J" } : Jvm.MethodName) method_4_code (2 : Nat) (Option.some Jvm.ClassFile.FieldType.long)).before args0 about1 = true := code_word (m := ⟨1, 3⟩) (meth := k1m3) (c := k1c3) (by decide +kernel) rfl rfl rfl (by decide +kernel)
set_option maxRecDepth 65536 in
theorem w_c5 : (Jvm.Cond.code ({ cls := "java/lang/String", name := "<init>", desc := "([C)V" } : Jvm.MethodName) jdk_42_method_3_code (2 : Nat) (Option.none : Option Jvm.ClassFile.FieldType)).before args0 about1 = true := code_word (m := ⟨8, 1⟩) (meth := k8m1) (c := k8c1) (by decide +kernel) rfl rfl rfl (by decide +kernel)
set_option maxRecDepth 65536 in
theorem w_c6 : (Jvm.Cond.code ({ cls := "java/lang/String", name := "<init>", desc := "([CIILjava/lang/Void;)V" } : Jvm.MethodName) jdk_42_method_149_code (6 : Nat) (Option.none : Option Jvm.ClassFile.FieldType)).before args0 about1 = true := code_word (m := ⟨8, 3⟩) (meth := k8m3) (c := k8c3) (by decide +kernel) rfl rfl rfl (by decide +kernel)
set_option maxRecDepth 65536 in
theorem w_c7 : (Jvm.Cond.code ({ cls := "java/lang/Object", name := "<init>", desc := "()V" } : Jvm.MethodName) object_method_1_code (1 : Nat) (Option.none : Option Jvm.ClassFile.FieldType)).before args0 about1 = true := code_word (m := ⟨0, 0⟩) (meth := k0m0) (c := k0c0) (by decide +kernel) rfl rfl rfl (by decide +kernel)
set_option maxRecDepth 65536 in
theorem w_c8 : (Jvm.Cond.code ({ cls := "java/lang/StringUTF16", name := "compress", desc := "([CII)[B" } : Jvm.MethodName) jdk_52_method_16_code (6 : Nat) (Option.some (Jvm.ClassFile.FieldType.array Jvm.ClassFile.FieldType.byte))).before args0 about1 = true := code_word (m := ⟨9, 8⟩) (meth := k9m8) (c := k9c8) (by decide +kernel) rfl rfl rfl (by decide +kernel)
set_option maxRecDepth 65536 in
theorem w_c9 : (Jvm.Cond.code ({ cls := "java/lang/StringUTF16", name := "compress", desc := "([CI[BII)I" } : Jvm.MethodName) jdk_52_method_21_code (7 : Nat) (Option.some Jvm.ClassFile.FieldType.int)).before args0 about1 = true := code_word (m := ⟨9, 9⟩) (meth := k9m9) (c := k9c9) (by decide +kernel) rfl rfl rfl (by decide +kernel)
set_option maxRecDepth 65536 in
theorem w_c10 : (Jvm.Cond.code ({ cls := "java/lang/StringUTF16", name := "coderFromArrayLen", desc := "([BI)B" } : Jvm.MethodName) jdk_52_method_15_code (2 : Nat) (Option.some Jvm.ClassFile.FieldType.byte)).before args0 about1 = true := code_word (m := ⟨9, 7⟩) (meth := k9m7) (c := k9c7) (by decide +kernel) rfl rfl rfl (by decide +kernel)
set_option maxRecDepth 65536 in
theorem w_c11 : (Jvm.Cond.code ({ cls := "com/example/headers_to_descriptors/headerstodescriptors/Numerals", name := "wholeValue", desc := "(Ljava/lang/CharSequence;II)J" } : Jvm.MethodName) prog_4_method_5_code (7 : Nat) (Option.some Jvm.ClassFile.FieldType.long)).before args0 about1 = true := code_word (m := ⟨10, 1⟩) (meth := k10m1) (c := k10c1) (by decide +kernel) rfl rfl rfl (by decide +kernel)
set_option maxRecDepth 65536 in
theorem w_c12 : (Jvm.Cond.code ({ cls := "java/lang/String", name := "charAt", desc := "(I)C" } : Jvm.MethodName) jdk_42_method_56_code (2 : Nat) (Option.some Jvm.ClassFile.FieldType.char)).before args0 about1 = true := code_word (m := ⟨8, 2⟩) (meth := k8m2) (c := k8c2) (by decide +kernel) rfl rfl rfl (by decide +kernel)
set_option maxRecDepth 65536 in
theorem w_c13 : (Jvm.Cond.code ({ cls := "java/lang/String", name := "isLatin1", desc := "()Z" } : Jvm.MethodName) jdk_42_method_154_code (1 : Nat) (Option.some Jvm.ClassFile.FieldType.boolean)).before args0 about1 = true := code_word (m := ⟨8, 4⟩) (meth := k8m4) (c := k8c4) (by decide +kernel) rfl rfl rfl (by decide +kernel)
set_option maxRecDepth 65536 in
theorem w_c14 : (Jvm.Cond.code ({ cls := "java/lang/StringLatin1", name := "charAt", desc := "([BI)C" } : Jvm.MethodName) jdk_43_method_2_code (2 : Nat) (Option.some Jvm.ClassFile.FieldType.char)).before args0 about1 = true := code_word (m := ⟨11, 1⟩) (meth := k11m1) (c := k11c1) (by decide +kernel) rfl rfl rfl (by decide +kernel)
set_option maxRecDepth 65536 in
theorem w_c15 : (Jvm.Cond.code ({ cls := "java/lang/String", name := "checkIndex", desc := "(II)V" } : Jvm.MethodName) jdk_42_method_155_code (2 : Nat) (Option.none : Option Jvm.ClassFile.FieldType)).before args0 about1 = true := code_word (m := ⟨8, 5⟩) (meth := k8m5) (c := k8c5) (by decide +kernel) rfl rfl rfl (by decide +kernel)
set_option maxRecDepth 65536 in
theorem w_c16 : (Jvm.Cond.code ({ cls := "jdk/internal/util/Preconditions", name := "checkIndex", desc := "(IILjava/util/function/BiFunction;)I" } : Jvm.MethodName) jdk_41_method_11_code (3 : Nat) (Option.some Jvm.ClassFile.FieldType.int)).before args0 about1 = true := code_word (m := ⟨12, 1⟩) (meth := k12m1) (c := k12c1) (by decide +kernel) rfl rfl rfl (by decide +kernel)
set_option maxRecDepth 65536 in
theorem w_c17 : (Jvm.Cond.code ({ cls := "java/lang/StringUTF16", name := "toBytes", desc := "([CII)[B" } : Jvm.MethodName) jdk_52_method_14_code (5 : Nat) (Option.some (Jvm.ClassFile.FieldType.array Jvm.ClassFile.FieldType.byte))).before args0 about1 = true := code_word (m := ⟨9, 6⟩) (meth := k9m6) (c := k9c6) (by decide +kernel) rfl rfl rfl (by decide +kernel)
set_option maxRecDepth 65536 in
theorem w_c18 : (Jvm.Cond.code ({ cls := "java/lang/StringUTF16", name := "newBytesFor", desc := "(I)[B" } : Jvm.MethodName) jdk_52_method_2_code (1 : Nat) (Option.some (Jvm.ClassFile.FieldType.array Jvm.ClassFile.FieldType.byte))).before args0 about1 = true := code_word (m := ⟨9, 1⟩) (meth := k9m1) (c := k9c1) (by decide +kernel) rfl rfl rfl (by decide +kernel)
set_option maxRecDepth 65536 in
theorem w_c19 : (Jvm.Cond.code ({ cls := "java/lang/StringUTF16", name := "newBytesLength", desc := "(I)I" } : Jvm.MethodName) jdk_52_method_3_code (1 : Nat) (Option.some Jvm.ClassFile.FieldType.int)).before args0 about1 = true := code_word (m := ⟨9, 2⟩) (meth := k9m2) (c := k9c2) (by decide +kernel) rfl rfl rfl (by decide +kernel)
set_option maxRecDepth 65536 in
theorem w_c20 : (Jvm.Cond.code ({ cls := "java/lang/StringUTF16", name := "putChar", desc := "([BII)V" } : Jvm.MethodName) jdk_52_method_4_code (3 : Nat) (Option.none : Option Jvm.ClassFile.FieldType)).before args0 about1 = true := code_word (m := ⟨9, 3⟩) (meth := k9m3) (c := k9c3) (by decide +kernel) rfl rfl rfl (by decide +kernel)
set_option maxRecDepth 65536 in
theorem w_c21 : (Jvm.Cond.code ({ cls := "java/lang/StringUTF16", name := "getChar", desc := "([BI)C" } : Jvm.MethodName) jdk_52_method_5_code (2 : Nat) (Option.some Jvm.ClassFile.FieldType.char)).before args0 about1 = true := code_word (m := ⟨9, 4⟩) (meth := k9m4) (c := k9c4) (by decide +kernel) rfl rfl rfl (by decide +kernel)
set_option maxRecDepth 65536 in
theorem w_c22 : (Jvm.Cond.code ({ cls := "java/lang/StringUTF16", name := "charAt", desc := "([BI)C" } : Jvm.MethodName) jdk_52_method_83_code (2 : Nat) (Option.some Jvm.ClassFile.FieldType.char)).before args0 about1 = true := code_word (m := ⟨9, 10⟩) (meth := k9m10) (c := k9c10) (by decide +kernel) rfl rfl rfl (by decide +kernel)
set_option maxRecDepth 65536 in
theorem w_c23 : (Jvm.Cond.code ({ cls := "java/lang/StringUTF16", name := "checkIndex", desc := "(I[B)V" } : Jvm.MethodName) jdk_52_method_91_code (2 : Nat) (Option.none : Option Jvm.ClassFile.FieldType)).before args0 about1 = true := code_word (m := ⟨9, 11⟩) (meth := k9m11) (c := k9c11) (by decide +kernel) rfl rfl rfl (by decide +kernel)
set_option maxRecDepth 65536 in
theorem w_c24 : (Jvm.Cond.code ({ cls := "java/lang/StringUTF16", name := "length", desc := "([B)I" } : Jvm.MethodName) jdk_52_method_6_code (1 : Nat) (Option.some Jvm.ClassFile.FieldType.int)).before args0 about1 = true := code_word (m := ⟨9, 5⟩) (meth := k9m5) (c := k9c5) (by decide +kernel) rfl rfl rfl (by decide +kernel)
def codes1 : List Jvm.Cond := [Jvm.Cond.code x code maxLocals ret, Jvm.Cond.code ({ cls := "java/lang/Math", name := "min", desc := "(II)I" } : Jvm.MethodName) jdk_29_method_69_code (2 : Nat) (Option.some Jvm.ClassFile.FieldType.int), Jvm.Cond.code ({ cls := "java/lang/Math", name := "max", desc := "(II)I" } : Jvm.MethodName) jdk_29_method_65_code (2 : Nat) (Option.some Jvm.ClassFile.FieldType.int), Jvm.Cond.code ({ cls := "com/example/headers_to_descriptors/headerstodescriptors/NumeralsWholeValuePinLaw", name := "digit", desc := "(JI)C" } : Jvm.MethodName) method_3_code (3 : Nat) (Option.some Jvm.ClassFile.FieldType.char), Jvm.Cond.code ({ cls := "com/example/headers_to_descriptors/headerstodescriptors/NumeralsWholeValuePinLaw", name := "pow10", desc := "(I)J" } : Jvm.MethodName) method_4_code (2 : Nat) (Option.some Jvm.ClassFile.FieldType.long), Jvm.Cond.code ({ cls := "java/lang/String", name := "<init>", desc := "([C)V" } : Jvm.MethodName) jdk_42_method_3_code (2 : Nat) (Option.none : Option Jvm.ClassFile.FieldType), Jvm.Cond.code ({ cls := "java/lang/String", name := "<init>", desc := "([CIILjava/lang/Void;)V" } : Jvm.MethodName) jdk_42_method_149_code (6 : Nat) (Option.none : Option Jvm.ClassFile.FieldType), Jvm.Cond.code ({ cls := "java/lang/Object", name := "<init>", desc := "()V" } : Jvm.MethodName) object_method_1_code (1 : Nat) (Option.none : Option Jvm.ClassFile.FieldType), Jvm.Cond.code ({ cls := "java/lang/StringUTF16", name := "compress", desc := "([CII)[B" } : Jvm.MethodName) jdk_52_method_16_code (6 : Nat) (Option.some (Jvm.ClassFile.FieldType.array Jvm.ClassFile.FieldType.byte)), Jvm.Cond.code ({ cls := "java/lang/StringUTF16", name := "compress", desc := "([CI[BII)I" } : Jvm.MethodName) jdk_52_method_21_code (7 : Nat) (Option.some Jvm.ClassFile.FieldType.int), Jvm.Cond.code ({ cls := "java/lang/StringUTF16", name := "coderFromArrayLen", desc := "([BI)B" } : Jvm.MethodName) jdk_52_method_15_code (2 : Nat) (Option.some Jvm.ClassFile.FieldType.byte), Jvm.Cond.code ({ cls := "com/example/headers_to_descriptors/headerstodescriptors/Numerals", name := "wholeValue", desc := "(Ljava/lang/CharSequence;II)J" } : Jvm.MethodName) prog_4_method_5_code (7 : Nat) (Option.some Jvm.ClassFile.FieldType.long), Jvm.Cond.code ({ cls := "java/lang/String", name := "charAt", desc := "(I)C" } : Jvm.MethodName) jdk_42_method_56_code (2 : Nat) (Option.some Jvm.ClassFile.FieldType.char), Jvm.Cond.code ({ cls := "java/lang/String", name := "isLatin1", desc := "()Z" } : Jvm.MethodName) jdk_42_method_154_code (1 : Nat) (Option.some Jvm.ClassFile.FieldType.boolean), Jvm.Cond.code ({ cls := "java/lang/StringLatin1", name := "charAt", desc := "([BI)C" } : Jvm.MethodName) jdk_43_method_2_code (2 : Nat) (Option.some Jvm.ClassFile.FieldType.char), Jvm.Cond.code ({ cls := "java/lang/String", name := "checkIndex", desc := "(II)V" } : Jvm.MethodName) jdk_42_method_155_code (2 : Nat) (Option.none : Option Jvm.ClassFile.FieldType), Jvm.Cond.code ({ cls := "jdk/internal/util/Preconditions", name := "checkIndex", desc := "(IILjava/util/function/BiFunction;)I" } : Jvm.MethodName) jdk_41_method_11_code (3 : Nat) (Option.some Jvm.ClassFile.FieldType.int), Jvm.Cond.code ({ cls := "java/lang/StringUTF16", name := "toBytes", desc := "([CII)[B" } : Jvm.MethodName) jdk_52_method_14_code (5 : Nat) (Option.some (Jvm.ClassFile.FieldType.array Jvm.ClassFile.FieldType.byte)), Jvm.Cond.code ({ cls := "java/lang/StringUTF16", name := "newBytesFor", desc := "(I)[B" } : Jvm.MethodName) jdk_52_method_2_code (1 : Nat) (Option.some (Jvm.ClassFile.FieldType.array Jvm.ClassFile.FieldType.byte)), Jvm.Cond.code ({ cls := "java/lang/StringUTF16", name := "newBytesLength", desc := "(I)I" } : Jvm.MethodName) jdk_52_method_3_code (1 : Nat) (Option.some Jvm.ClassFile.FieldType.int), Jvm.Cond.code ({ cls := "java/lang/StringUTF16", name := "putChar", desc := "([BII)V" } : Jvm.MethodName) jdk_52_method_4_code (3 : Nat) (Option.none : Option Jvm.ClassFile.FieldType), Jvm.Cond.code ({ cls := "java/lang/StringUTF16", name := "getChar", desc := "([BI)C" } : Jvm.MethodName) jdk_52_method_5_code (2 : Nat) (Option.some Jvm.ClassFile.FieldType.char), Jvm.Cond.code ({ cls := "java/lang/StringUTF16", name := "charAt", desc := "([BI)C" } : Jvm.MethodName) jdk_52_method_83_code (2 : Nat) (Option.some Jvm.ClassFile.FieldType.char), Jvm.Cond.code ({ cls := "java/lang/StringUTF16", name := "checkIndex", desc := "(I[B)V" } : Jvm.MethodName) jdk_52_method_91_code (2 : Nat) (Option.none : Option Jvm.ClassFile.FieldType), Jvm.Cond.code ({ cls := "java/lang/StringUTF16", name := "length", desc := "([B)I" } : Jvm.MethodName) jdk_52_method_6_code (1 : Nat) (Option.some Jvm.ClassFile.FieldType.int)]
set_option maxRecDepth 65536 in
theorem codes_eq : words1.filter isCode = codes1 := rfl
theorem w_codes : ∀ c ∈ words1.filter isCode, c.before args0 about1 = true := by
  rw [codes_eq]
  intro c hc
  simp only [codes1, List.mem_cons, List.not_mem_nil, or_false] at hc
  rcases hc with rfl | rfl | rfl | rfl | rfl | rfl | rfl | rfl | rfl | rfl | rfl | rfl | rfl | rfl | rfl | rfl | rfl | rfl | rfl | rfl | rfl | rfl | rfl | rfl | rfl
  · exact w_c0
  · exact w_c1
  · exact w_c2
  · exact w_c3
  · exact w_c4
  · exact w_c5
  · exact w_c6
  · exact w_c7
  · exact w_c8
  · exact w_c9
  · exact w_c10
  · exact w_c11
  · exact w_c12
  · exact w_c13
  · exact w_c14
  · exact w_c15
  · exact w_c16
  · exact w_c17
  · exact w_c18
  · exact w_c19
  · exact w_c20
  · exact w_c21
  · exact w_c22
  · exact w_c23
  · exact w_c24
set_option maxRecDepth 65536 in
theorem w_t1 : (words1.take 24).all (fun c => isCode c || c.before args0 about1) = true := by decide +kernel
set_option maxRecDepth 65536 in
theorem w_t2 : ((words1.drop 24).take 24).all (fun c => isCode c || c.before args0 about1) = true := by decide +kernel
set_option maxRecDepth 65536 in
theorem w_t3 : (((words1.drop 24).drop 24).take 24).all (fun c => isCode c || c.before args0 about1) = true := by decide +kernel
set_option maxRecDepth 65536 in
theorem w_t4 : ((((words1.drop 24).drop 24).drop 24).take 24).all (fun c => isCode c || c.before args0 about1) = true := by decide +kernel
set_option maxRecDepth 65536 in
theorem w_t5 : (((((words1.drop 24).drop 24).drop 24).drop 24).take 24).all (fun c => isCode c || c.before args0 about1) = true := by decide +kernel
set_option maxRecDepth 65536 in
theorem w_t6 : (((((words1.drop 24).drop 24).drop 24).drop 24).drop 24).all (fun c => isCode c || c.before args0 about1) = true := by decide +kernel
theorem w_tables : (allAtoms (Jvm.Cond.code x code maxLocals ret :: tables_1)).before args0 about1 = true := by
  rw [allAtoms_all]
  show words1.all (fun c => c.before args0 about1) = true
  refine all_split ?_ w_codes
  rw [← List.take_append_drop 24 words1, List.all_append, w_t1, ← List.take_append_drop 24 (words1.drop 24), List.all_append, w_t2, ← List.take_append_drop 24 ((words1.drop 24).drop 24), List.all_append, w_t3, ← List.take_append_drop 24 (((words1.drop 24).drop 24).drop 24), List.all_append, w_t4, ← List.take_append_drop 24 ((((words1.drop 24).drop 24).drop 24).drop 24), List.all_append, w_t5, w_t6]
  rfl
set_option maxRecDepth 65536 in
theorem w_rest : rest_1_c.before args0 about1 = true := by decide +kernel
set_option maxRecDepth 65536 in
theorem w_case : (Jvm.Cond.and given_1 narrow_1).before args0 about1 = true := by decide +kernel
theorem w_applies : (headSpec (Jvm.Cond.code x code maxLocals ret :: tables_1) room_1).applies x e0.platform about1 = true :=
  (Spec.applies_iff w_frames).mpr ⟨w_running, w_runnable, w_alone, w_named, w_hears, w_ripe, w_room, w_tables⟩
theorem atStart : AtStart classFile x code maxLocals ret World_1 tables_1 room_1 Calls_1 rest_1 Pre_1 launch0 p0 e0 about1 theMethod args0 below0 :=
  ⟨lists_1, trivial, launch0.admits_env _ _ _, launch0.least_env, fairChoices_fair.cas, fairChoices_fair.clock, w_frames, w_args, w_heap, w_applies, trivial, w_rest, w_case⟩
end start1
theorem witness_1 : WitnessClaimed_1 := ⟨start1.p0, start1.e0, start1.about1, start1.theMethod, start1.args0, start1.below0, start1.atStart⟩
end Jvm.Pilot.@@N@@
