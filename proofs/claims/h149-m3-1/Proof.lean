import JvmDerived
import JvmDerived.Pilot.@@N@@Statement
import JvmDerived.Pilot.@@N@@Code
set_option linter.unusedVariables false
set_option linter.unusedSimpArgs false
namespace Jvm.Pilot.@@N@@
open Jvm Jvm.ClassFile Sem Op Lib Jvm.Free Jvm.Stand Jvm.LawKit Jvm.RoadKit Bundle Jvm.Pilot.@@N@@.Jvm.D
abbrev OTr := List (Nat × Instr × Nat)
abbrev OR := Option (Prop × Nat × Array Slot × List Value)
/-- place j of the array at a holds v -/
def Rd (Z : State) (h : Heap) (a : Addr) (ty : FieldType) (j : Int32) (v : Value) : Prop := ∃ c, Arr Z h a c ty ∧ ¬ (j < 0 ∨ c.slots.size ≤ j.toNatClampNeg) ∧ c.slots[j.toNatClampNeg]? = some v
/-- the array at a has n places -/
def Ln (Z : State) (h : Heap) (a : Addr) (n : Int32) : Prop := ∃ c ty, Arr Z h a c ty ∧ c.slots.size.toInt32 = n
def okB (b : ByteArray) (t : OTr) : Bool := t.all fun x => decide (decode b x.1 = .ok (x.2.1, x.2.2))
def cII : ClassFile.Cond → Bool → Int32 → Int32 → Prop
  | .eq, true, x, y => x = y
  | .eq, false, x, y => ¬ x = y
  | .ne, true, x, y => ¬ x = y
  | .ne, false, x, y => x = y
  | .lt, true, x, y => x < y
  | .lt, false, x, y => ¬ x < y
  | .ge, true, x, y => ¬ x < y
  | .ge, false, x, y => x < y
  | .gt, true, x, y => y < x
  | .gt, false, x, y => ¬ y < x
  | .le, true, x, y => ¬ y < x
  | .le, false, x, y => y < x
def cAA : ClassFile.ACond → Bool → Value → Value → Prop
  | .eq, true, x, y => x = y
  | .eq, false, x, y => ¬ x = y
  | .ne, true, x, y => ¬ x = y
  | .ne, false, x, y => x = y
def oAnd (c : Prop) (r : OR) : OR := match r with | some (P, x) => some (c ∧ P, x) | none => none
def oLdI (L : Array Slot) (x : Nat) (f : Value → OR) : OR := match L[x]? with | some (.val (.int v)) => f (.int v) | _ => none
def oLdI' (L : Array Slot) (x : Nat) (f : Int32 → OR) : OR := match L[x]? with | some (.val (.int v)) => f v | _ => none
def oLdJ (L : Array Slot) (x : Nat) (f : Value → OR) : OR := match L[x]? with | some (.val (.long v)) => f (.long v) | _ => none
def oLdA (L : Array Slot) (x : Nat) (f : Value → OR) : OR := match L[x]? with | some (.val (.ref v)) => f (.ref v) | some (.val .null) => f .null | _ => none
def oG (o : List Value) (pc : Nat) (f : List Value → OR) (g : OR) : OR := match o with | .retAddr q :: o' => (bif Nat.beq q pc then f o' else g) | _ => g
def oLdG (L : Array Slot) (x : Nat) (f : Value → OR) : OR := match L[x]? with | some (.val v) => f v | _ => none
def oTop (S : List Value) (f : Value → List Value → OR) : OR := match S with | v :: r => f v r | _ => none
def oStG (L : Array Slot) (x : Nat) (v : Value) (f : Array Slot → OR) : OR := match L[x]? with | some .unset => f (L.setIfInBounds x (.val v)) | some (.val (.int _)) => f (L.setIfInBounds x (.val v)) | some (.val (.ref _)) => f (L.setIfInBounds x (.val v)) | some (.val .null) => f (L.setIfInBounds x (.val v)) | _ => none
def oSt (L : Array Slot) (x : Nat) (v : Value) (f : Array Slot → OR) : OR := match storeLocals L x v with | some L' => f L' | none => none
def oI (S : List Value) (f : Int32 → List Value → OR) : OR := match S with | .int v :: r => f v r | _ => none
def oJ (S : List Value) (f : Int64 → List Value → OR) : OR := match S with | .long v :: r => f v r | _ => none
def oR (S : List Value) (f : Addr → List Value → OR) : OR := match S with | .ref v :: r => f v r | _ => none
def oA (S : List Value) (f : Value → List Value → OR) : OR := match S with | .ref v :: r => f (.ref v) r | .null :: r => f .null r | _ => none
def oNul (S : List Value) (f : List Value → OR) (g : Addr → List Value → OR) : OR := match S with | .null :: r => f r | .ref v :: r => g v r | _ => none
def o1 (S : List Value) (f : Value → List Value → OR) : OR := match S with | .ref v :: r => f (.ref v) r | .null :: r => f .null r | .int v :: r => f (.int v) r | _ => none
def oD2 (S : List Value) (f : Int64 → List Value → OR) (g : Value → Value → List Value → OR) : OR := match S with | .long v :: r => f v r | S => o1 S fun v r => o1 r fun w r' => g v w r'
def oII (S : List Value) (f : Int32 → Int32 → List Value → OR) : OR := match S with | .int y :: .int x :: r => f x y r | _ => none
def oJJ (S : List Value) (f : Int64 → Int64 → List Value → OR) : OR := match S with | .long y :: .long x :: r => f x y r | _ => none
def oJI (S : List Value) (f : Int64 → Int32 → List Value → OR) : OR := match S with | .int y :: .long x :: r => f x y r | _ => none
def oIR (S : List Value) (f : Int32 → Addr → List Value → OR) : OR := match S with | .int y :: .ref x :: r => f y x r | _ => none
def oB (o : List Value) (f g : List Value → OR) : OR := match o with | .ref _ :: o' => f o' | .null :: o' => g o' | _ => none
def oV (o : List Value) (f : Value → List Value → OR) : OR := match o with | v :: o' => f v o' | _ => none
def oN (o : List Value) (f : Int32 → List Value → OR) : OR := match o with | .int v :: o' => f v o' | _ => none
def oM (o : List Value) (f : Int64 → List Value → OR) : OR := match o with | .long v :: o' => f v o' | _ => none
def oTo (pc : Nat) (d : Int) (f : Nat → OR) : OR := bif decide (0 ≤ (pc : Int) + d) then f ((pc : Int) + d).toNat else none
def ost (Z : State) (h : Heap) (a0 : Array Value) (own : String) (i : Instr) (n pc : Nat) (L : Array Slot) (S : List Value) (o : List Value) (k : Nat → Array Slot → List Value → List Value → OR) : OR :=
  match i with
  | .iload x => bif Nat.beq n 2 then oLdI L x fun v => k (pc + 2) L (v :: S) o else none
  | .iload_n x => bif Nat.beq n 1 then oLdI L x.val fun v => k (pc + 1) L (v :: S) o else none
  | .lload x => bif Nat.beq n 2 then oLdJ L x fun v => k (pc + 2) L (v :: S) o else none
  | .lload_n x => bif Nat.beq n 1 then oLdJ L x.val fun v => k (pc + 1) L (v :: S) o else none
  | .aload x => bif Nat.beq n 2 then oG o pc (fun o' => oLdG L x fun v => oAnd (v.isRef = true) (k (pc + 2) L (v :: S) o')) (oLdA L x fun v => k (pc + 2) L (v :: S) o) else none
  | .aload_n x => bif Nat.beq n 1 then oG o pc (fun o' => oLdG L x.val fun v => oAnd (v.isRef = true) (k (pc + 1) L (v :: S) o')) (oLdA L x.val fun v => k (pc + 1) L (v :: S) o) else none
  | .istore x => bif Nat.beq n 2 then oI S fun v r => oSt L x (.int v) fun L' => k (pc + 2) L' r o else none
  | .istore_n x => bif Nat.beq n 1 then oI S fun v r => oSt L x.val (.int v) fun L' => k (pc + 1) L' r o else none
  | .lstore x => bif Nat.beq n 2 then oJ S fun v r => oSt L x (.long v) fun L' => k (pc + 2) L' r o else none
  | .lstore_n x => bif Nat.beq n 1 then oJ S fun v r => oSt L x.val (.long v) fun L' => k (pc + 1) L' r o else none
  | .astore x => bif Nat.beq n 2 then oG o pc (fun o' => oTop S fun v r => oAnd (v.isRef = true) (oStG L x v fun L' => k (pc + 2) L' r o')) (oA S fun v r => oSt L x v fun L' => k (pc + 2) L' r o) else none
  | .astore_n x => bif Nat.beq n 1 then oG o pc (fun o' => oTop S fun v r => oAnd (v.isRef = true) (oStG L x.val v fun L' => k (pc + 1) L' r o')) (oA S fun v r => oSt L x.val v fun L' => k (pc + 1) L' r o) else none
  | .iconst i => bif Nat.beq n 1 then k (pc + 1) L (.int (Int32.ofInt i) :: S) o else none
  | .bipush i => bif Nat.beq n 2 then k (pc + 2) L (.int (Int8.ofInt i).toInt32 :: S) o else none
  | .sipush i => bif Nat.beq n 3 then k (pc + 3) L (.int (Int16.ofInt i).toInt32 :: S) o else none
  | .lconst i => bif Nat.beq n 1 then k (pc + 1) L (.long (Int64.ofNat i) :: S) o else none
  | .aconst_null => bif Nat.beq n 1 then k (pc + 1) L (.null :: S) o else none
  | .iadd => bif Nat.beq n 1 then oII S fun x y r => k (pc + 1) L (.int (x + y) :: r) o else none
  | .isub => bif Nat.beq n 1 then oII S fun x y r => k (pc + 1) L (.int (x - y) :: r) o else none
  | .imul => bif Nat.beq n 1 then oII S fun x y r => k (pc + 1) L (.int (x * y) :: r) o else none
  | .iand => bif Nat.beq n 1 then oII S fun x y r => k (pc + 1) L (.int (x &&& y) :: r) o else none
  | .ior => bif Nat.beq n 1 then oII S fun x y r => k (pc + 1) L (.int (x ||| y) :: r) o else none
  | .ixor => bif Nat.beq n 1 then oII S fun x y r => k (pc + 1) L (.int (x ^^^ y) :: r) o else none
  | .ishl => bif Nat.beq n 1 then oII S fun x y r => k (pc + 1) L (.int (x <<< (y &&& 31)) :: r) o else none
  | .ishr => bif Nat.beq n 1 then oII S fun x y r => k (pc + 1) L (.int (x >>> (y &&& 31)) :: r) o else none
  | .iushr => bif Nat.beq n 1 then oII S fun x y r => k (pc + 1) L (.int (XT.ushr x y) :: r) o else none
  | .idiv => bif Nat.beq n 1 then oII S fun x y r => oAnd (y ≠ 0) (k (pc + 1) L (.int (x / y) :: r) o) else none
  | .irem => bif Nat.beq n 1 then oII S fun x y r => oAnd (y ≠ 0) (k (pc + 1) L (.int (x % y) :: r) o) else none
  | .ladd => bif Nat.beq n 1 then oJJ S fun x y r => k (pc + 1) L (.long (x + y) :: r) o else none
  | .lsub => bif Nat.beq n 1 then oJJ S fun x y r => k (pc + 1) L (.long (x - y) :: r) o else none
  | .lmul => bif Nat.beq n 1 then oJJ S fun x y r => k (pc + 1) L (.long (x * y) :: r) o else none
  | .land => bif Nat.beq n 1 then oJJ S fun x y r => k (pc + 1) L (.long (x &&& y) :: r) o else none
  | .lor => bif Nat.beq n 1 then oJJ S fun x y r => k (pc + 1) L (.long (x ||| y) :: r) o else none
  | .lxor => bif Nat.beq n 1 then oJJ S fun x y r => k (pc + 1) L (.long (x ^^^ y) :: r) o else none
  | .lcmp => bif Nat.beq n 1 then oJJ S fun x y r => k (pc + 1) L (.int (XT.cmpL x y) :: r) o else none
  | .ldiv => bif Nat.beq n 1 then oJJ S fun x y r => oAnd (y ≠ 0) (k (pc + 1) L (.long (x / y) :: r) o) else none
  | .lrem => bif Nat.beq n 1 then oJJ S fun x y r => oAnd (y ≠ 0) (k (pc + 1) L (.long (x % y) :: r) o) else none
  | .lshl => bif Nat.beq n 1 then oJI S fun x y r => k (pc + 1) L (.long (x <<< (y.toInt64 &&& 63)) :: r) o else none
  | .lshr => bif Nat.beq n 1 then oJI S fun x y r => k (pc + 1) L (.long (x >>> (y.toInt64 &&& 63)) :: r) o else none
  | .lushr => bif Nat.beq n 1 then oJI S fun x y r => k (pc + 1) L (.long (XT.ushrL x y) :: r) o else none
  | .ineg => bif Nat.beq n 1 then oI S fun v r => k (pc + 1) L (.int (-v) :: r) o else none
  | .i2l => bif Nat.beq n 1 then oI S fun v r => k (pc + 1) L (.long (v.toInt64) :: r) o else none
  | .i2b => bif Nat.beq n 1 then oI S fun v r => k (pc + 1) L (.int (v.toInt8.toInt32) :: r) o else none
  | .i2c => bif Nat.beq n 1 then oI S fun v r => k (pc + 1) L (.int (v.toUInt32.toUInt16.toUInt32.toInt32) :: r) o else none
  | .i2s => bif Nat.beq n 1 then oI S fun v r => k (pc + 1) L (.int (v.toInt16.toInt32) :: r) o else none
  | .lneg => bif Nat.beq n 1 then oJ S fun v r => k (pc + 1) L (.long (-v) :: r) o else none
  | .l2i => bif Nat.beq n 1 then oJ S fun v r => k (pc + 1) L (.int (v.toInt32) :: r) o else none
  | .dup => bif Nat.beq n 1 then o1 S fun v r => k (pc + 1) L (v :: v :: r) o else none
  | .pop => bif Nat.beq n 1 then o1 S fun v r => k (pc + 1) L r o else none
  | .dup_x1 => bif Nat.beq n 1 then o1 S fun v r => o1 r fun w r' => k (pc + 1) L (v :: w :: v :: r') o else none
  | .dup2 => bif Nat.beq n 1 then oD2 S (fun v r => k (pc + 1) L (.long v :: .long v :: r) o) fun v w r => k (pc + 1) L (v :: w :: v :: w :: r) o else none
  | .iinc x d => bif Nat.beq n 3 then oLdI' L x fun v => oSt L x (.int (v + Int32.ofInt d)) fun L' => k (pc + 3) L' S o else none
  | .goto d => bif Nat.beq n 3 then oTo pc d fun q => k q L S o else none
  | .ifCond cd d => bif Nat.beq n 3 then oI S fun v r => oB o (fun o' => oAnd (cII cd true v 0) (oTo pc d fun q => k q L r o')) fun o' => oAnd (cII cd false v 0) (k (pc + 3) L r o') else none
  | .if_icmp cd d => bif Nat.beq n 3 then oII S fun x y r => oB o (fun o' => oAnd (cII cd true x y) (oTo pc d fun q => k q L r o')) fun o' => oAnd (cII cd false x y) (k (pc + 3) L r o') else none
  | .ifnull d => bif Nat.beq n 3 then oNul S (fun r => oTo pc d fun q => k q L r o) fun b r => k (pc + 3) L r o else none
  | .ifnonnull d => bif Nat.beq n 3 then oNul S (fun r => k (pc + 3) L r o) fun b r => oTo pc d fun q => k q L r o else none
  | .if_acmp cd d => bif Nat.beq n 3 then oA S fun y r1 => oA r1 fun x r => oB o (fun o' => oAnd (cAA cd true x y) (oTo pc d fun q => k q L r o')) fun o' => oAnd (cAA cd false x y) (k (pc + 3) L r o') else none
  | .iaload => bif Nat.beq n 1 then oIR S fun j a r => oV o fun v o' => oAnd (Rd Z h a .int j v) (k (pc + 1) L (v :: r) o') else none
  | .laload => bif Nat.beq n 1 then oIR S fun j a r => oV o fun v o' => oAnd (Rd Z h a .long j v) (k (pc + 1) L (v :: r) o') else none
  | .caload => bif Nat.beq n 1 then oIR S fun j a r => oV o fun v o' => oAnd (Rd Z h a .char j v) (k (pc + 1) L (v :: r) o') else none
  | .baload => bif Nat.beq n 1 then oIR S fun j a r => oV o fun v o' => oAnd (Rd Z h a .byte j v) (k (pc + 1) L (v :: r) o') else none
  | .aaload => bif Nat.beq n 1 then oIR S fun j a r => oV o fun v o' => oAnd (∃ ty, ty.isReference = true ∧ Rd Z h a ty j v) (k (pc + 1) L (v :: r) o') else none
  | .arraylength => bif Nat.beq n 1 then oR S fun a r => oN o fun n o' => oAnd (Ln Z h a n) (k (pc + 1) L (.int n :: r) o') else none
  | .ldc i => bif Nat.beq n 2 then oN o fun v o' => oAnd ((Jvm.Cond.constant own i v).before a0 Z = true) (k (pc + 2) L (.int v :: S) o') else none
  | .ldc_w i => bif Nat.beq n 3 then oN o fun v o' => oAnd ((Jvm.Cond.constant own i v).before a0 Z = true) (k (pc + 3) L (.int v :: S) o') else none
  | .ldc2_w i => bif Nat.beq n 3 then oM o fun v o' => oAnd ((Jvm.Cond.constantLong own i v).before a0 Z = true) (k (pc + 3) L (.long v :: S) o') else none
  | _ => none
def orun (Z : State) (h : Heap) (a0 : Array Value) (own : String) : OTr → List Value → Nat → Array Slot → List Value → OR
  | [], _, pc, L, S => some (True, pc, L, S)
  | x :: t, o, pc, L, S => bif Nat.beq x.1 pc then ost Z h a0 own x.2.1 x.2.2 pc L S o fun pc L S o => orun Z h a0 own t o pc L S else none
section OwnLaws
variable {r : Prop × Nat × Array Slot × List Value}
theorem oAnd_ok {c : Prop} {q : OR} {P : Prop} {x : Nat × Array Slot × List Value} (h : oAnd c q = some (P, x)) (hP : P) : ∃ P', c ∧ P' ∧ q = some (P', x) := by
  unfold oAnd at h
  split at h
  · simp only [Option.some.injEq, Prod.mk.injEq] at h
    obtain ⟨rfl, rfl⟩ := h
    exact ⟨_, hP.1, hP.2, rfl⟩
  · cases h
theorem oLdI_ok {L : Array Slot} {x : Nat} {f : Value → OR} (h : oLdI L x f = some r) : ∃ v, L[x]? = some (.val (.int v)) ∧ f (.int v) = some r := by
  unfold oLdI at h
  split at h
  · exact ⟨_, by assumption, h⟩
  · cases h
theorem oLdI'_ok {L : Array Slot} {x : Nat} {f : Int32 → OR} (h : oLdI' L x f = some r) : ∃ v, L[x]? = some (.val (.int v)) ∧ f v = some r := by
  unfold oLdI' at h
  split at h
  · exact ⟨_, by assumption, h⟩
  · cases h
theorem oLdJ_ok {L : Array Slot} {x : Nat} {f : Value → OR} (h : oLdJ L x f = some r) : ∃ v, L[x]? = some (.val (.long v)) ∧ f (.long v) = some r := by
  unfold oLdJ at h
  split at h
  · exact ⟨_, by assumption, h⟩
  · cases h
theorem oLdA_ok {L : Array Slot} {x : Nat} {f : Value → OR} (h : oLdA L x f = some r) : ∃ v, L[x]? = some (.val v) ∧ v.isRef = true ∧ f v = some r := by
  unfold oLdA at h
  split at h
  · exact ⟨_, by assumption, rfl, h⟩
  · exact ⟨_, by assumption, rfl, h⟩
  · cases h
theorem oSt_ok {L : Array Slot} {x : Nat} {v : Value} {f : Array Slot → OR} (h : oSt L x v f = some r) : ∃ L', storeLocals L x v = some L' ∧ f L' = some r := by
  unfold oSt at h
  split at h
  · exact ⟨_, by assumption, h⟩
  · cases h
theorem oG_ok {o : List Value} {pc : Nat} {f : List Value → OR} {g : OR} (h : oG o pc f g = some r) : (∃ o', f o' = some r) ∨ g = some r := by
  unfold oG at h
  split at h
  · rename_i q o'
    cases hb : Nat.beq q pc
    · rw [hb] at h; exact Or.inr h
    · rw [hb] at h; exact Or.inl ⟨_, h⟩
  · exact Or.inr h
theorem oLdG_ok {L : Array Slot} {x : Nat} {f : Value → OR} (h : oLdG L x f = some r) : ∃ v, L[x]? = some (.val v) ∧ f v = some r := by
  unfold oLdG at h
  split at h
  · exact ⟨_, by assumption, h⟩
  · cases h
theorem oTop_ok {S : List Value} {f : Value → List Value → OR} (h : oTop S f = some r) : ∃ v q, S = v :: q ∧ f v q = some r := by
  unfold oTop at h
  split at h
  · exact ⟨_, _, rfl, h⟩
  · cases h
theorem oStG_ok {L : Array Slot} {x : Nat} {v : Value} {f : Array Slot → OR} (h : oStG L x v f = some r) (hv : v.isRef = true) : ∃ L', storeLocals L x v = some L' ∧ f L' = some r := by
  have c1 : v.category = 1 := by rcases ref_cases hv with rfl | ⟨b, rfl⟩ <;> rfl
  unfold oStG at h
  split at h
  · rename_i e; exact ⟨_, storeLocals_cat1 e c1 (by simp), h⟩
  · rename_i e; exact ⟨_, storeLocals_cat1 e c1 (by simp [Value.category]), h⟩
  · rename_i e; exact ⟨_, storeLocals_cat1 e c1 (by simp [Value.category]), h⟩
  · rename_i e; exact ⟨_, storeLocals_cat1 e c1 (by simp [Value.category]), h⟩
  · cases h
theorem oI_ok {S : List Value} {f : Int32 → List Value → OR} (h : oI S f = some r) : ∃ v q, S = .int v :: q ∧ f v q = some r := by
  unfold oI at h
  split at h
  · exact ⟨_, _, rfl, h⟩
  · cases h
theorem oJ_ok {S : List Value} {f : Int64 → List Value → OR} (h : oJ S f = some r) : ∃ v q, S = .long v :: q ∧ f v q = some r := by
  unfold oJ at h
  split at h
  · exact ⟨_, _, rfl, h⟩
  · cases h
theorem oR_ok {S : List Value} {f : Addr → List Value → OR} (h : oR S f = some r) : ∃ v q, S = .ref v :: q ∧ f v q = some r := by
  unfold oR at h
  split at h
  · exact ⟨_, _, rfl, h⟩
  · cases h
theorem oA_ok {S : List Value} {f : Value → List Value → OR} (h : oA S f = some r) : ∃ v q, S = v :: q ∧ v.isRef = true ∧ f v q = some r := by
  unfold oA at h
  split at h
  · exact ⟨_, _, rfl, rfl, h⟩
  · exact ⟨_, _, rfl, rfl, h⟩
  · cases h
theorem oNul_ok {S : List Value} {f : List Value → OR} {g : Addr → List Value → OR} (h : oNul S f g = some r) : (∃ q, S = .null :: q ∧ f q = some r) ∨ ∃ b q, S = .ref b :: q ∧ g b q = some r := by
  unfold oNul at h
  split at h
  · exact Or.inl ⟨_, rfl, h⟩
  · exact Or.inr ⟨_, _, rfl, h⟩
  · cases h
theorem o1_ok {S : List Value} {f : Value → List Value → OR} (h : o1 S f = some r) : ∃ v q, S = v :: q ∧ v.category = 1 ∧ f v q = some r := by
  unfold o1 at h
  split at h
  · exact ⟨_, _, rfl, rfl, h⟩
  · exact ⟨_, _, rfl, rfl, h⟩
  · exact ⟨_, _, rfl, rfl, h⟩
  · cases h
theorem oD2_ok {S : List Value} {f : Int64 → List Value → OR} {g : Value → Value → List Value → OR} (h : oD2 S f g = some r) : (∃ v q, S = .long v :: q ∧ f v q = some r) ∨ ∃ v w q, S = v :: w :: q ∧ v.category = 1 ∧ w.category = 1 ∧ g v w q = some r := by
  unfold oD2 at h
  split at h
  · exact Or.inl ⟨_, _, rfl, h⟩
  · obtain ⟨v, q, rfl, e1, e2⟩ := o1_ok h
    obtain ⟨w, q', rfl, e3, e4⟩ := o1_ok e2
    exact Or.inr ⟨_, _, _, rfl, e1, e3, e4⟩
theorem oII_ok {S : List Value} {f : Int32 → Int32 → List Value → OR} (h : oII S f = some r) : ∃ x y q, S = .int y :: .int x :: q ∧ f x y q = some r := by
  unfold oII at h
  split at h
  · exact ⟨_, _, _, rfl, h⟩
  · cases h
theorem oJJ_ok {S : List Value} {f : Int64 → Int64 → List Value → OR} (h : oJJ S f = some r) : ∃ x y q, S = .long y :: .long x :: q ∧ f x y q = some r := by
  unfold oJJ at h
  split at h
  · exact ⟨_, _, _, rfl, h⟩
  · cases h
theorem oJI_ok {S : List Value} {f : Int64 → Int32 → List Value → OR} (h : oJI S f = some r) : ∃ x y q, S = .int y :: .long x :: q ∧ f x y q = some r := by
  unfold oJI at h
  split at h
  · exact ⟨_, _, _, rfl, h⟩
  · cases h
theorem oIR_ok {S : List Value} {f : Int32 → Addr → List Value → OR} (h : oIR S f = some r) : ∃ y x q, S = .int y :: .ref x :: q ∧ f y x q = some r := by
  unfold oIR at h
  split at h
  · exact ⟨_, _, _, rfl, h⟩
  · cases h
theorem oB_ok {o : List Value} {f g : List Value → OR} (h : oB o f g = some r) : (∃ o', f o' = some r) ∨ ∃ o', g o' = some r := by
  unfold oB at h
  split at h
  · exact Or.inl ⟨_, h⟩
  · exact Or.inr ⟨_, h⟩
  · cases h
theorem oV_ok {o : List Value} {f : Value → List Value → OR} (h : oV o f = some r) : ∃ v o', f v o' = some r := by
  unfold oV at h
  split at h
  · exact ⟨_, _, h⟩
  · cases h
theorem oN_ok {o : List Value} {f : Int32 → List Value → OR} (h : oN o f = some r) : ∃ v o', f v o' = some r := by
  unfold oN at h
  split at h
  · exact ⟨_, _, h⟩
  · cases h
theorem oM_ok {o : List Value} {f : Int64 → List Value → OR} (h : oM o f = some r) : ∃ v o', f v o' = some r := by
  unfold oM at h
  split at h
  · exact ⟨_, _, h⟩
  · cases h
theorem oTo_ok {pc : Nat} {d : Int} {f : Nat → OR} (h : oTo pc d f = some r) : ∃ q, 0 ≤ (pc : Int) + d ∧ ((pc : Int) + d).toNat = q ∧ f q = some r := by
  unfold oTo at h
  by_cases q : 0 ≤ (pc : Int) + d
  · simp only [q, decide_true, cond_true] at h
    exact ⟨_, q, rfl, h⟩
  · simp [q] at h
theorem bif_ok {n n' : Nat} {q : OR} (h : (bif Nat.beq n n' then q else none) = some r) : n = n' ∧ q = some r := by
  cases hb : Nat.beq n n'
  · rw [hb] at h; cases h
  · rw [hb] at h; exact ⟨Nat.eq_of_beq_eq_true hb, h⟩
theorem cII_ok {cd : ClassFile.Cond} {b : Bool} {x y : Int32} (h : cII cd b x y) : if_icmp.holds cd x y = b := by
  cases cd <;> cases b <;> simp only [cII] at h <;> simp [if_icmp.holds, h] <;> first | done | exact Int32.not_lt.mp h | exact Int32.not_le.mpr h | exact h
theorem cI0_ok {cd : ClassFile.Cond} {b : Bool} {x : Int32} (h : cII cd b x 0) : ifCond.holds cd x = b := by
  cases cd <;> cases b <;> simp only [cII] at h <;> simp [ifCond.holds, h] <;> first | done | exact Int32.not_lt.mp h | exact Int32.not_le.mpr h | exact h
theorem cAA_ok {cd : ClassFile.ACond} {b : Bool} {x y : Value} (h : cAA cd b x y) : XT.acmp cd x y = b := by
  cases cd <;> cases b <;> simp only [cAA] at h <;> simp [XT.acmp, h]
theorem lrem_mod (x y : Int64) : x - (x / y) * y = x % y := by
  apply Int64.toInt_inj.mp
  have h1 := Int64.le_toInt (x % y)
  have h2 := Int64.toInt_lt (x % y)
  rw [Int64.toInt_sub, Int64.toInt_mul, Int64.toInt_div, Int.bmod_mul_bmod, Int.sub_bmod_bmod, Int.mul_comm (x.toInt.tdiv y.toInt), ← Int.tmod_def, ← Int64.toInt_mod]
  exact Int.bmod_eq_of_le_mul_two (by omega) (by omega)
end OwnLaws
section OwnRun
variable {p : Program} {l : Launch} {e : Env} {R : Room} {s : State} {m : MethodId} {args : Array Value} {below : List Frame} {meth : Method} {c : Code} {T : State} {locs : List Loc} {cells slots : Nat} {Z : State} {a0 : Array Value} {h : Heap} {own : String}
set_option maxHeartbeats 4000000 in
theorem ost_ok (X : Stand p l e R s m args below meth c T locs cells slots) (hx : p.tables.exec = Jvm.exec) (hZ : Z.Warmed39 s.vm) (hown : s.vm.findClass own = some m.cls) (eT : T.heap = h) {i : Instr} {n pc : Nat} {L : Array Slot} {S o : List Value} {k : Nat → Array Slot → List Value → List Value → OR} {P : Prop} {x' : Nat × Array Slot × List Value} {target : State}
    (hr : ost Z h a0 own i n pc L S o k = some (P, x')) (hP : P) (hd : decode c.code pc = .ok (i, n)) (kk : ∀ pc L S o P', k pc L S o = some (P', x') → P' → Steps p.tables e below (T.setTop (mkF m pc L S)) target) : Steps p.tables e below (T.setTop (mkF m pc L S)) target := by
  unfold ost at hr
  split at hr
  · obtain ⟨rfl, hq⟩ := bif_ok hr
    obtain ⟨v, e1, e3⟩ := oLdI_ok hq
    exact XS.iload X.here hx rfl hd e1 (kk _ _ _ _ _ e3 hP)
  · obtain ⟨rfl, hq⟩ := bif_ok hr
    obtain ⟨v, e1, e3⟩ := oLdI_ok hq
    exact XS.iloadN X.here hx rfl hd e1 (kk _ _ _ _ _ e3 hP)
  · obtain ⟨rfl, hq⟩ := bif_ok hr
    obtain ⟨v, e1, e3⟩ := oLdJ_ok hq
    exact XT.lload X.here hx rfl hd e1 (kk _ _ _ _ _ e3 hP)
  · obtain ⟨rfl, hq⟩ := bif_ok hr
    obtain ⟨v, e1, e3⟩ := oLdJ_ok hq
    exact XT.lloadN X.here hx rfl hd e1 (kk _ _ _ _ _ e3 hP)
  · obtain ⟨rfl, hq⟩ := bif_ok hr
    rcases oG_ok hq with ⟨o', hr2⟩ | hr2
    · obtain ⟨v, e1, e3⟩ := oLdG_ok hr2
      obtain ⟨P', h1, h2, e4⟩ := oAnd_ok e3 hP
      exact XS.aload X.here hx rfl hd e1 h1 (kk _ _ _ _ _ e4 h2)
    · obtain ⟨v, e1, e2, e3⟩ := oLdA_ok hr2
      exact XS.aload X.here hx rfl hd e1 e2 (kk _ _ _ _ _ e3 hP)
  · obtain ⟨rfl, hq⟩ := bif_ok hr
    rcases oG_ok hq with ⟨o', hr2⟩ | hr2
    · obtain ⟨v, e1, e3⟩ := oLdG_ok hr2
      obtain ⟨P', h1, h2, e4⟩ := oAnd_ok e3 hP
      exact XS.aloadN X.here hx rfl hd e1 h1 (kk _ _ _ _ _ e4 h2)
    · obtain ⟨v, e1, e2, e3⟩ := oLdA_ok hr2
      exact XS.aloadN X.here hx rfl hd e1 e2 (kk _ _ _ _ _ e3 hP)
  · obtain ⟨rfl, hq⟩ := bif_ok hr
    obtain ⟨v, r, rfl, e3⟩ := oI_ok hq
    obtain ⟨L', e4, e5⟩ := oSt_ok e3
    exact XS.istore X.here hx rfl hd rfl e4 (kk _ _ _ _ _ e5 hP)
  · obtain ⟨rfl, hq⟩ := bif_ok hr
    obtain ⟨v, r, rfl, e3⟩ := oI_ok hq
    obtain ⟨L', e4, e5⟩ := oSt_ok e3
    exact XS.istoreN X.here hx rfl hd rfl e4 (kk _ _ _ _ _ e5 hP)
  · obtain ⟨rfl, hq⟩ := bif_ok hr
    obtain ⟨v, r, rfl, e3⟩ := oJ_ok hq
    obtain ⟨L', e4, e5⟩ := oSt_ok e3
    exact XT.lstore X.here hx rfl hd rfl e4 (kk _ _ _ _ _ e5 hP)
  · obtain ⟨rfl, hq⟩ := bif_ok hr
    obtain ⟨v, r, rfl, e3⟩ := oJ_ok hq
    obtain ⟨L', e4, e5⟩ := oSt_ok e3
    exact XT.lstoreN X.here hx rfl hd rfl e4 (kk _ _ _ _ _ e5 hP)
  · obtain ⟨rfl, hq⟩ := bif_ok hr
    rcases oG_ok hq with ⟨o', hr2⟩ | hr2
    · obtain ⟨v, r, rfl, e3⟩ := oTop_ok hr2
      obtain ⟨P', h1, h2, e4⟩ := oAnd_ok e3 hP
      obtain ⟨L', e5, e6⟩ := oStG_ok e4 h1
      exact XS.astore X.here hx rfl hd rfl h1 e5 (kk _ _ _ _ _ e6 h2)
    · obtain ⟨v, r, rfl, e2, e3⟩ := oA_ok hr2
      obtain ⟨L', e4, e5⟩ := oSt_ok e3
      exact XS.astore X.here hx rfl hd rfl e2 e4 (kk _ _ _ _ _ e5 hP)
  · obtain ⟨rfl, hq⟩ := bif_ok hr
    rcases oG_ok hq with ⟨o', hr2⟩ | hr2
    · obtain ⟨v, r, rfl, e3⟩ := oTop_ok hr2
      obtain ⟨P', h1, h2, e4⟩ := oAnd_ok e3 hP
      obtain ⟨L', e5, e6⟩ := oStG_ok e4 h1
      exact XS.astoreN X.here hx rfl hd rfl h1 e5 (kk _ _ _ _ _ e6 h2)
    · obtain ⟨v, r, rfl, e2, e3⟩ := oA_ok hr2
      obtain ⟨L', e4, e5⟩ := oSt_ok e3
      exact XS.astoreN X.here hx rfl hd rfl e2 e4 (kk _ _ _ _ _ e5 hP)
  · obtain ⟨rfl, hq⟩ := bif_ok hr
    exact XS.iconst X.here hx rfl hd (kk _ _ _ _ _ hq hP)
  · obtain ⟨rfl, hq⟩ := bif_ok hr
    exact XS.bipush X.here hx rfl hd (kk _ _ _ _ _ hq hP)
  · obtain ⟨rfl, hq⟩ := bif_ok hr
    exact XS.sipush X.here hx rfl hd (kk _ _ _ _ _ hq hP)
  · obtain ⟨rfl, hq⟩ := bif_ok hr
    exact XT.lconst X.here hx rfl hd (kk _ _ _ _ _ hq hP)
  · obtain ⟨rfl, hq⟩ := bif_ok hr
    exact XS.aconstNull X.here hx rfl hd (kk _ _ _ _ _ hq hP)
  · obtain ⟨rfl, hq⟩ := bif_ok hr
    obtain ⟨x, y, r, rfl, e3⟩ := oII_ok hq
    exact XS.iadd X.here hx rfl hd rfl (kk _ _ _ _ _ e3 hP)
  · obtain ⟨rfl, hq⟩ := bif_ok hr
    obtain ⟨x, y, r, rfl, e3⟩ := oII_ok hq
    exact XS.isub X.here hx rfl hd rfl (kk _ _ _ _ _ e3 hP)
  · obtain ⟨rfl, hq⟩ := bif_ok hr
    obtain ⟨x, y, r, rfl, e3⟩ := oII_ok hq
    exact XS.imul X.here hx rfl hd rfl (kk _ _ _ _ _ e3 hP)
  · obtain ⟨rfl, hq⟩ := bif_ok hr
    obtain ⟨x, y, r, rfl, e3⟩ := oII_ok hq
    exact XS.iand X.here hx rfl hd rfl (kk _ _ _ _ _ e3 hP)
  · obtain ⟨rfl, hq⟩ := bif_ok hr
    obtain ⟨x, y, r, rfl, e3⟩ := oII_ok hq
    exact XT.ior X.here hx rfl hd rfl (kk _ _ _ _ _ e3 hP)
  · obtain ⟨rfl, hq⟩ := bif_ok hr
    obtain ⟨x, y, r, rfl, e3⟩ := oII_ok hq
    exact XT.ixor X.here hx rfl hd rfl (kk _ _ _ _ _ e3 hP)
  · obtain ⟨rfl, hq⟩ := bif_ok hr
    obtain ⟨x, y, r, rfl, e3⟩ := oII_ok hq
    exact XT.ishl X.here hx rfl hd rfl (kk _ _ _ _ _ e3 hP)
  · obtain ⟨rfl, hq⟩ := bif_ok hr
    obtain ⟨x, y, r, rfl, e3⟩ := oII_ok hq
    exact XT.ishr X.here hx rfl hd rfl (kk _ _ _ _ _ e3 hP)
  · obtain ⟨rfl, hq⟩ := bif_ok hr
    obtain ⟨x, y, r, rfl, e3⟩ := oII_ok hq
    exact XT.iushr X.here hx rfl hd rfl (kk _ _ _ _ _ e3 hP)
  · obtain ⟨rfl, hq⟩ := bif_ok hr
    obtain ⟨x, y, r, rfl, e3⟩ := oII_ok hq
    obtain ⟨P', h1, h2, e4⟩ := oAnd_ok e3 hP
    exact XS.idiv X.here hx rfl hd rfl h1 (kk _ _ _ _ _ e4 h2)
  · obtain ⟨rfl, hq⟩ := bif_ok hr
    obtain ⟨x, y, r, rfl, e3⟩ := oII_ok hq
    obtain ⟨P', h1, h2, e4⟩ := oAnd_ok e3 hP
    exact iremM X hx rfl hd rfl h1 (kk _ _ _ _ _ e4 h2)
  · obtain ⟨rfl, hq⟩ := bif_ok hr
    obtain ⟨x, y, r, rfl, e3⟩ := oJJ_ok hq
    exact XT.ladd X.here hx rfl hd rfl (kk _ _ _ _ _ e3 hP)
  · obtain ⟨rfl, hq⟩ := bif_ok hr
    obtain ⟨x, y, r, rfl, e3⟩ := oJJ_ok hq
    exact XT.lsub X.here hx rfl hd rfl (kk _ _ _ _ _ e3 hP)
  · obtain ⟨rfl, hq⟩ := bif_ok hr
    obtain ⟨x, y, r, rfl, e3⟩ := oJJ_ok hq
    exact XT.lmul X.here hx rfl hd rfl (kk _ _ _ _ _ e3 hP)
  · obtain ⟨rfl, hq⟩ := bif_ok hr
    obtain ⟨x, y, r, rfl, e3⟩ := oJJ_ok hq
    exact XT.land X.here hx rfl hd rfl (kk _ _ _ _ _ e3 hP)
  · obtain ⟨rfl, hq⟩ := bif_ok hr
    obtain ⟨x, y, r, rfl, e3⟩ := oJJ_ok hq
    exact XT.lor X.here hx rfl hd rfl (kk _ _ _ _ _ e3 hP)
  · obtain ⟨rfl, hq⟩ := bif_ok hr
    obtain ⟨x, y, r, rfl, e3⟩ := oJJ_ok hq
    exact XT.lxor X.here hx rfl hd rfl (kk _ _ _ _ _ e3 hP)
  · obtain ⟨rfl, hq⟩ := bif_ok hr
    obtain ⟨x, y, r, rfl, e3⟩ := oJJ_ok hq
    exact XT.lcmp X.here hx rfl hd rfl (kk _ _ _ _ _ e3 hP)
  · obtain ⟨rfl, hq⟩ := bif_ok hr
    obtain ⟨x, y, r, rfl, e3⟩ := oJJ_ok hq
    obtain ⟨P', h1, h2, e4⟩ := oAnd_ok e3 hP
    exact XT.ldiv X.here hx rfl hd rfl h1 (kk _ _ _ _ _ e4 h2)
  · obtain ⟨rfl, hq⟩ := bif_ok hr
    obtain ⟨x, y, r, rfl, e3⟩ := oJJ_ok hq
    obtain ⟨P', h1, h2, e4⟩ := oAnd_ok e3 hP
    exact XT.lrem X.here hx rfl hd rfl h1 (by rw [lrem_mod]; exact kk _ _ _ _ _ e4 h2)
  · obtain ⟨rfl, hq⟩ := bif_ok hr
    obtain ⟨x, y, r, rfl, e3⟩ := oJI_ok hq
    exact XT.lshl X.here hx rfl hd rfl (kk _ _ _ _ _ e3 hP)
  · obtain ⟨rfl, hq⟩ := bif_ok hr
    obtain ⟨x, y, r, rfl, e3⟩ := oJI_ok hq
    exact XT.lshr X.here hx rfl hd rfl (kk _ _ _ _ _ e3 hP)
  · obtain ⟨rfl, hq⟩ := bif_ok hr
    obtain ⟨x, y, r, rfl, e3⟩ := oJI_ok hq
    exact XT.lushr X.here hx rfl hd rfl (kk _ _ _ _ _ e3 hP)
  · obtain ⟨rfl, hq⟩ := bif_ok hr
    obtain ⟨v, r, rfl, e3⟩ := oI_ok hq
    exact XS.ineg X.here hx rfl hd rfl (kk _ _ _ _ _ e3 hP)
  · obtain ⟨rfl, hq⟩ := bif_ok hr
    obtain ⟨v, r, rfl, e3⟩ := oI_ok hq
    exact XT.i2l X.here hx rfl hd rfl (kk _ _ _ _ _ e3 hP)
  · obtain ⟨rfl, hq⟩ := bif_ok hr
    obtain ⟨v, r, rfl, e3⟩ := oI_ok hq
    exact XT.i2b X.here hx rfl hd rfl (kk _ _ _ _ _ e3 hP)
  · obtain ⟨rfl, hq⟩ := bif_ok hr
    obtain ⟨v, r, rfl, e3⟩ := oI_ok hq
    exact XT.i2c X.here hx rfl hd rfl (kk _ _ _ _ _ e3 hP)
  · obtain ⟨rfl, hq⟩ := bif_ok hr
    obtain ⟨v, r, rfl, e3⟩ := oI_ok hq
    exact XT.i2s X.here hx rfl hd rfl (kk _ _ _ _ _ e3 hP)
  · obtain ⟨rfl, hq⟩ := bif_ok hr
    obtain ⟨v, r, rfl, e3⟩ := oJ_ok hq
    exact XT.lneg X.here hx rfl hd rfl (kk _ _ _ _ _ e3 hP)
  · obtain ⟨rfl, hq⟩ := bif_ok hr
    obtain ⟨v, r, rfl, e3⟩ := oJ_ok hq
    exact XT.l2i X.here hx rfl hd rfl (kk _ _ _ _ _ e3 hP)
  · obtain ⟨rfl, hq⟩ := bif_ok hr
    obtain ⟨v, r, rfl, e2, e3⟩ := o1_ok hq
    exact XS.dup X.here hx rfl hd rfl e2 (kk _ _ _ _ _ e3 hP)
  · obtain ⟨rfl, hq⟩ := bif_ok hr
    obtain ⟨v, r, rfl, e2, e3⟩ := o1_ok hq
    exact XT.pop X.here hx rfl hd rfl e2 (kk _ _ _ _ _ e3 hP)
  · obtain ⟨rfl, hq⟩ := bif_ok hr
    obtain ⟨v, r, rfl, e2, e3⟩ := o1_ok hq
    obtain ⟨w, r', rfl, e4, e5⟩ := o1_ok e3
    exact XT.dupX1 X.here hx rfl hd rfl e2 e4 (kk _ _ _ _ _ e5 hP)
  · obtain ⟨rfl, hq⟩ := bif_ok hr
    rcases oD2_ok hq with ⟨v, r, rfl, e3⟩ | ⟨v, w, r, rfl, e1, e2, e3⟩
    · exact XT.dup2L X.here hx rfl hd rfl (kk _ _ _ _ _ e3 hP)
    · exact XT.dup2 X.here hx rfl hd rfl e1 e2 (kk _ _ _ _ _ e3 hP)
  · obtain ⟨rfl, hq⟩ := bif_ok hr
    obtain ⟨v, e1, e3⟩ := oLdI'_ok hq
    obtain ⟨L', e4, e5⟩ := oSt_ok e3
    exact XS.iinc X.here hx rfl hd e1 e4 (kk _ _ _ _ _ e5 hP)
  · obtain ⟨rfl, hq⟩ := bif_ok hr
    obtain ⟨q, e1, e2, e3⟩ := oTo_ok hq
    exact XS.goto X.here hx rfl rfl hd e1 e2 (kk _ _ _ _ _ e3 hP)
  · obtain ⟨rfl, hq⟩ := bif_ok hr
    obtain ⟨v, r, rfl, e3⟩ := oI_ok hq
    rcases oB_ok e3 with ⟨o', e4⟩ | ⟨o', e4⟩
    · obtain ⟨P', h1, h2, e5⟩ := oAnd_ok e4 hP
      obtain ⟨q, e6, e7, e8⟩ := oTo_ok e5
      exact XS.ifYes X.here hx rfl rfl hd rfl (cI0_ok h1) e6 e7 (kk _ _ _ _ _ e8 h2)
    · obtain ⟨P', h1, h2, e5⟩ := oAnd_ok e4 hP
      exact XS.ifNo X.here hx rfl hd rfl (cI0_ok h1) (kk _ _ _ _ _ e5 h2)
  · obtain ⟨rfl, hq⟩ := bif_ok hr
    obtain ⟨x, y, r, rfl, e3⟩ := oII_ok hq
    rcases oB_ok e3 with ⟨o', e4⟩ | ⟨o', e4⟩
    · obtain ⟨P', h1, h2, e5⟩ := oAnd_ok e4 hP
      obtain ⟨q, e6, e7, e8⟩ := oTo_ok e5
      exact XS.icmpYes X.here hx rfl rfl hd rfl (cII_ok h1) e6 e7 (kk _ _ _ _ _ e8 h2)
    · obtain ⟨P', h1, h2, e5⟩ := oAnd_ok e4 hP
      exact XS.icmpNo X.here hx rfl hd rfl (cII_ok h1) (kk _ _ _ _ _ e5 h2)
  · obtain ⟨rfl, hq⟩ := bif_ok hr
    rcases oNul_ok hq with ⟨r, rfl, e3⟩ | ⟨b, r, rfl, e3⟩
    · obtain ⟨q, e6, e7, e8⟩ := oTo_ok e3
      exact XS.ifnullYes X.here hx rfl rfl hd rfl e6 e7 (kk _ _ _ _ _ e8 hP)
    · exact XS.ifnullNo X.here hx rfl hd rfl (kk _ _ _ _ _ e3 hP)
  · obtain ⟨rfl, hq⟩ := bif_ok hr
    rcases oNul_ok hq with ⟨r, rfl, e3⟩ | ⟨b, r, rfl, e3⟩
    · exact XT.ifnonnullNo X.here hx rfl hd rfl (kk _ _ _ _ _ e3 hP)
    · obtain ⟨q, e6, e7, e8⟩ := oTo_ok e3
      exact XT.ifnonnullYes X.here hx rfl rfl hd rfl e6 e7 (kk _ _ _ _ _ e8 hP)
  · obtain ⟨rfl, hq⟩ := bif_ok hr
    obtain ⟨y, r1, rfl, ey, e2⟩ := oA_ok hq
    obtain ⟨x, r, rfl, ex, e3⟩ := oA_ok e2
    rcases oB_ok e3 with ⟨o', e4⟩ | ⟨o', e4⟩
    · obtain ⟨P', h1, h2, e5⟩ := oAnd_ok e4 hP
      obtain ⟨q, e6, e7, e8⟩ := oTo_ok e5
      exact XT.acmpYes X.here hx rfl rfl hd rfl ex ey (cAA_ok h1) e6 e7 (kk _ _ _ _ _ e8 h2)
    · obtain ⟨P', h1, h2, e5⟩ := oAnd_ok e4 hP
      exact XT.acmpNo X.here hx rfl hd rfl ex ey (cAA_ok h1) (kk _ _ _ _ _ e5 h2)
  · obtain ⟨rfl, hq⟩ := bif_ok hr
    obtain ⟨j, a, r, rfl, e3⟩ := oIR_ok hq
    obtain ⟨v, o', e4⟩ := oV_ok e3
    obtain ⟨P', ⟨cl, h1, h3, h4⟩, h2, e5⟩ := oAnd_ok e4 hP
    exact X.iaload hx (by rw [eT]; exact h1.1) (State.isArrayOf_alike hZ.alike h1.2.1) h1.2.2 h3 h4 (g := mkF m pc L _) rfl rfl hd _ (kk _ _ _ _ _ e5 h2)
  · obtain ⟨rfl, hq⟩ := bif_ok hr
    obtain ⟨j, a, r, rfl, e3⟩ := oIR_ok hq
    obtain ⟨v, o', e4⟩ := oV_ok e3
    obtain ⟨P', ⟨cl, h1, h3, h4⟩, h2, e5⟩ := oAnd_ok e4 hP
    exact X.laload hx (by rw [eT]; exact h1.1) (State.isArrayOf_alike hZ.alike h1.2.1) h1.2.2 h3 h4 (g := mkF m pc L _) rfl rfl hd _ (kk _ _ _ _ _ e5 h2)
  · obtain ⟨rfl, hq⟩ := bif_ok hr
    obtain ⟨j, a, r, rfl, e3⟩ := oIR_ok hq
    obtain ⟨v, o', e4⟩ := oV_ok e3
    obtain ⟨P', ⟨cl, h1, h3, h4⟩, h2, e5⟩ := oAnd_ok e4 hP
    exact X.caload hx (by rw [eT]; exact h1.1) (State.isArrayOf_alike hZ.alike h1.2.1) h1.2.2 h3 h4 (g := mkF m pc L _) rfl rfl hd _ (kk _ _ _ _ _ e5 h2)
  · obtain ⟨rfl, hq⟩ := bif_ok hr
    obtain ⟨j, a, r, rfl, e3⟩ := oIR_ok hq
    obtain ⟨v, o', e4⟩ := oV_ok e3
    obtain ⟨P', ⟨cl, h1, h3, h4⟩, h2, e5⟩ := oAnd_ok e4 hP
    exact X.baloadBytes hx (by rw [eT]; exact h1.1) (State.isArrayOf_alike hZ.alike h1.2.1) h1.2.2 h3 h4 (g := mkF m pc L _) rfl rfl hd _ (kk _ _ _ _ _ e5 h2)
  · obtain ⟨rfl, hq⟩ := bif_ok hr
    obtain ⟨j, a, r, rfl, e3⟩ := oIR_ok hq
    obtain ⟨v, o', e4⟩ := oV_ok e3
    obtain ⟨P', ⟨ty, hty, cl, h1, h3, h4⟩, h2, e5⟩ := oAnd_ok e4 hP
    exact X.aaload hx (by rw [eT]; exact h1.1) (State.isArrayOf_alike hZ.alike h1.2.1) hty h1.2.2 h3 h4 (g := mkF m pc L _) rfl rfl hd _ (kk _ _ _ _ _ e5 h2)
  · obtain ⟨rfl, hq⟩ := bif_ok hr
    obtain ⟨a, r, rfl, e3⟩ := oR_ok hq
    obtain ⟨n, o', e4⟩ := oN_ok e3
    obtain ⟨P', ⟨cl, ty, h1, rfl⟩, h2, e5⟩ := oAnd_ok e4 hP
    exact X.arraylength hx (by rw [eT]; exact h1.1) (State.isArrayOf_alike hZ.alike h1.2.1) (g := mkF m pc L _) rfl rfl hd _ (kk _ _ _ _ _ e5 h2)
  · obtain ⟨rfl, hq⟩ := bif_ok hr
    obtain ⟨v, o', e4⟩ := oN_ok hq
    obtain ⟨P', h1, h2, e5⟩ := oAnd_ok e4 hP
    exact Stand.ldcI X hx hown (mvT hZ h1) rfl hd (kk _ _ _ _ _ e5 h2)
  · obtain ⟨rfl, hq⟩ := bif_ok hr
    obtain ⟨v, o', e4⟩ := oN_ok hq
    obtain ⟨P', h1, h2, e5⟩ := oAnd_ok e4 hP
    exact Stand.ldcWI X hx hown (mvT hZ h1) rfl hd (kk _ _ _ _ _ e5 h2)
  · obtain ⟨rfl, hq⟩ := bif_ok hr
    obtain ⟨v, o', e4⟩ := oM_ok hq
    obtain ⟨P', h1, h2, e5⟩ := oAnd_ok e4 hP
    exact Stand.ldc2J X hx hown (mvT hZ h1) rfl hd (kk _ _ _ _ _ e5 h2)
  · cases hr
theorem orun_ok (X : Stand p l e R s m args below meth c T locs cells slots) (hx : p.tables.exec = Jvm.exec) (hZ : Z.Warmed39 s.vm) (hown : s.vm.findClass own = some m.cls) (eT : T.heap = h) {b : ByteArray} (hby : c.code = b) {target : State} : ∀ (t : OTr) (o : List Value) (pc : Nat) (L : Array Slot) (S : List Value) (P : Prop) (pc' : Nat) (L' : Array Slot) (S' : List Value),
    okB b t = true → orun Z h a0 own t o pc L S = some (P, pc', L', S') → P → Steps p.tables e below (T.setTop (mkF m pc' L' S')) target → Steps p.tables e below (T.setTop (mkF m pc L S)) target
  | [], o, pc, L, S, P, pc', L', S', _, hr, _, hs => by
    simp only [orun, Option.some.injEq, Prod.mk.injEq] at hr
    obtain ⟨-, rfl, rfl, rfl⟩ := hr
    exact hs
  | y :: t, o, pc, L, S, P, pc', L', S', hok, hr, hP, hs => by
    simp only [okB, List.all_cons, Bool.and_eq_true, decide_eq_true_eq] at hok
    obtain ⟨h1, h2⟩ := bif_ok hr
    subst h1
    exact ost_ok X hx hZ hown eT h2 hP (hb hby hok.1) fun pc L S o P' q hP' => orun_ok X hx hZ hown eT hby t o pc L S P' pc' L' S' hok.2 q hP' hs
end OwnRun
theorem nb1 : nar .boolean (1 : Int32) = 1 := by decide
theorem nb0 : nar .boolean (0 : Int32) = 0 := by decide
theorem sb1 : some (Value.int (nar .boolean (1 : Int32))) = some (.int 1) := by rw [nb1]
theorem sb0 : some (Value.int (nar .boolean (0 : Int32))) = some (.int 0) := by rw [nb0]
section OwnGo
/-- where the run stands (the narrow frame): its heap is h; what was written lies in new cells -/
def Nw (Z : State) (n0 : Nat) (h : Heap) (p : Program) (l : Launch) (e : Env) (R : Room) (s : State) (m : MethodId) (args : Array Value) (below : List Frame) (meth : Method) (c : Code) (T : State) (cells slots : Nat) : Prop :=
  ∃ locs, Stand p l e R s m args below meth c T locs cells slots ∧ T.heap = h ∧ Fr n0 locs ∧ n0 ≤ h.size ∧ Z.Warmed39 s.vm
def Cx (Z : State) (own : String) (b : ByteArray) (ml : Nat) (p : Program) (m : MethodId) (c : Code) : Prop := p.tables.exec = Jvm.exec ∧ Z.vm.findClass own = some m.cls ∧ c.code = b ∧ c.maxLocals = ml
def Ld (p : Program) (e : Env) (below : List Frame) (T : State) (g : JFrame) (T' : State) (g' : JFrame) : Prop := ∀ target, Steps p.tables e below (T'.setTop g') target → Steps p.tables e below (T.setTop g) target
/-- the frame returns v -/
def Fn (p : Program) (e : Env) (below : List Frame) (m : MethodId) (T : State) (g : JFrame) (v : Option Value) : Prop :=
  ∀ fs : List Frame, (∀ (f : JFrame) (acts : List Action), f.method = m → f.locked = none → f.entered = [] → (doReturn e (T.setTop f) acts v).1 = T.setFrames fs) → Steps p.tables e below (T.setTop g) (T.setFrames fs)
variable {p : Program} {l : Launch} {e : Env} {R : Room} {s : State} {m : MethodId} {args : Array Value} {below : List Frame} {meth : Method} {c : Code} {T T1 T2 : State} {cells slots : Nat} {Z : State} {a0 : Array Value} {h h1 h2 : Heap} {own : String} {n0 : Nat} {b : ByteArray} {ml : Nat} {g g1 g2 : JFrame}
theorem Ld.refl : Ld p e below T g T g := fun _ k => k
theorem Ld.trans (A : Ld p e below T g T1 g1) (B : Ld p e below T1 g1 T2 g2) : Ld p e below T g T2 g2 := fun t k => A t (B t k)
theorem Ld.cast {g' : JFrame} (A : Ld p e below T g T1 g1) (q : g1 = g') : Ld p e below T g T1 g' := q ▸ A
theorem Nw.size (N : Nw Z n0 h p l e R s m args below meth c T cells slots) : n0 ≤ h.size := by obtain ⟨_, _, _, _, q, _⟩ := N; exact q
theorem Nw.mono {cells' slots' : Nat} (N : Nw Z n0 h p l e R s m args below meth c T cells slots) (q1 : cells ≤ cells') (q2 : slots ≤ slots') : Nw Z n0 h p l e R s m args below meth c T cells' slots' := by
  obtain ⟨L, X, r⟩ := N; exact ⟨L, X.mono q1 q2, r⟩
theorem Nw.old (N : Nw Z n0 h p l e R s m args below meth c T cells slots) (O : Old Z n0 s.heap) : Old Z n0 h := by
  obtain ⟨locs, X, eT, F, q, hZ⟩ := N
  subst eT
  obtain ⟨-, s2, -, -, -, s6⟩ := X.same
  refine ⟨O.1, Nat.le_trans O.2.1 s2, fun a c hc => ?_⟩
  obtain ⟨c', h1, h2, h3, h4⟩ := s6 a c (O.2.2 a c hc)
  have ha : a < n0 := O.1 ▸ (Array.getElem?_eq_some_iff.mp hc).1
  have e : c'.slots = c.slots := Array.ext_getElem? fun i => h4 i fun q => absurd (F _ q) (Nat.not_le.mpr ha)
  rw [e] at h2
  exact h1.trans (by rw [h2])
theorem cx_own (K : Cx Z own b ml p m c) (hZ : Z.Warmed39 s.vm) : s.vm.findClass own = some m.cls := by rw [hZ.alike.findClass]; exact K.2.1
theorem goRun (K : Cx Z own b ml p m c) (N : Nw Z n0 h p l e R s m args below meth c T cells slots) (a0 : Array Value) (t : OTr) (o : List Value) {pc : Nat} {L : Array Slot} {S : List Value} {P : Prop} {pc' : Nat} {L' : Array Slot} {S' : List Value}
    (ok : okB b t = true) (hr : orun Z h a0 own t o pc L S = some (P, pc', L', S')) (hP : P) : Ld p e below T (mkF m pc L S) T (mkF m pc' L' S') := fun _ k => by
  obtain ⟨_, X, eT, _, _, hZ⟩ := N
  exact orun_ok X K.1 hZ (cx_own K hZ) eT K.2.2.1 t o pc L S P pc' L' S' ok hr hP k
theorem goNew (K : Cx Z own b ml p m c) (N : Nw Z n0 h p l e R s m args below meth c T cells slots) {C : String} {index n : Nat} (w : (Jvm.Cond.classLink own index C).before a0 Z = true) (wi : (Jvm.Cond.instantiable C n).before a0 Z = true) (wz : (Jvm.Cond.initialized C).before a0 Z = true)
    {pc : Nat} {L : Array Slot} {S : List Value} (hd : decode b pc = .ok (.new index, 3)) (hc : cells + 1 ≤ R.cells) (hl : slots + n ≤ R.slots) :
    ∃ T' h' a, a = h.size ∧ Nw Z n0 h' p l e R s m args below meth c T' (cells + 1) (slots + n) ∧ Ext h h' ∧ Exa Z h' a C ∧ (∀ {O nm d : String} {ty : FieldType}, Laid Z a0 C O nm d → parseFieldDescriptor d = some ty → Fld Z h' a O nm d (defaultValue ty)) ∧ Ld p e below T (mkF m pc L S) T' (mkF m (pc + 3) L (.ref a :: S)) := by
  obtain ⟨Lc, X, eT, F, q, hZ⟩ := N
  obtain ⟨T', h', X', e', E, A, D, -, st⟩ := newO X K.1 hZ (cx_own K hZ) w wi wz eT (g := mkF m pc L S) rfl (hb K.2.2.1 hd) hc hl
  exact ⟨T', h', _, rfl, ⟨Lc, X', e', F, Nat.le_trans q E.1, hZ⟩, E, A, D, st⟩
theorem goGet (K : Cx Z own b ml p m c) (N : Nw Z n0 h p l e R s m args below meth c T cells slots) {O n d : String} {index : Nat} (w : (Jvm.Cond.fieldLink own index O n d).before a0 Z = true) {a : Addr} {v : Value} (F : Fld Z h a O n d v)
    {pc : Nat} {L : Array Slot} {S : List Value} (hd : decode b pc = .ok (.getfield index, 3)) : ∃ T', Nw Z n0 h p l e R s m args below meth c T' cells slots ∧ Ld p e below T (mkF m pc L (.ref a :: S)) T' (mkF m (pc + 3) L (v :: S)) := by
  obtain ⟨Lc, X, eT, r, q, hZ⟩ := N
  obtain ⟨T', X', e', st⟩ := getF X K.1 hZ (cx_own K hZ) (host := "") (Or.inl w) Via.refl eT F (g := mkF m pc L (.ref a :: S)) rfl rfl (hb K.2.2.1 hd)
  exact ⟨T', ⟨Lc, X', e', r, q, hZ⟩, st⟩
theorem goSta (K : Cx Z own b ml p m c) (N : Nw Z n0 h p l e R s m args below meth c T cells slots) {O n d : String} {index : Nat} (w : (Jvm.Cond.fieldLink own index O n d).before a0 Z = true) {v : Value} (F : Sta Z h O n d v)
    {pc : Nat} {L : Array Slot} {S : List Value} (hd : decode b pc = .ok (.getstatic index, 3)) : ∃ T', Nw Z n0 h p l e R s m args below meth c T' cells slots ∧ Ld p e below T (mkF m pc L S) T' (mkF m (pc + 3) L (v :: S)) := by
  obtain ⟨Lc, X, eT, r, q, hZ⟩ := N
  obtain ⟨T', X', e', st⟩ := getS (host := "") X K.1 hZ (cx_own K hZ) w Via.refl eT F (g := mkF m pc L S) rfl (hb K.2.2.1 hd)
  exact ⟨T', ⟨Lc, X', e', r, q, hZ⟩, st⟩
theorem goPut (K : Cx Z own b ml p m c) (N : Nw Z n0 h p l e R s m args below meth c T cells slots) {O n d C : String} {index kk : Nat} {ty : FieldType} (w : (Jvm.Cond.fieldLink own index O n d).before a0 Z = true) {a : Addr} {v old : Value} (F : Fld Z h a O n d old) (E : Exa Z h a C)
    (Ly : (Jvm.Cond.lays C O n d).before a0 Z = true ∨ ((Jvm.Cond.laysFinal C O n d).before a0 Z = true ∧ own = O ∧ meth.name = "<init>")) (wi : (Jvm.Cond.instantiable C kk).before a0 Z = true) (hty : parseFieldDescriptor d = some ty) (hn : narrow ty v = v) (hf : fits ty v = true) (ha : n0 ≤ a)
    {pc : Nat} {L : Array Slot} {S : List Value} (hd : decode b pc = .ok (.putfield index, 3)) :
    ∃ T' h', Nw Z n0 h' p l e R s m args below meth c T' cells slots ∧ Wr h h' a (Jvm.RoadKit.slotOf Z O n d) v ∧ Ld p e below T (mkF m pc L (v :: .ref a :: S)) T' (mkF m (pc + 3) L S) := by
  obtain ⟨Lc, X, eT, r, q, hZ⟩ := N
  obtain ⟨T', h', X', e', W, st⟩ := putF X K.1 hZ (cx_own K hZ) (host := "") (Or.inl w) Via.refl eT F E Ly wi hty hn hf (g := mkF m pc L (v :: .ref a :: S)) rfl rfl (hb K.2.2.1 hd)
  exact ⟨T', h', ⟨_, X', e', Fr.snoc X' r ha, by rw [W.size]; exact q, hZ⟩, W, st⟩
theorem goInit (K : Cx Z own b ml p m c) (N : Nw Z n0 h p l e R s m args below meth c T cells slots) {index : Nat} (w1 : (Jvm.Cond.methodLink own index ⟨"java/lang/Object", "<init>", "()V"⟩).before a0 Z = true) (w2 : (Jvm.Cond.instanceMethod ⟨"java/lang/Object", "<init>", "()V"⟩).before a0 Z = true) {ob : ByteArray} (w3 : (Jvm.Cond.code ⟨"java/lang/Object", "<init>", "()V"⟩ ob 1 none).before a0 Z = true) (ho : ob = ⟨#[0xb1]⟩)
    {a : Addr} {pc : Nat} {L : Array Slot} {S : List Value} (hsz : L.size = ml) (hd : decode b pc = .ok (.invokespecial index, 3)) (hf : 1 ≤ R.frames) {W : Nat} (hW : (S.map fun v => v.category).sum ≤ W) (hlo : W + 12 ≤ R.locals) :
    ∃ T', Nw Z n0 h p l e R s m args below meth c T' cells slots ∧ Ld p e below T (mkF m pc L (.ref a :: S)) T' (mkF m (pc + 3) L S) := by
  subst ho
  obtain ⟨Lc, X, eT, r, q, hZ⟩ := N
  obtain ⟨T', X', e', st⟩ := initO X K.1 hZ (cx_own K hZ) w1 w2 w3 eT (g := mkF m pc L (.ref a :: S)) rfl (by rw [K.2.2.2]; exact hsz) rfl (hb K.2.2.1 hd) hf (W := W) (by show 2 * 0 + _ ≤ _; omega) hlo
  exact ⟨T', ⟨Lc, X', e', r, q, hZ⟩, st⟩
theorem goNewP (K : Cx Z own b ml p m c) (N : Nw Z n0 h p l e R s m args below meth c T cells slots) {aty : ArrayType} (w : (Jvm.Cond.arrayClass (newarray.typeOf aty)).before a0 Z = true) {n : Int32} (hn : ¬ n < 0) {cap : Nat} (hcap : n.toNatClampNeg ≤ cap) (hbg : cap * 8 ≤ 536870912) (hc : cells + 1 ≤ R.cells) (hl : slots + cap ≤ R.slots)
    {pc : Nat} {L : Array Slot} {S : List Value} (hd : decode b pc = .ok (.newarray aty, 2)) :
    ∃ T' h' a cA, a = h.size ∧ Nw Z n0 h' p l e R s m args below meth c T' (cells + 1) (slots + cap) ∧ Ext h h' ∧ Arr Z h' a (newA cA (newarray.typeOf aty) n) (newarray.typeOf aty) ∧ Ld p e below T (mkF m pc L (.int n :: S)) T' (mkF m (pc + 2) L (.ref a :: S)) := by
  obtain ⟨Lc, X, eT, r, q, hZ⟩ := N
  obtain ⟨T', h', cA, X', e', E, A, st⟩ := newP X K.1 hZ w eT (g := mkF m pc L (.int n :: S)) rfl (hb K.2.2.1 hd) rfl hn hcap hbg hc hl
  exact ⟨T', h', _, cA, rfl, ⟨Lc, X', e', r, Nat.le_trans q E.1, hZ⟩, E, A, st⟩
theorem goStI (K : Cx Z own b ml p m c) (N : Nw Z n0 h p l e R s m args below meth c T cells slots) {a : Addr} {cl : Cell} (A : Arr Z h a cl .int) {j x : Int32} (hj : ¬ (j < 0 ∨ cl.slots.size ≤ j.toNatClampNeg)) (ha : n0 ≤ a) {pc : Nat} {L : Array Slot} {S : List Value} (hd : decode b pc = .ok (.iastore, 1)) :
    ∃ T' h', Nw Z n0 h' p l e R s m args below meth c T' cells slots ∧ Wr h h' a j.toNatClampNeg (.int x) ∧ Ld p e below T (mkF m pc L (.int x :: .int j :: .ref a :: S)) T' (mkF m (pc + 1) L S) := by
  obtain ⟨Lc, X, eT, r, q, hZ⟩ := N
  obtain ⟨T', h', X', e', W, st⟩ := stI X K.1 hZ eT A hj (g := mkF m pc L (.int x :: .int j :: .ref a :: S)) rfl rfl (hb K.2.2.1 hd)
  exact ⟨T', h', ⟨_, X', e', Fr.snoc X' r ha, by rw [W.size]; exact q, hZ⟩, W, st⟩
theorem goStJ (K : Cx Z own b ml p m c) (N : Nw Z n0 h p l e R s m args below meth c T cells slots) {a : Addr} {cl : Cell} (A : Arr Z h a cl .long) {j : Int32} {x : Int64} (hj : ¬ (j < 0 ∨ cl.slots.size ≤ j.toNatClampNeg)) (ha : n0 ≤ a) {pc : Nat} {L : Array Slot} {S : List Value} (hd : decode b pc = .ok (.lastore, 1)) :
    ∃ T' h', Nw Z n0 h' p l e R s m args below meth c T' cells slots ∧ Wr h h' a j.toNatClampNeg (.long x) ∧ Ld p e below T (mkF m pc L (.long x :: .int j :: .ref a :: S)) T' (mkF m (pc + 1) L S) := by
  obtain ⟨Lc, X, eT, r, q, hZ⟩ := N
  obtain ⟨T', h', X', e', W, st⟩ := stJ X K.1 hZ eT A hj (g := mkF m pc L (.long x :: .int j :: .ref a :: S)) rfl rfl (hb K.2.2.1 hd)
  exact ⟨T', h', ⟨_, X', e', Fr.snoc X' r ha, by rw [W.size]; exact q, hZ⟩, W, st⟩
theorem goStC (K : Cx Z own b ml p m c) (N : Nw Z n0 h p l e R s m args below meth c T cells slots) {a : Addr} {cl : Cell} (A : Arr Z h a cl .char) {j x : Int32} (hj : ¬ (j < 0 ∨ cl.slots.size ≤ j.toNatClampNeg)) (ha : n0 ≤ a) {pc : Nat} {L : Array Slot} {S : List Value} (hd : decode b pc = .ok (.castore, 1)) :
    ∃ T' h', Nw Z n0 h' p l e R s m args below meth c T' cells slots ∧ Wr h h' a j.toNatClampNeg (.int (nar .char x)) ∧ Ld p e below T (mkF m pc L (.int x :: .int j :: .ref a :: S)) T' (mkF m (pc + 1) L S) := by
  obtain ⟨Lc, X, eT, r, q, hZ⟩ := N
  obtain ⟨T', h', X', e', W, st⟩ := stC X K.1 hZ eT A hj (g := mkF m pc L (.int x :: .int j :: .ref a :: S)) rfl rfl (hb K.2.2.1 hd)
  exact ⟨T', h', ⟨_, X', e', Fr.snoc X' r ha, by rw [W.size]; exact q, hZ⟩, W, st⟩
theorem goStB (K : Cx Z own b ml p m c) (N : Nw Z n0 h p l e R s m args below meth c T cells slots) {a : Addr} {cl : Cell} (A : Arr Z h a cl .byte) {j x : Int32} (hj : ¬ (j < 0 ∨ cl.slots.size ≤ j.toNatClampNeg)) (ha : n0 ≤ a) {pc : Nat} {L : Array Slot} {S : List Value} (hd : decode b pc = .ok (.bastore, 1)) :
    ∃ T' h', Nw Z n0 h' p l e R s m args below meth c T' cells slots ∧ Wr h h' a j.toNatClampNeg (.int (nar .byte x)) ∧ Ld p e below T (mkF m pc L (.int x :: .int j :: .ref a :: S)) T' (mkF m (pc + 1) L S) := by
  obtain ⟨Lc, X, eT, r, q, hZ⟩ := N
  obtain ⟨T', h', X', e', W, st⟩ := stB X K.1 hZ eT A hj (g := mkF m pc L (.int x :: .int j :: .ref a :: S)) rfl rfl (hb K.2.2.1 hd)
  exact ⟨T', h', ⟨_, X', e', Fr.snoc X' r ha, by rw [W.size]; exact q, hZ⟩, W, st⟩
/-- what a body does: it returns v, leaves the heap h' with Q v h', writes new cells alone -/
def Con (l : Launch) (Z : State) (n0 : Nat) (y : MethodName) (bytes : ByteArray) (maxL : Nat) (ret : Option FieldType) (ws : List Jvm.Cond) (rm : Room) (as' : Array Value) (h : Heap) (Q : Option Value → Heap → Prop) : Prop :=
  n0 ≤ h.size → MetFree l y (head1 (Jvm.Cond.code y bytes maxL ret :: ws) rm) (fun a U => a = as' ∧ Z.Warmed39 U.vm ∧ U.heap = h) (fun _ _ _ _ _ => True) (fun _ U o U' => ∃ v L, o = .returned v ∧ (n0 ≤ U'.heap.size ∧ Fr n0 L ∧ Q v U'.heap) ∧ FrameEnd U o U' L rm.cells rm.slots)
theorem Con.of {y : MethodName} {bytes : ByteArray} {maxL : Nat} {ret : Option FieldType} {ws : List Jvm.Cond} {rm : Room} {as' : Array Value} {Q : Option Value → Heap → Prop} (pn : plainName y.cls = true) {L0 : Array Slot} (ef : ∀ m, entryFrame m as' maxL = mkF m 0 L0 [])
    (body : ∀ {p : Program} {e : Env} {s : State} {m : MethodId} {below : List Frame} {meth : Method} {c : Code} {T : State}, Cx Z y.cls bytes maxL p m c → meth.sig.returnType = ret → meth.name = y.name → Nw Z n0 h p l e rm s m as' below meth c T 0 0 →
      ∃ (v : Option Value) (T' : State) (g' : JFrame) (h' : Heap) (k n : Nat), Nw Z n0 h' p l e rm s m as' below meth c T' k n ∧ k ≤ rm.cells ∧ n ≤ rm.slots ∧ (ret = none → v = none) ∧ Q v h' ∧ Ld p e below T (mkF m 0 L0 []) T' g' ∧ Fn p e below m T' g' v) : Con l Z n0 y bytes maxL ret ws rm as' h Q := fun hn => by
  refine MetFree.of_bodySF (plainFor_of_name pn) hisR ?_
  intro p e s m args below meth c s₁ Bd hml0 hP hK
  obtain ⟨rfl, hZ, hh⟩ := hP
  have hown : s.vm.findClass y.cls = some m.cls := findClass_of_methodNamed Bd.named
  have X0 := Stand.of_body Bd
  have e0 : s₁.heap = h := by rw [← hh, Bd.state]; rfl
  obtain ⟨v, T', g', h', k, n, ⟨Lc, X, eT, F, q, -⟩, q1, q2, q3, hQ, hL, hF⟩ := body (T := s₁) ⟨Bd.exec, by rw [← hZ.alike.findClass]; exact hown, Bd.bytes, hml0⟩ Bd.returns (name_of_methodNamed Bd.named Bd.method).1 ⟨[], X0, e0, Fr.nil n0, hn, hZ⟩
  subst eT
  obtain ⟨fs, hr, hrun, hended, hW, hsame⟩ := X.leave (v := v) (fun q => q3 (by rw [← Bd.returns]; exact q))
  refine ⟨_, _, castTop (ef m) (hL _ (hF fs hr)), hrun, hended, v, _, rfl, ⟨q, F, hQ⟩, ⟨_, rfl⟩, hW, hsame.mono q1 q2⟩
theorem Con.ofH {y : MethodName} {bytes : ByteArray} {maxL : Nat} {ret : Option FieldType} {ws : List Jvm.Cond} {rm : Room} {as' : Array Value} {Q : Option Value → Heap → Prop} (pn : plainFor y = true) {L0 : Array Slot} (ef : ∀ m, entryFrame m as' maxL = mkF m 0 L0 [])
    (body : ∀ {p : Program} {e : Env} {s : State} {m : MethodId} {below : List Frame} {meth : Method} {c : Code} {T : State}, Cx Z y.cls bytes maxL p m c → meth.sig.returnType = ret → meth.name = y.name → Nw Z n0 h p l e rm s m as' below meth c T 0 0 → s.heap = h →
      ∃ (v : Option Value) (T' : State) (g' : JFrame) (h' : Heap) (k n : Nat), Nw Z n0 h' p l e rm s m as' below meth c T' k n ∧ k ≤ rm.cells ∧ n ≤ rm.slots ∧ (ret = none → v = none) ∧ Q v h' ∧ Ld p e below T (mkF m 0 L0 []) T' g' ∧ Fn p e below m T' g' v) : Con l Z n0 y bytes maxL ret ws rm as' h Q := fun hn => by
  refine MetFree.of_bodySF pn hisR ?_
  intro p e s m args below meth c s₁ Bd hml0 hP hK
  obtain ⟨rfl, hZ, hh⟩ := hP
  have hown : s.vm.findClass y.cls = some m.cls := findClass_of_methodNamed Bd.named
  have X0 := Stand.of_body Bd
  have e0 : s₁.heap = h := by rw [← hh, Bd.state]; rfl
  obtain ⟨v, T', g', h', k, n, ⟨Lc, X, eT, F, q, -⟩, q1, q2, q3, hQ, hL, hF⟩ := body (T := s₁) ⟨Bd.exec, by rw [← hZ.alike.findClass]; exact hown, Bd.bytes, hml0⟩ Bd.returns (name_of_methodNamed Bd.named Bd.method).1 ⟨[], X0, e0, Fr.nil n0, hn, hZ⟩ hh
  subst eT
  obtain ⟨fs, hr, hrun, hended, hW, hsame⟩ := X.leave (v := v) (fun q => q3 (by rw [← Bd.returns]; exact q))
  refine ⟨_, _, castTop (ef m) (hL _ (hF fs hr)), hrun, hended, v, _, rfl, ⟨q, F, hQ⟩, ⟨_, rfl⟩, hW, hsame.mono q1 q2⟩
theorem finI {L : Array Slot} {S : List Value} {z : Int32} {pc : Nat} (K : Cx Z own b ml p m c) (N : Nw Z n0 h p l e R s m args below meth c T cells slots) (hret : meth.sig.returnType = some .int) (hd : decode b pc = .ok (.ireturn, 1)) : Fn p e below m T (mkF m pc L (.int z :: S)) (some (.int z)) := fun fs hl => by
  obtain ⟨_, X, -⟩ := N
  exact retOut X K.1 (t := .int) (i := .ireturn) hret rfl (Or.inl ⟨rfl, Or.inl rfl, z, rfl⟩) (hb K.2.2.1 hd) hl
theorem finN {L : Array Slot} {S : List Value} {z : Int32} {t : FieldType} {pc : Nat} (K : Cx Z own b ml p m c) (N : Nw Z n0 h p l e R s m args below meth c T cells slots) (hret : meth.sig.returnType = some t) (ht : t = .boolean ∨ t = .byte ∨ t = .char ∨ t = .short) (hd : decode b pc = .ok (.ireturn, 1)) : Fn p e below m T (mkF m pc L (.int z :: S)) (some (.int (nar t z))) := fun fs hl => by
  obtain ⟨_, X, -⟩ := N
  exact retN X K.1 (t := t) hret ht (hb K.2.2.1 hd) hl
theorem finJ {L : Array Slot} {S : List Value} {z : Int64} {pc : Nat} (K : Cx Z own b ml p m c) (N : Nw Z n0 h p l e R s m args below meth c T cells slots) (hret : meth.sig.returnType = some .long) (hd : decode b pc = .ok (.lreturn, 1)) : Fn p e below m T (mkF m pc L (.long z :: S)) (some (.long z)) := fun fs hl => by
  obtain ⟨_, X, -⟩ := N
  exact retOut X K.1 (t := .long) (i := .lreturn) hret rfl (Or.inr (Or.inl ⟨rfl, rfl, z, rfl⟩)) (hb K.2.2.1 hd) hl
theorem finA {L : Array Slot} {S : List Value} {z : Value} {t : FieldType} {pc : Nat} (K : Cx Z own b ml p m c) (N : Nw Z n0 h p l e R s m args below meth c T cells slots) (hret : meth.sig.returnType = some t) (ht : t.isReference = true) (hn : narrow t z = z) (hz : z.isRef = true) (hd : decode b pc = .ok (.areturn, 1)) : Fn p e below m T (mkF m pc L (z :: S)) (some z) := fun fs hl => by
  obtain ⟨_, X, -⟩ := N
  exact retOut X K.1 (t := t) (i := .areturn) hret hn (Or.inr (Or.inr (Or.inr (Or.inr ⟨rfl, ht, hz⟩)))) (hb K.2.2.1 hd) hl
theorem finV {L : Array Slot} {pc : Nat} (K : Cx Z own b ml p m c) (N : Nw Z n0 h p l e R s m args below meth c T cells slots) (hret : meth.sig.returnType = none) (hd : decode b pc = .ok (.return_, 1)) : Fn p e below m T (mkF m pc L []) none := fun fs hl => by
  obtain ⟨_, X, -⟩ := N
  exact X.returnOut K.1 hret (hb K.2.2.1 hd) hl
section OwnCalls
variable {y : MethodName} {bytes : ByteArray} {maxL : Nat} {ret : Option FieldType} {rm : Room} {index : Nat} {argsL rest : List Value} {Q : Option Value → Heap → Prop} {pc : Nat} {L : Array Slot} {W : Nat} {ps : List FieldType} {rt : Option FieldType}
theorem goS (K : Cx Z own b ml p m c) (N : Nw Z n0 h p l e R s m args below meth c T cells slots)
    (w1 : (Jvm.Cond.methodLink own index y).before a0 Z = true) (w2 : (Jvm.Cond.static y).before a0 Z = true) (w3 : (Jvm.Cond.initialized y.cls).before a0 Z = true) (w4 : (Jvm.Cond.code y bytes maxL ret).before a0 Z = true)
    (hM : Con l Z n0 y bytes maxL ret [] rm argsL.toArray h Q) (hy : y.cls ≠ "java/lang/invoke/MethodHandle" ∧ y.cls ≠ "java/lang/invoke/VarHandle") (hf : rm.frames + 1 ≤ R.frames) (hl : W + (maxL + 11) + rm.locals ≤ R.locals) (hc : cells + rm.cells ≤ R.cells) (hs : slots + rm.slots ≤ R.slots)
    (hsz : L.size = ml) (hp : parseMethodDescriptor y.desc = some ⟨ps, rt⟩) (hlen : argsL.length = ps.length) (hW : (rest.map fun v => v.category).sum ≤ W) (hd : decode b pc = .ok (.invokestatic index, 3)) :
    ∃ v T' h', Nw Z n0 h' p l e R s m args below meth c T' (cells + rm.cells) (slots + rm.slots) ∧ Q v h' ∧ Ld p e below T (mkF m pc L (argsL.reverse ++ rest)) T' (mkF m (pc + 3) L (v.toList ++ rest)) := by
  obtain ⟨Lc, X, eT, r, q, hZ⟩ := N
  obtain ⟨v, _, ⟨T', L', k', n'⟩, -, X', ⟨Lc', hQ, l', y', z'⟩, st⟩ := Jvm.LawKit.callS X K.1 (y := y) (cx_own K hZ) (mvT hZ w1) (mvT hZ w2) (mvT hZ w3) (mvT hZ w4) hy (backOf (W := W) (Q := fun v h L => n0 ≤ h.size ∧ Fr n0 L ∧ Q v h) (hM q) hZ w4 w3 hf hl) (g := mkF m pc L (argsL.reverse ++ rest)) rfl (by rw [K.2.2.2]; exact hsz) (argsL := argsL) (rest := rest) (lenOf hp hlen) rfl (by show 2 * 0 + _ ≤ _; omega) (hb K.2.2.1 hd) (fun _ _ => ⟨rfl, eT, hc, hs⟩)
  dsimp only [Pt.U, Pt.locs, Pt.cells, Pt.slots] at X' l' y' z' st hQ
  subst l' y' z'
  exact ⟨v, T', T'.heap, ⟨_, X', rfl, Fr.app r hQ.2.1, hQ.1, hZ⟩, hQ.2.2, st⟩
theorem goSp (K : Cx Z own b ml p m c) (N : Nw Z n0 h p l e R s m args below meth c T cells slots) {a : Addr}
    (w1 : (Jvm.Cond.methodLink own index y).before a0 Z = true) (w2 : (Jvm.Cond.instanceMethod y).before a0 Z = true) (w3 : (Jvm.Cond.initialized y.cls).before a0 Z = true) (w4 : (Jvm.Cond.code y bytes maxL none).before a0 Z = true)
    (hM : Con l Z n0 y bytes maxL none [] rm (Value.ref a :: argsL).toArray h Q) (hi : y.name = "<init>") (hy : y.cls ≠ "java/lang/invoke/MethodHandle" ∧ y.cls ≠ "java/lang/invoke/VarHandle") (hf : rm.frames + 1 ≤ R.frames) (hl : W + (maxL + 11) + rm.locals ≤ R.locals) (hc : cells + rm.cells ≤ R.cells) (hs : slots + rm.slots ≤ R.slots)
    (hsz : L.size = ml) (hp : parseMethodDescriptor y.desc = some ⟨ps, rt⟩) (hlen : argsL.length = ps.length) (hW : (rest.map fun v => v.category).sum ≤ W) (hd : decode b pc = .ok (.invokespecial index, 3)) :
    ∃ v T' h', Nw Z n0 h' p l e R s m args below meth c T' (cells + rm.cells) (slots + rm.slots) ∧ Q v h' ∧ Ld p e below T (mkF m pc L (argsL.reverse ++ .ref a :: rest)) T' (mkF m (pc + 3) L (v.toList ++ rest)) := by
  obtain ⟨Lc, X, eT, r, q, hZ⟩ := N
  obtain ⟨v, _, ⟨T', L', k', n'⟩, -, X', ⟨Lc', hQ, l', y', z'⟩, st⟩ := X.specialBack K.1 (y := y) hi (cx_own K hZ) (mvT hZ w1) (mvT hZ w2) (mvT hZ w4) hy (backOf (W := W) (Q := fun v h L => n0 ≤ h.size ∧ Fr n0 L ∧ Q v h) (hM q) hZ w4 w3 hf hl) (g := mkF m pc L (argsL.reverse ++ .ref a :: rest)) rfl (by rw [K.2.2.2]; exact hsz) (Steps.refl _) (a := a) (argsL := argsL) (rest := rest) (lenOf hp hlen) rfl (by show 2 * 0 + _ ≤ _; omega) (hb K.2.2.1 hd) (fun _ _ => ⟨rfl, eT, hc, hs⟩)
  dsimp only [Pt.U, Pt.locs, Pt.cells, Pt.slots] at X' l' y' z' st hQ
  subst l' y' z'
  exact ⟨v, T', T'.heap, ⟨_, X', rfl, Fr.app r hQ.2.1, hQ.1, hZ⟩, hQ.2.2, fun t k => st.trans k⟩
theorem goVi (K : Cx Z own b ml p m c) (N : Nw Z n0 h p l e R s m args below meth c T cells slots) {a : Addr} {C : String} (E : Exa Z h a C)
    (w1 : (Jvm.Cond.methodLink own index y).before a0 Z = true) (w2 : (Jvm.Cond.declares y).before a0 Z = true) (w5 : (Jvm.Cond.selects C y y).before a0 Z = true) (w6 : (Jvm.Cond.instanceMethod y).before a0 Z = true) (w3 : (Jvm.Cond.initialized y.cls).before a0 Z = true) (w4 : (Jvm.Cond.code y bytes maxL ret).before a0 Z = true)
    (hM : Con l Z n0 y bytes maxL ret [] rm (Value.ref a :: argsL).toArray h Q) (hy : y.cls ≠ "java/lang/invoke/MethodHandle" ∧ y.cls ≠ "java/lang/invoke/VarHandle") (hf : rm.frames + 1 ≤ R.frames) (hl : W + (maxL + 11) + rm.locals ≤ R.locals) (hc : cells + rm.cells ≤ R.cells) (hs : slots + rm.slots ≤ R.slots)
    (hsz : L.size = ml) (hp : parseMethodDescriptor y.desc = some ⟨ps, rt⟩) (hlen : argsL.length = ps.length) (hW : (rest.map fun v => v.category).sum ≤ W) (hd : decode b pc = .ok (.invokevirtual index, 3)) :
    ∃ v T' h', Nw Z n0 h' p l e R s m args below meth c T' (cells + rm.cells) (slots + rm.slots) ∧ Q v h' ∧ Ld p e below T (mkF m pc L (argsL.reverse ++ .ref a :: rest)) T' (mkF m (pc + 3) L (v.toList ++ rest)) := by
  obtain ⟨Lc, X, eT, r, q, hZ⟩ := N
  obtain ⟨cB, kB, q1, q2, q3⟩ := isOf hZ eT E
  obtain ⟨v, _, ⟨T', L', k', n'⟩, -, X', ⟨Lc', hQ, l', y', z'⟩, st⟩ := X.virtualBack K.1 (y := y) (z := y) (cx_own K hZ) (mvT hZ w1) (mvT hZ w2) (notFace_of_selects (args := #[]) (mvT hZ w5)) (mvT hZ w5) (mvT hZ w6) hy (backOf (W := W) (Q := fun v h L => n0 ≤ h.size ∧ Fr n0 L ∧ Q v h) (hM q) hZ w4 w3 hf hl) q1 q3 (g := mkF m pc L (argsL.reverse ++ .ref a :: rest)) rfl (by rw [K.2.2.2]; exact hsz) (Steps.refl _) (argsL := argsL) (rest := rest) (lenOf hp hlen) rfl (by show 2 * 0 + _ ≤ _; omega) (hb K.2.2.1 hd) (fun _ _ => ⟨rfl, eT, hc, hs⟩)
  dsimp only [Pt.U, Pt.locs, Pt.cells, Pt.slots] at X' l' y' z' st hQ
  subst l' y' z'
  exact ⟨v, T', T'.heap, ⟨_, X', rfl, Fr.app r hQ.2.1, hQ.1, hZ⟩, hQ.2.2, fun t k => st.trans k⟩
end OwnCalls
end OwnGo
section OwnArr
variable {Z : State} {h h' : Heap} {a b : Addr} {ty : FieldType} {vs : List Value} {v : Value} {sl : Nat} {ws : List Addr}
/-- the array at a holds just vs -/
def Av (Z : State) (h : Heap) (a : Addr) (ty : FieldType) (vs : List Value) : Prop := ∃ c : Cell, Arr Z h a c ty ∧ c.slots.toList = vs ∧ vs.length < 2 ^ 31
theorem Av.lt (F : Av Z h a ty vs) : a < h.size := by obtain ⟨_, A, -⟩ := F; exact A.lt
theorem Av.ext (F : Av Z h a ty vs) (E : Ext h h') : Av Z h' a ty vs := by obtain ⟨c, A, r⟩ := F; exact ⟨c, A.ext E, r⟩
theorem Av.keep (F : Av Z h a ty vs) (K : Keep h h' ws) (q : a ∉ ws) : Av Z h' a ty vs := by obtain ⟨c, A, r⟩ := F; exact ⟨c, ⟨K.2.1 a c A.1 q, A.2⟩, r⟩
theorem Av.other (F : Av Z h a ty vs) (W : Wr h h' b sl v) (q : a ≠ b) : Av Z h' a ty vs := by obtain ⟨c, A, r⟩ := F; exact ⟨c, A.other W q, r⟩
theorem keep_ext (E : Ext h h') : Keep h h' ws := (Keep.refl h ws).ext E
theorem Av.new {k : ClassId} {z : Int32} {n : Nat} (A : Arr Z h a (newA k ty z) ty) (q : ¬ z < 0) (hn : z.toInt = n) : Av Z h a ty (List.replicate n (defaultValue ty)) := by
  have e : z.toNatClampNeg = n := by simp [Int32.toNatClampNeg, hn]
  refine ⟨_, A, by simp [newA, e], ?_⟩
  have := Int32.toInt_lt z
  simp only [List.length_replicate]; omega
theorem clamp_of {j : Int32} {i : Nat} (hj : j.toInt = i) : j.toNatClampNeg = i := by simp [Int32.toNatClampNeg, hj]
theorem not_neg_of {j : Int32} {i : Nat} (hj : j.toInt = i) : ¬ j < 0 := by rw [Int32.lt_iff_toInt_lt, hj]; show ¬ (i : Int) < 0; omega
theorem Av.inb {c : Cell} (e : c.slots.toList = vs) {j : Int32} {i : Nat} (hj : j.toInt = i) (hi : i < vs.length) : ¬ (j < 0 ∨ c.slots.size ≤ j.toNatClampNeg) := by
  rintro (q | q)
  · exact not_neg_of hj q
  · rw [clamp_of hj] at q; rw [← e, Array.length_toList] at hi; omega
theorem Av.rd (F : Av Z h a ty vs) {j : Int32} {i : Nat} (hj : j.toInt = i) (hv : vs[i]? = some v) : Rd Z h a ty j v := by
  obtain ⟨c, A, e, -⟩ := F
  refine ⟨c, A, Av.inb e hj (List.getElem?_eq_some_iff.mp hv).1, ?_⟩
  rw [clamp_of hj, ← hv, ← e, Array.getElem?_toList]
theorem Av.ln (F : Av Z h a ty vs) {n : Int32} (hn : n.toInt = vs.length) : Ln Z h a n := by
  obtain ⟨c, A, e, q⟩ := F
  refine ⟨c, ty, A, ?_⟩
  rw [← Array.length_toList, e]
  apply Int32.toInt_inj.mp
  rw [hn]; exact Int32.toInt_ofNat_of_lt q
theorem Av.set {c : Cell} (A : Arr Z h a c ty) (e : c.slots.toList = vs) (q : vs.length < 2 ^ 31) {j : Int32} {i : Nat} (hj : j.toInt = i) (W : Wr h h' a j.toNatClampNeg v) : Av Z h' a ty (vs.set i v) := by
  rw [clamp_of hj] at W
  refine ⟨_, A.same W, ?_, by simpa using q⟩
  simp [Cell.setSlot, e]
theorem Av.ne {a b : Addr} {ty' : FieldType} {us : List Value} (F : Av Z h a ty vs) (G : Av Z h b ty' us) (q : ty ≠ ty') : a ≠ b := fun e => by
  subst e
  obtain ⟨c, A, -⟩ := F
  obtain ⟨c', B, -⟩ := G
  cases A.1.symm.trans B.1
  obtain ⟨-, k, hk, comp, h1⟩ := A.2.1
  obtain ⟨-, k', hk', comp', h2⟩ := B.2.1
  cases hk.symm.trans hk'
  rw [h1] at h2; cases h2; exact q rfl
theorem Av.ne_exa {a0 : Array Value} {C : String} {k : Nat} (F : Av Z h a ty vs) (G : Exa Z h b C) (wi : (Jvm.Cond.instantiable C k).before a0 Z = true) : b ≠ a := by
  obtain ⟨c, A, -⟩ := F
  exact ne_arr G wi A
theorem n_ti {i : Nat} (q : i < 2147483648) : (Int32.ofNat i).toInt = i := Int32.toInt_ofNat_of_lt q
theorem n_one (i : Nat) : Int32.ofNat i + (1 : Int32) = Int32.ofNat (i + 1) := (Int32.ofNat_add i 1).symm
theorem n_lt {i j : Nat} (hi : i < 2147483648) (hj : j < 2147483648) : Int32.ofNat i < Int32.ofNat j ↔ i < j := by rw [Int32.lt_iff_toInt_lt, n_ti hi, n_ti hj]; omega
theorem n_eq {i j : Nat} (hi : i < 2147483648) (hj : j < 2147483648) : Int32.ofNat i = Int32.ofNat j ↔ i = j := by rw [← Int32.toInt_inj, n_ti hi, n_ti hj]; omega
end OwnArr
section OwnSto
variable {p : Program} {l : Launch} {e : Env} {R : Room} {s : State} {m : MethodId} {args : Array Value} {below : List Frame} {meth : Method} {c : Code} {T : State} {cells slots : Nat} {Z : State} {a0 : Array Value} {h : Heap} {own : String} {n0 : Nat} {b : ByteArray} {ml : Nat} {a : Addr} {vs : List Value} {j : Int32} {i : Nat} {pc : Nat} {L : Array Slot} {S : List Value}
theorem avStI (K : Cx Z own b ml p m c) (N : Nw Z n0 h p l e R s m args below meth c T cells slots) (F : Av Z h a .int vs) {x : Int32} (hj : j.toInt = i) (hi : i < vs.length) (ha : n0 ≤ a) (hd : decode b pc = .ok (.iastore, 1)) :
    ∃ T' h', Nw Z n0 h' p l e R s m args below meth c T' cells slots ∧ Keep h h' [a] ∧ Av Z h' a .int (vs.set i (.int x)) ∧ Ld p e below T (mkF m pc L (.int x :: .int j :: .ref a :: S)) T' (mkF m (pc + 1) L S) := by
  obtain ⟨cl, A, q1, q2⟩ := F
  obtain ⟨T', h', N', W, st⟩ := goStI K N A (Av.inb q1 hj hi) ha hd
  exact ⟨T', h', N', Keep.of_wr W, Av.set A q1 q2 hj W, st⟩
theorem avStJ (K : Cx Z own b ml p m c) (N : Nw Z n0 h p l e R s m args below meth c T cells slots) (F : Av Z h a .long vs) {x : Int64} (hj : j.toInt = i) (hi : i < vs.length) (ha : n0 ≤ a) (hd : decode b pc = .ok (.lastore, 1)) :
    ∃ T' h', Nw Z n0 h' p l e R s m args below meth c T' cells slots ∧ Keep h h' [a] ∧ Av Z h' a .long (vs.set i (.long x)) ∧ Ld p e below T (mkF m pc L (.long x :: .int j :: .ref a :: S)) T' (mkF m (pc + 1) L S) := by
  obtain ⟨cl, A, q1, q2⟩ := F
  obtain ⟨T', h', N', W, st⟩ := goStJ K N A (Av.inb q1 hj hi) ha hd
  exact ⟨T', h', N', Keep.of_wr W, Av.set A q1 q2 hj W, st⟩
theorem avStC (K : Cx Z own b ml p m c) (N : Nw Z n0 h p l e R s m args below meth c T cells slots) (F : Av Z h a .char vs) {x : Int32} (hj : j.toInt = i) (hi : i < vs.length) (ha : n0 ≤ a) (hd : decode b pc = .ok (.castore, 1)) :
    ∃ T' h', Nw Z n0 h' p l e R s m args below meth c T' cells slots ∧ Keep h h' [a] ∧ Av Z h' a .char (vs.set i (.int (nar .char x))) ∧ Ld p e below T (mkF m pc L (.int x :: .int j :: .ref a :: S)) T' (mkF m (pc + 1) L S) := by
  obtain ⟨cl, A, q1, q2⟩ := F
  obtain ⟨T', h', N', W, st⟩ := goStC K N A (Av.inb q1 hj hi) ha hd
  exact ⟨T', h', N', Keep.of_wr W, Av.set A q1 q2 hj W, st⟩
theorem avStB (K : Cx Z own b ml p m c) (N : Nw Z n0 h p l e R s m args below meth c T cells slots) (F : Av Z h a .byte vs) {x : Int32} (hj : j.toInt = i) (hi : i < vs.length) (ha : n0 ≤ a) (hd : decode b pc = .ok (.bastore, 1)) :
    ∃ T' h', Nw Z n0 h' p l e R s m args below meth c T' cells slots ∧ Keep h h' [a] ∧ Av Z h' a .byte (vs.set i (.int (nar .byte x))) ∧ Ld p e below T (mkF m pc L (.int x :: .int j :: .ref a :: S)) T' (mkF m (pc + 1) L S) := by
  obtain ⟨cl, A, q1, q2⟩ := F
  obtain ⟨T', h', N', W, st⟩ := goStB K N A (Av.inb q1 hj hi) ha hd
  exact ⟨T', h', N', Keep.of_wr W, Av.set A q1 q2 hj W, st⟩
end OwnSto
section OwnRef
variable {p : Program} {l : Launch} {e : Env} {R : Room} {s : State} {m : MethodId} {args : Array Value} {below : List Frame} {meth : Method} {c : Code} {T : State} {cells slots : Nat} {Z : State} {a0 : Array Value} {h h' : Heap} {own : String} {n0 : Nat} {b : ByteArray} {ml : Nat} {a : Addr} {vs : List Value} {j : Int32} {i : Nat} {pc : Nat} {L : Array Slot} {S : List Value} {C : String} {ws : List Addr}
/-- the array at a takes objects of C -/
def Ovc (Z : State) (h : Heap) (a : Addr) (C : String) : Prop := ∃ cell : Cell, h[a]? = some cell ∧ Ovr Z cell.cls C
theorem Ovc.keep (F : Ovc Z h a C) (K : Keep h h' ws) : Ovc Z h' a C := by
  obtain ⟨cell, h1, h2⟩ := F
  obtain ⟨c', q, r1, -⟩ := K.2.2 a cell h1
  exact ⟨c', q, r1 ▸ h2⟩
theorem goNewR (K : Cx Z own b ml p m c) (N : Nw Z n0 h p l e R s m args below meth c T cells slots) {index : Nat} (w1 : (Jvm.Cond.classLink own index C).before a0 Z = true) (w2 : (Jvm.Cond.arrayOver (.object C)).before a0 Z = true) {n : Int32} {k : Nat} (hn : n.toInt = k) {cap : Nat} (hcap : k ≤ cap) (hbg : cap * 8 ≤ 536870912) (hc : cells + 1 ≤ R.cells) (hl : slots + cap ≤ R.slots)
    (hd : decode b pc = .ok (.anewarray index, 3)) :
    ∃ T' h' a, a = h.size ∧ Nw Z n0 h' p l e R s m args below meth c T' (cells + 1) (slots + cap) ∧ Ext h h' ∧ Av Z h' a (.object C) (List.replicate k .null) ∧ Ovc Z h' a C ∧ Ld p e below T (mkF m pc L (.int n :: S)) T' (mkF m (pc + 3) L (.ref a :: S)) := by
  obtain ⟨Lc, X, eT, r, q, hZ⟩ := N
  obtain ⟨T', h', cA, X', e', E, A, O, st⟩ := newR X K.1 hZ (cx_own K hZ) w1 w2 eT (g := mkF m pc L (.int n :: S)) rfl (hb K.2.2.1 hd) rfl (not_neg_of hn) (cap := cap) (by rw [clamp_of hn]; exact hcap) hbg hc hl
  exact ⟨T', h', _, rfl, ⟨Lc, X', e', r, Nat.le_trans q E.1, hZ⟩, E, Av.new A (not_neg_of hn) hn, ⟨_, A.1, O⟩, st⟩
theorem avStR (K : Cx Z own b ml p m c) (N : Nw Z n0 h p l e R s m args below meth c T cells slots) (F : Av Z h a (.object C) vs) (O : Ovc Z h a C) {v : Value} (hv : v = .null ∨ ∃ y, v = .ref y ∧ Exa Z h y C) (hj : j.toInt = i) (hi : i < vs.length) (ha : n0 ≤ a) (hd : decode b pc = .ok (.aastore, 1)) :
    ∃ T' h', Nw Z n0 h' p l e R s m args below meth c T' cells slots ∧ Keep h h' [a] ∧ Av Z h' a (.object C) (vs.set i v) ∧ Ld p e below T (mkF m pc L (v :: .int j :: .ref a :: S)) T' (mkF m (pc + 1) L S) := by
  obtain ⟨cl, A, q1, q2⟩ := F
  obtain ⟨cell, o1, o2⟩ := O
  cases o1.symm.trans A.1
  have sto : Sto Z h a v := by
    rcases hv with rfl | ⟨y, rfl, X⟩
    · exact Or.inl rfl
    · exact Sto.of A o2 (Ins.self X)
  obtain ⟨Lc, X, eT, r, q, hZ⟩ := N
  obtain ⟨T', h', X', e', W, st⟩ := stR X K.1 hZ eT A (Av.inb q1 hj hi) rfl sto (g := mkF m pc L (v :: .int j :: .ref a :: S)) rfl rfl (hb K.2.2.1 hd)
  exact ⟨T', h', ⟨_, X', e', Fr.snoc X' r ha, by rw [W.size]; exact q, hZ⟩, Keep.of_wr W, Av.set A q1 q2 hj W, st⟩
end OwnRef

theorem tw {a0 : Array Value} {Z : State} (hw : ∀ d ∈ tables_1, d.before a0 Z = true) (k : Nat) {d : Jvm.Cond} (q : tables_1[k]? = some d) : d.before a0 Z = true := hw d (List.mem_of_getElem? q)
variable {p : Program} {l : Launch} {e : Env} {R : Room} {s : State} {m : MethodId} {args : Array Value} {below : List Frame} {meth : Method} {c : Code} {T : State} {cells slots : Nat} {Z : State} {a0 : Array Value} {h : Heap} {n0 : Nat}
section OwnIf
variable {p : Program} {l : Launch} {e : Env} {R : Room} {s : State} {m : MethodId} {args : Array Value} {below : List Frame} {meth : Method} {c : Code} {T T1 T2 : State} {cells slots : Nat} {Z : State} {a0 : Array Value} {h h1 h2 : Heap} {own : String} {n0 : Nat} {b : ByteArray} {ml : Nat} {g g1 g2 : JFrame}
variable {y xi : MethodName} {bytes : ByteArray} {maxL : Nat} {ret : Option FieldType} {rm : Room} {index count : Nat} {argsL rest : List Value} {Q : Option Value → Heap → Prop} {pc : Nat} {L : Array Slot} {W : Nat} {ps : List FieldType} {rt : Option FieldType}
theorem goIf (K : Cx Z own b ml p m c) (N : Nw Z n0 h p l e R s m args below meth c T cells slots) {a : Addr} {C : String} (E : Exa Z h a C)
    (w1 : (Jvm.Cond.methodLink own index xi).before a0 Z = true) (w2 : (Jvm.Cond.declares xi).before a0 Z = true) (wi : (Jvm.Cond.interfaceMethod xi.cls xi.cls xi.name xi.desc).before a0 Z = true) (w5 : (Jvm.Cond.selects C xi y).before a0 Z = true) (w6 : (Jvm.Cond.instanceMethod y).before a0 Z = true) (wp : (Jvm.Cond.publicMethod y).before a0 Z = true) (wu : (Jvm.Cond.unhidden C xi.name xi.desc).before a0 Z = true) (wc : (Jvm.Cond.castable C xi.cls).before a0 Z = true) (w3 : (Jvm.Cond.initialized y.cls).before a0 Z = true) (w4 : (Jvm.Cond.code y bytes maxL ret).before a0 Z = true)
    (hM : Con l Z n0 y bytes maxL ret [] rm (Value.ref a :: argsL).toArray h Q) (hy : xi.cls ≠ "java/lang/invoke/MethodHandle" ∧ xi.cls ≠ "java/lang/invoke/VarHandle") (hf : rm.frames + 1 ≤ R.frames) (hl : W + (maxL + 11) + rm.locals ≤ R.locals) (hc : cells + rm.cells ≤ R.cells) (hs : slots + rm.slots ≤ R.slots)
    (hsz : L.size = ml) (hp : parseMethodDescriptor xi.desc = some ⟨ps, rt⟩) (hlen : argsL.length = ps.length) (hW : (rest.map fun v => v.category).sum ≤ W) (hd : decode b pc = .ok (.invokeinterface index count, 5)) :
    ∃ v T' h', Nw Z n0 h' p l e R s m args below meth c T' (cells + rm.cells) (slots + rm.slots) ∧ Q v h' ∧ Ld p e below T (mkF m pc L (argsL.reverse ++ .ref a :: rest)) T' (mkF m (pc + 5) L (v.toList ++ rest)) := by
  obtain ⟨Lc, X, eT, r, q, hZ⟩ := N
  obtain ⟨cB, kB, q1, q2, q3⟩ := isOf hZ eT E
  obtain ⟨v, _, ⟨T', L', k', n'⟩, -, X', ⟨Lc', hQ, l', y', z'⟩, st⟩ := X.interfaceBack K.1 (xi := xi) (y := y) (cx_own K hZ) (mvT hZ w1) (mvT hZ w2) (mvT hZ wi (by simp [Cond.onTables, Cond.keepsFace, Cond.keeps, Cond.steady, Cond.faceAtom, hy.1, hy.2])) (mvT hZ w5) (mvT hZ w6) (mvT hZ wp) (mvT hZ wu) (mvT hZ wc) hy (backOf (W := W) (Q := fun v h L => n0 ≤ h.size ∧ Fr n0 L ∧ Q v h) (hM q) hZ w4 w3 hf hl) q1 q2 q3 (g := mkF m pc L (argsL.reverse ++ .ref a :: rest)) rfl (by rw [K.2.2.2]; exact hsz) (Steps.refl _) (argsL := argsL) (rest := rest) (lenOf hp hlen) rfl (by show 2 * 0 + _ ≤ _; omega) (hb K.2.2.1 hd) (fun _ _ => ⟨rfl, eT, hc, hs⟩)
  dsimp only [Pt.U, Pt.locs, Pt.cells, Pt.slots] at X' l' y' z' st hQ
  subst l' y' z'
  exact ⟨v, T', T'.heap, ⟨_, X', rfl, Fr.app r hQ.2.1, hQ.1, hZ⟩, hQ.2.2, fun t k => st.trans k⟩
/-- from here the law returns 1 (narrow frame) -/
def Ends (Z : State) (n0 : Nat) (p : Program) (l : Launch) (e : Env) (R : Room) (s : State) (m : MethodId) (args : Array Value) (below : List Frame) (meth : Method) (c : Code) (T : State) (g : JFrame) : Prop :=
  ∃ (T' : State) (g' : JFrame) (h' : Heap) (k n : Nat), Nw Z n0 h' p l e R s m args below meth c T' k n ∧ k ≤ R.cells ∧ n ≤ R.slots ∧ Ld p e below T g T' g' ∧ Fn p e below m T' g' (some (.int 1))
theorem Ends.pre (L : Ld p e below T g T1 g1) (E : Ends Z n0 p l e R s m args below meth c T1 g1) : Ends Z n0 p l e R s m args below meth c T g := by
  obtain ⟨T', g', h', k, n, a, b, d, i, j⟩ := E
  exact ⟨T', g', h', k, n, a, b, d, L.trans i, j⟩
end OwnIf

section OwnObj
variable {p : Program} {l : Launch} {e : Env} {R : Room} {s : State} {m : MethodId} {args : Array Value} {below : List Frame} {meth : Method} {c : Code} {T T1 T2 : State} {cells slots : Nat} {Z : State} {a0 : Array Value} {h h' h1 h2 : Heap} {own : String} {n0 : Nat} {b : ByteArray} {ml : Nat} {g g1 g2 : JFrame}
variable {y xi : MethodName} {bytes : ByteArray} {maxL : Nat} {ret : Option FieldType} {rm : Room} {index count : Nat} {argsL rest : List Value} {Q : Option Value → Heap → Prop} {pc : Nat} {L : Array Slot} {W : Nat} {ps : List FieldType} {rt : Option FieldType} {S : List Value} {C : String} {a : Addr} {mr : Addr} {ty : FieldType} {vs : List Value}
/-- the Class object of C is made: mr -/
def Mir (Z : State) (C : String) (mr : Addr) : Prop := ∃ (cc : ClassId) (k : Class), Z.vm.findClass C = some cc ∧ Z.vm.classes[cc]? = some k ∧ k.mirror = some mr
theorem Mir.at (F : Mir Z C mr) (hZ : Z.Warmed39 s.vm) : Mir s C mr := by
  obtain ⟨cc, k, h1, h2, h3⟩ := F
  obtain ⟨k', q, e⟩ := hZ.alike.2.2 _ _ h2
  exact ⟨cc, k', by rw [hZ.alike.findClass]; exact h1, q, by rw [e]; exact h3⟩
theorem Mir.ev (F : Mir s C mr) : (Term.mirror C).eval args s none [] s = some (.ref mr) := by
  obtain ⟨cc, k, h1, h2, h3⟩ := F
  simp [Term.eval, h1, h2, h3]
theorem goLdcM (K : Cx Z own b ml p m c) (N : Nw Z n0 h p l e R s m args below meth c T cells slots) (M : Mir Z C mr) (w : (Jvm.Cond.classLink own index C).before a0 Z = true) (hd : decode b pc = .ok (.ldc index, 2)) :
    ∃ T', Nw Z n0 h p l e R s m args below meth c T' cells slots ∧ Ld p e below T (mkF m pc L S) T' (mkF m (pc + 2) L (.ref mr :: S)) := by
  obtain ⟨Lc, X, eT, r, q, hZ⟩ := N
  obtain ⟨vm', X', st⟩ := X.ldcMirror K.1 (cx_own K hZ) (mvT hZ w) ((M.at hZ).ev) (g := mkF m pc L S) rfl (hb K.2.2.1 hd)
  exact ⟨_, ⟨Lc, X', eT, r, q, hZ⟩, st⟩
theorem gcw : nativeFrameWords "java/lang/Object" "getClass" 1 = 3 := by decide
theorem acw : nativeFrameWords "java/lang/System" "arraycopy" 5 = 7 := by decide
theorem goGcV (K : Cx Z own b ml p m c) (N : Nw Z n0 h p l e R s m args below meth c T cells slots) (M : Mir Z C mr) (E : Exa Z h a C) (w1 : (Jvm.Cond.methodLink own index Jvm.Stand.gcN).before a0 Z = true) (w2 : (Jvm.Cond.declares Jvm.Stand.gcN).before a0 Z = true) (w5 : (Jvm.Cond.selects C Jvm.Stand.gcN Jvm.Stand.gcN).before a0 Z = true) (w6 : (Jvm.Cond.instanceMethod Jvm.Stand.gcN).before a0 Z = true) (w7 : (Jvm.Cond.native Jvm.Stand.gcN).before a0 Z = true)
    (hsz : L.size = ml) (hd : decode b pc = .ok (.invokevirtual index, 3)) (hf : 1 ≤ R.frames) (hW : (S.map fun v => v.category).sum ≤ W) (hlo : W + 14 ≤ R.locals) :
    ∃ T', Nw Z n0 h p l e R s m args below meth c T' cells slots ∧ Ld p e below T (mkF m pc L (.ref a :: S)) T' (mkF m (pc + 3) L (.ref mr :: S)) := by
  obtain ⟨Lc, X, eT, r, q, hZ⟩ := N
  obtain ⟨cB, kB, q1, q2, q3⟩ := isOf hZ eT E
  obtain ⟨cc, k, m1, m2, m3⟩ := M.at hZ
  cases q1.symm.trans m1
  cases q2.symm.trans m2
  obtain ⟨vm', X', st⟩ := X.getClassOf K.1 (cx_own K hZ) (mvT hZ w1) (mvT hZ w2) (notFace_of_selects (args := #[]) (mvT hZ w5)) (mvT hZ w5) (mvT hZ w6) (mvT hZ w7) q1 q3 q2 m3 (g := mkF m pc L (.ref a :: S)) rfl (by rw [K.2.2.2]; exact hsz) rfl (hb K.2.2.1 hd) hf (by rw [gcw]; show 2 * 0 + _ + _ ≤ _; omega)
  exact ⟨_, ⟨Lc, X', eT, r, q, hZ⟩, st⟩
theorem goGcI (K : Cx Z own b ml p m c) (N : Nw Z n0 h p l e R s m args below meth c T cells slots) (M : Mir Z C mr) (E : Exa Z h a C) (w1 : (Jvm.Cond.methodLink own index xi).before a0 Z = true) (w2 : (Jvm.Cond.declares Jvm.Stand.gcN).before a0 Z = true) (wi : (Jvm.Cond.interfaceMethod xi.cls "java/lang/Object" xi.name xi.desc).before a0 Z = true) (w5 : (Jvm.Cond.selects C xi Jvm.Stand.gcN).before a0 Z = true) (w6 : (Jvm.Cond.instanceMethod Jvm.Stand.gcN).before a0 Z = true) (wp : (Jvm.Cond.publicMethod Jvm.Stand.gcN).before a0 Z = true) (wu : (Jvm.Cond.unhidden C xi.name xi.desc).before a0 Z = true) (wc : (Jvm.Cond.castable C xi.cls).before a0 Z = true) (w7 : (Jvm.Cond.native Jvm.Stand.gcN).before a0 Z = true)
    (hy : xi.cls ≠ "java/lang/invoke/MethodHandle" ∧ xi.cls ≠ "java/lang/invoke/VarHandle") (hxo : xi.cls ≠ "java/lang/Object") (hnm : xi.name = "getClass") (hds : xi.desc = "()Ljava/lang/Class;")
    (hsz : L.size = ml) (hd : decode b pc = .ok (.invokeinterface index count, 5)) (hf : 1 ≤ R.frames) (hW : (S.map fun v => v.category).sum ≤ W) (hlo : W + 14 ≤ R.locals) :
    ∃ T', Nw Z n0 h p l e R s m args below meth c T' cells slots ∧ Ld p e below T (mkF m pc L (.ref a :: S)) T' (mkF m (pc + 5) L (.ref mr :: S)) := by
  obtain ⟨Lc, X, eT, r, q, hZ⟩ := N
  obtain ⟨cB, kB, q1, q2, q3⟩ := isOf hZ eT E
  obtain ⟨cc, k, m1, m2, m3⟩ := M.at hZ
  cases q1.symm.trans m1
  cases q2.symm.trans m2
  obtain ⟨vm', X', st⟩ := X.getClassOfI K.1 (xi := xi) (cx_own K hZ) (mvT hZ w1) (mvT hZ w2) (Jvm.Free.ULB.iface_rides hZ.alike wi) (mvT hZ w5) (mvT hZ w6) (mvT hZ wp) (mvT hZ wu) (mvT hZ wc) (mvT hZ w7) hy hxo hnm hds q1 q2 q3 m3 (g := mkF m pc L (.ref a :: S)) rfl (by rw [K.2.2.2]; exact hsz) rfl (hb K.2.2.1 hd) hf (by rw [gcw]; show 2 * 0 + _ + _ ≤ _; omega)
  exact ⟨_, ⟨Lc, X', eT, r, q, hZ⟩, st⟩
theorem goCast (K : Cx Z own b ml p m c) (N : Nw Z n0 h p l e R s m args below meth c T cells slots) (w : (Jvm.Cond.classLink own index C).before a0 Z = true) (F : Ins Z h a C true) (hd : decode b pc = .ok (.checkcast index, 3)) :
    ∃ T', Nw Z n0 h p l e R s m args below meth c T' cells slots ∧ Ld p e below T (mkF m pc L (.ref a :: S)) T' (mkF m (pc + 3) L (.ref a :: S)) := by
  obtain ⟨Lc, X, eT, r, q, hZ⟩ := N
  obtain ⟨T', X', e', st⟩ := castY X K.1 hZ (cx_own K hZ) w eT F (g := mkF m pc L (.ref a :: S)) rfl rfl (hb K.2.2.1 hd)
  exact ⟨T', ⟨Lc, X', e', r, q, hZ⟩, st⟩
theorem goGetV (K : Cx Z own b ml p m c) (N : Nw Z n0 h p l e R s m args below meth c T cells slots) {R0 O n d : String} (w : (Jvm.Cond.fieldLink own index R0 n d).before a0 Z = true) (via : Via Z R0 O n d) {v : Value} (F : Fld Z h a O n d v)
    (hd : decode b pc = .ok (.getfield index, 3)) : ∃ T', Nw Z n0 h p l e R s m args below meth c T' cells slots ∧ Ld p e below T (mkF m pc L (.ref a :: S)) T' (mkF m (pc + 3) L (v :: S)) := by
  obtain ⟨Lc, X, eT, r, q, hZ⟩ := N
  obtain ⟨T', X', e', st⟩ := getF X K.1 hZ (cx_own K hZ) (host := "") (Or.inl w) via eT F (g := mkF m pc L (.ref a :: S)) rfl rfl (hb K.2.2.1 hd)
  exact ⟨T', ⟨Lc, X', e', r, q, hZ⟩, st⟩
theorem goPutV (K : Cx Z own b ml p m c) (N : Nw Z n0 h p l e R s m args below meth c T cells slots) {R0 O n d : String} {kk : Nat} (w : (Jvm.Cond.fieldLink own index R0 n d).before a0 Z = true) (via : Via Z R0 O n d) {v old : Value} (F : Fld Z h a O n d old) (E : Exa Z h a C)
    (Ly : (Jvm.Cond.lays C O n d).before a0 Z = true ∨ ((Jvm.Cond.laysFinal C O n d).before a0 Z = true ∧ own = O ∧ meth.name = "<init>")) (wi : (Jvm.Cond.instantiable C kk).before a0 Z = true) (hty : parseFieldDescriptor d = some ty) (hn : narrow ty v = v) (hf : fits ty v = true) (ha : n0 ≤ a)
    (hd : decode b pc = .ok (.putfield index, 3)) :
    ∃ T' h', Nw Z n0 h' p l e R s m args below meth c T' cells slots ∧ Wr h h' a (Jvm.RoadKit.slotOf Z O n d) v ∧ Ld p e below T (mkF m pc L (v :: .ref a :: S)) T' (mkF m (pc + 3) L S) := by
  obtain ⟨Lc, X, eT, r, q, hZ⟩ := N
  obtain ⟨T', h', X', e', W, st⟩ := putF X K.1 hZ (cx_own K hZ) (host := "") (Or.inl w) via eT F E Ly wi hty hn hf (g := mkF m pc L (v :: .ref a :: S)) rfl rfl (hb K.2.2.1 hd)
  exact ⟨T', h', ⟨_, X', e', Fr.snoc X' r ha, by rw [W.size]; exact q, hZ⟩, W, st⟩
theorem goPv (K : Cx Z own b ml p m c) (N : Nw Z n0 h p l e R s m args below meth c T cells slots) (E : Exa Z h a C)
    (w1 : (Jvm.Cond.methodLink own index y).before a0 Z = true) (w5 : (Jvm.Cond.selects y.cls y y).before a0 Z = true) (wp : (Jvm.Cond.privateMethod y).before a0 Z = true) (w6 : (Jvm.Cond.instanceMethod y).before a0 Z = true) (w3 : (Jvm.Cond.initialized y.cls).before a0 Z = true) (w4 : (Jvm.Cond.code y bytes maxL ret).before a0 Z = true)
    (hM : Con l Z n0 y bytes maxL ret [] rm (Value.ref a :: argsL).toArray h Q) (hy : y.cls ≠ "java/lang/invoke/MethodHandle" ∧ y.cls ≠ "java/lang/invoke/VarHandle") (hf : rm.frames + 1 ≤ R.frames) (hl : W + (maxL + 11) + rm.locals ≤ R.locals) (hc : cells + rm.cells ≤ R.cells) (hs : slots + rm.slots ≤ R.slots)
    (hsz : L.size = ml) (hp : parseMethodDescriptor y.desc = some ⟨ps, rt⟩) (hlen : argsL.length = ps.length) (hW : (rest.map fun v => v.category).sum ≤ W) (hd : decode b pc = .ok (.invokevirtual index, 3)) :
    ∃ v T' h', Nw Z n0 h' p l e R s m args below meth c T' (cells + rm.cells) (slots + rm.slots) ∧ Q v h' ∧ Ld p e below T (mkF m pc L (argsL.reverse ++ .ref a :: rest)) T' (mkF m (pc + 3) L (v.toList ++ rest)) := by
  obtain ⟨Lc, X, eT, r, q, hZ⟩ := N
  obtain ⟨cell, e1, e2⟩ := E.cell
  obtain ⟨v, _, ⟨T', L', k', n'⟩, -, X', ⟨Lc', hQ, l', y', z'⟩, st⟩ := X.privateBack K.1 (y := y) (cx_own K hZ) (mvT hZ w1) (mvT hZ w6) (mvT hZ w5) (Cond.privateMethod_at (mvP (args := #[]) hZ wp)) (mvT hZ w4) hy (backOf (W := W) (Q := fun v h L => n0 ≤ h.size ∧ Fr n0 L ∧ Q v h) (hM q) hZ w4 w3 hf hl) (g := mkF m pc L (argsL.reverse ++ .ref a :: rest)) rfl (by rw [K.2.2.2]; exact hsz) (Steps.refl _) (a := a) (by rw [eT]; exact e1) e2 (argsL := argsL) (rest := rest) (lenOf hp hlen) rfl (by show 2 * 0 + _ ≤ _; omega) (hb K.2.2.1 hd) (fun _ _ => ⟨rfl, eT, hc, hs⟩)
  dsimp only [Pt.U, Pt.locs, Pt.cells, Pt.slots] at X' l' y' z' st hQ
  subst l' y' z'
  exact ⟨v, T', T'.heap, ⟨_, X', rfl, Fr.app r hQ.2.1, hQ.1, hZ⟩, hQ.2.2, fun t k => st.trans k⟩
theorem goNewX (K : Cx Z own b ml p m c) (N : Nw Z n0 h p l e R s m args below meth c T cells slots) (w1 : (Jvm.Cond.classLink own index C).before a0 Z = true) (w2 : (Jvm.Cond.arrayOver (.object C)).before a0 Z = true) {D : String} (hD : "[" ++ (FieldType.object C).toString = D) {n : Int32} {k : Nat} (hn : n.toInt = k) {cap : Nat} (hcap : k ≤ cap) (hbg : cap * 8 ≤ 536870912) (hc : cells + 1 ≤ R.cells) (hl : slots + cap ≤ R.slots)
    (hd : decode b pc = .ok (.anewarray index, 3)) :
    ∃ T' h' a, a = h.size ∧ Nw Z n0 h' p l e R s m args below meth c T' (cells + 1) (slots + cap) ∧ Ext h h' ∧ Av Z h' a (.object C) (List.replicate k .null) ∧ Ovc Z h' a C ∧ Exa Z h' a D ∧ Ld p e below T (mkF m pc L (.int n :: S)) T' (mkF m (pc + 3) L (.ref a :: S)) := by
  obtain ⟨Lc, X, eT, r, q, hZ⟩ := N
  obtain ⟨vm₁, cA, kA, comp, -, f1, f2, f3, f4, X', st⟩ := X.anewarrayRefK K.1 (cx_own K hZ) (mvT hZ w1) (Cond.arrayOver_alike hZ.alike w2) (g := mkF m pc L (.int n :: S)) rfl (hb K.2.2.1 hd) rfl (not_neg_of hn) (by rw [clamp_of hn]; omega) hc (by rw [clamp_of hn]; omega)
  subst eT
  rw [hZ.alike.findClass] at f1 f4
  rw [clamp_of hn] at X' st
  obtain ⟨kZ, z1, -⟩ := Vm.findClass_spec f1
  obtain ⟨k', z2, z3⟩ := hZ.alike.2.2 _ _ z1
  cases f2.symm.trans z2
  have kk : kZ.kind = .array comp (.object C) := by rw [← f3, z3]
  have hat : (T.heap.push { cls := cA, slots := Array.replicate k .null, vm := .none })[T.heap.size]? = some { cls := cA, slots := Array.replicate k .null, vm := .none } := by simp
  have hlt := Int32.toInt_lt n
  refine ⟨_, T.heap.push { cls := cA, slots := Array.replicate k .null, vm := .none }, _, rfl, ⟨Lc, X'.mono (Nat.le_refl _) (by omega), rfl, r, by rw [Array.size_push]; omega, hZ⟩, ⟨by rw [Array.size_push]; omega, fun a c hc => ?_⟩, ⟨_, ⟨hat, ⟨by simp, kZ, z1, comp, kk⟩, by simp⟩, by simp, by rw [List.length_replicate]; omega⟩, ⟨_, hat, kZ, comp, z1, kk, f4⟩, ⟨_, kZ, hat, hD ▸ f1, z1, rfl, fun z => by rw [kk] at z; cases z⟩, st⟩
  obtain ⟨hl, e⟩ := Array.getElem?_eq_some_iff.mp hc
  rw [Array.getElem?_push_lt hl, e]
/-- aastore of an object of a class under C -/
theorem avStO (K : Cx Z own b ml p m c) (N : Nw Z n0 h p l e R s m args below meth c T cells slots) (F : Av Z h a (.object C) vs) (O : Ovc Z h a C) {v : Value} (hv : v = .null ∨ ∃ y, v = .ref y ∧ Ins Z h y C true) {j : Int32} {i : Nat} (hj : j.toInt = i) (hi : i < vs.length) (ha : n0 ≤ a) (hd : decode b pc = .ok (.aastore, 1)) :
    ∃ T' h', Nw Z n0 h' p l e R s m args below meth c T' cells slots ∧ Keep h h' [a] ∧ Av Z h' a (.object C) (vs.set i v) ∧ Ld p e below T (mkF m pc L (v :: .int j :: .ref a :: S)) T' (mkF m (pc + 1) L S) := by
  obtain ⟨cl, A, q1, q2⟩ := F
  obtain ⟨cell, o1, o2⟩ := O
  cases o1.symm.trans A.1
  have sto : Sto Z h a v := by
    rcases hv with rfl | ⟨y, rfl, X⟩
    · exact Or.inl rfl
    · exact Sto.of A o2 X
  obtain ⟨Lc, X, eT, r, q, hZ⟩ := N
  obtain ⟨T', h', X', e', W, st⟩ := stR X K.1 hZ eT A (Av.inb q1 hj hi) rfl sto (g := mkF m pc L (v :: .int j :: .ref a :: S)) rfl rfl (hb K.2.2.1 hd)
  exact ⟨T', h', ⟨_, X', e', Fr.snoc X' r ha, by rw [W.size]; exact q, hZ⟩, Keep.of_wr W, Av.set A q1 q2 hj W, st⟩
theorem Av.arv (F : Av Z h a ty vs) (fit : ∀ v ∈ vs, fits ty v = true) (dv : Value) : ∃ k, Arv Z h a k ty (Int32.ofNat vs.length) vs dv := by
  obtain ⟨cl, A, q1, q2⟩ := F
  have hs : cl.slots.size = vs.length := by rw [← q1, Array.length_toList]
  have ez : (Int32.ofNat vs.length).toInt = vs.length := Int32.toInt_ofNat_of_lt q2
  refine ⟨cl.cls, cl, A, rfl, by rw [clamp_of ez, hs], not_neg_of ez, fun k hk => ?_, fun i hi => ?_⟩
  · rw [hs] at hk; rw [← Array.getElem?_toList, q1, List.getD_eq_getElem?_getD]; simp [hk]
  · rw [hs] at hi; apply fit; rw [List.getD_eq_getElem?_getD]; simp [hi]
theorem Arv.av {k : ClassId} {z : Int32} {dv : Value} (F : Arv Z h a k ty z vs dv) (hz : z.toInt = vs.length) : Av Z h a ty vs := by
  obtain ⟨cl, A, -, S, -, H, -⟩ := F
  rw [clamp_of hz] at S
  refine ⟨cl, A, ?_, ?_⟩
  · apply List.ext_getElem?; intro i
    rw [Array.getElem?_toList]
    by_cases q : i < vs.length
    · rw [H i (by omega), List.getD_eq_getElem?_getD]; simp [q]
    · rw [Array.getElem?_eq_none (by omega), List.getElem?_eq_none (by omega)]
  · have := Int32.toInt_lt z; omega
theorem stol {us : List Value} {d : Addr} (H : ∀ v ∈ us, Sto Z h d v) : StoL Z h d us := by
  induction us with
  | nil => exact trivial
  | cons v r ih => exact ⟨H v (List.mem_cons_self ..), ih fun w hw => H w (List.mem_cons_of_mem _ hw)⟩
theorem goCp (K : Cx Z own b ml p m c) (N : Nw Z n0 h p l e R s m args below meth c T cells slots) (w1 : (Jvm.Cond.methodLink own index Jvm.Stand.acN).before a0 Z = true) (w2 : (Jvm.Cond.native Jvm.Stand.acN).before a0 Z = true) (w3 : (Jvm.Cond.static Jvm.Stand.acN).before a0 Z = true) (w4 : (Jvm.Cond.initialized "java/lang/System").before a0 Z = true)
    {d : Addr} {vd : List Value} (A : Av Z h a (.object C) vs) (B : Av Z h d (.object C) vd) (Ob : Ovc Z h d C) (hE : ∀ v ∈ vs, v = .null ∨ ∃ y, v = .ref y ∧ Ins Z h y C true) (hvd : ∀ v ∈ vd, v = .null) {nn : Int32} {k : Nat} (hn : nn.toInt = k) (h4 : k ≤ vs.length) (h5 : k ≤ vd.length) (ge : n0 ≤ d)
    (hsz : L.size = ml) (hd : decode b pc = .ok (.invokestatic index, 3)) (hf : 1 ≤ R.frames) (hW : (S.map fun v => v.category).sum ≤ W) (hlo : W + 18 ≤ R.locals) :
    ∃ T' h', Nw Z n0 h' p l e R s m args below meth c T' cells slots ∧ Keep h h' [d] ∧ Av Z h' d (.object C) (vs.take k ++ vd.drop k) ∧ Ld p e below T (mkF m pc L (.int nn :: .int 0 :: .ref d :: .int 0 :: .ref a :: S)) T' (mkF m (pc + 3) L S) := by
  obtain ⟨kA, FA⟩ := A.arv (fun v hv => by rcases hE v hv with rfl | ⟨y, rfl, -⟩ <;> rfl) .null
  obtain ⟨kB, FB⟩ := B.arv (fun v hv => by rw [hvd v hv]; rfl) .null
  obtain ⟨cl, AB, r1, -⟩ := B
  obtain ⟨cell, o1, o2⟩ := Ob
  cases o1.symm.trans AB.1
  have lA : vs.length < 2 ^ 31 := by obtain ⟨_, _, _, q⟩ := A; exact q
  have lB : vd.length < 2 ^ 31 := by rw [← r1, Array.length_toList]; obtain ⟨c3, A3, -, S3, n3, -⟩ := FB; cases A3.1.symm.trans AB.1; rw [S3]; have := Int32.toInt_lt (Int32.ofNat vd.length); simp only [Int32.toNatClampNeg]; omega
  have eA : (Int32.ofNat vs.length).toInt = vs.length := Int32.toInt_ofNat_of_lt lA
  have eB : (Int32.ofNat vd.length).toInt = vd.length := Int32.toInt_ofNat_of_lt lB
  have z0 : (0 : Int32).toNatClampNeg = 0 := rfl
  obtain ⟨Lc, X, eT, r, q, hZ⟩ := N
  obtain ⟨T', h', L', X', e', F', Kp, FB', st⟩ := cpA X K.1 hZ (cx_own K hZ) w1 w2 w3 w4 eT FA FB (us := vs.take k) (Or.inr ⟨rfl, rfl, stol fun v hv => by
      rcases hE v (List.mem_of_mem_take hv) with rfl | ⟨y, rfl, I⟩
      · exact Or.inl rfl
      · exact Sto.of AB o2 I⟩) (sp := 0) (dp := 0) (nn := nn) (by decide) (by decide) (not_neg_of hn) (by rw [z0, clamp_of hn, clamp_of eA]; omega) (by rw [z0, clamp_of hn, clamp_of eB]; omega) (by
        rw [z0, clamp_of hn]
        apply List.ext_getElem?; intro i
        rw [List.getElem?_take, List.getElem?_map]
        by_cases q : i < k
        · rw [if_pos q, List.getElem?_range q]; simp [List.getD_eq_getElem?_getD, show i < vs.length by omega]
        · rw [if_neg q, List.getElem?_eq_none (by simpa using Nat.le_of_not_lt q)]; rfl) (by rw [z0, clamp_of hn]; omega) r ge (g := mkF m pc L (.int nn :: .int 0 :: .ref d :: .int 0 :: .ref a :: S)) rfl (by rw [K.2.2.2]; exact hsz) rfl (hb K.2.2.1 hd) hf (W := W) (by show 2 * 0 + _ ≤ _; omega) (by rw [acw]; exact hlo)
  rw [z0, clamp_of hn, List.take_zero, List.nil_append, Nat.zero_add] at FB'
  refine ⟨T', h', ⟨L', X', e', F', Nat.le_trans q Kp.1, hZ⟩, Kp, Arv.av FB' ?_, st⟩
  rw [eB, List.length_append, List.length_take, List.length_drop]; omega
theorem goClone (K : Cx Z own b ml p m c) (N : Nw Z n0 h p l e R s m args below meth c T cells slots) {ad : String} (w1 : (Jvm.Cond.methodLink own index ⟨ad, "clone", "()Ljava/lang/Object;"⟩).before a0 Z = true) (w2 : (Jvm.Cond.sameMethod ad "java/lang/Object" "clone" "()Ljava/lang/Object;").before a0 Z = true) (w3 : (Jvm.Cond.native ⟨"java/lang/Object", "clone", "()Ljava/lang/Object;"⟩).before a0 Z = true)
    (w4 : (Jvm.Cond.instanceMethod ⟨"java/lang/Object", "clone", "()Ljava/lang/Object;"⟩).before a0 Z = true) (w5 : (Jvm.Cond.selects ad ⟨ad, "clone", "()Ljava/lang/Object;"⟩ ⟨"java/lang/Object", "clone", "()Ljava/lang/Object;"⟩).before a0 Z = true) (w6 : (Jvm.Cond.castable ad "java/lang/Cloneable").before a0 Z = true)
    (F : Av Z h a ty vs) (E : Exa Z h a ad) (fit : ∀ v ∈ vs, fits ty v = true) (hsz : L.size = ml) (hd : decode b pc = .ok (.invokevirtual index, 3)) (hf : 1 ≤ R.frames) (hW : (S.map fun v => v.category).sum ≤ W) (hlo : W + 14 ≤ R.locals) {cap : Nat} (hcap : vs.length ≤ cap) (hc : cells + 1 ≤ R.cells) (hl : slots + cap ≤ R.slots) :
    ∃ T' h' d, d = h.size ∧ Nw Z n0 h' p l e R s m args below meth c T' (cells + 1) (slots + cap) ∧ Ext h h' ∧ Av Z h' d ty vs ∧ Exa Z h' d ad ∧ Ld p e below T (mkF m pc L (.ref a :: S)) T' (mkF m (pc + 3) L (.ref d :: S)) := by
  obtain ⟨cl, A, q1, q2⟩ := F
  have hs : cl.slots.size = vs.length := by rw [← q1, Array.length_toList]
  have FC : FitC Z cl := fitC_of A fun i hi v hv => fit v (by rw [← q1]; exact List.mem_of_getElem? (by rw [Array.getElem?_toList]; exact hv))
  obtain ⟨Lc, X, eT, r, q, hZ⟩ := N
  obtain ⟨T', h', X', e', ex, A', E', st⟩ := cloneA X K.1 hZ (cx_own K hZ) w1 w2 w3 w4 w5 w6 eT A E FC (g := mkF m pc L (.ref a :: S)) rfl (by rw [K.2.2.2]; exact hsz) rfl (hb K.2.2.1 hd) hf (W := W) (by show 2 * 0 + _ ≤ _; omega) hlo (by rw [hs]; exact hcap) hc hl
  exact ⟨T', h', _, rfl, ⟨Lc, X', e', r, Nat.le_trans q ex.1, hZ⟩, ex, ⟨cloneOf cl, A', q1, q2⟩, E', st⟩
end OwnObj

theorem pd0 : parseMethodDescriptor "(II)I" = some ⟨[.int, .int], some (.int)⟩ := by decide +kernel
set_option maxHeartbeats 1000000 in
theorem con_mn (a b : Nat) (ha : a < 1000) (hb : b < 1000) : Con l Z n0 ⟨"java/lang/Math", "min", "(II)I"⟩ jdk_29_method_69_code 2 (some (.int)) [] ({ frames := 0, cells := 0, slots := 0, locals := 0 } : Room) #[.int (Int32.ofNat a), .int (Int32.ofNat b)] h (fun v h' => v = some (.int (Int32.ofNat (min a b))) ∧ h = h') := by
  refine Con.ofH (by decide +kernel) (L0 := #[.val (.int (Int32.ofNat a)), .val (.int (Int32.ofNat b))]) (fun m => by first | (simp [entryFrame, mkF, argsToLocals, Value.category]; done) | rfl) ?_
  intro p e s m below meth c T K hret hnm N hs
  by_cases q : b < a
  · have g1 : Ld p e below T (mkF m 0 #[.val (.int (Int32.ofNat a)), .val (.int (Int32.ofNat b))] []) T (mkF m 10 #[.val (.int (Int32.ofNat a)), .val (.int (Int32.ofNat b))] [(.int (Int32.ofNat b))]) := goRun K N #[] [(0, .iload_n 0, 1), (1, .iload_n 1, 1), (2, .if_icmp .gt 7, 3), (9, .iload_n 1, 1)] [.ref 0] (P := ((Int32.ofNat b) < (Int32.ofNat a)) ∧ True) (by decide +kernel) rfl ⟨((n_lt (by omega) (by omega)).mpr q), trivial⟩
    exact ⟨_, T, _, h, _, _, N, by decide, by decide, fun q => (nomatch q), ⟨by congr 3; simp [Nat.min_def]; omega, rfl⟩, g1, finI K N hret (by decide +kernel)⟩
  · have g1 : Ld p e below T (mkF m 0 #[.val (.int (Int32.ofNat a)), .val (.int (Int32.ofNat b))] []) T (mkF m 10 #[.val (.int (Int32.ofNat a)), .val (.int (Int32.ofNat b))] [(.int (Int32.ofNat a))]) := goRun K N #[] [(0, .iload_n 0, 1), (1, .iload_n 1, 1), (2, .if_icmp .gt 7, 3), (5, .iload_n 0, 1), (6, .goto 4, 3)] [.null] (P := (¬ (Int32.ofNat b) < (Int32.ofNat a)) ∧ True) (by decide +kernel) rfl ⟨(by rw [n_lt (by omega) (by omega)]; exact q), trivial⟩
    exact ⟨_, T, _, h, _, _, N, by decide, by decide, fun q => (nomatch q), ⟨by congr 3; simp [Nat.min_def]; omega, rfl⟩, g1, finI K N hret (by decide +kernel)⟩
set_option maxHeartbeats 1000000 in
theorem con_mx (a b : Nat) (ha : a < 1000) (hb : b < 1000) : Con l Z n0 ⟨"java/lang/Math", "max", "(II)I"⟩ jdk_29_method_65_code 2 (some (.int)) [] ({ frames := 0, cells := 0, slots := 0, locals := 0 } : Room) #[.int (Int32.ofNat a), .int (Int32.ofNat b)] h (fun v h' => v = some (.int (Int32.ofNat (max a b))) ∧ h = h') := by
  refine Con.ofH (by decide +kernel) (L0 := #[.val (.int (Int32.ofNat a)), .val (.int (Int32.ofNat b))]) (fun m => by first | (simp [entryFrame, mkF, argsToLocals, Value.category]; done) | rfl) ?_
  intro p e s m below meth c T K hret hnm N hs
  by_cases q : a < b
  · have g1 : Ld p e below T (mkF m 0 #[.val (.int (Int32.ofNat a)), .val (.int (Int32.ofNat b))] []) T (mkF m 10 #[.val (.int (Int32.ofNat a)), .val (.int (Int32.ofNat b))] [(.int (Int32.ofNat b))]) := goRun K N #[] [(0, .iload_n 0, 1), (1, .iload_n 1, 1), (2, .if_icmp .lt 7, 3), (9, .iload_n 1, 1)] [.ref 0] (P := ((Int32.ofNat a) < (Int32.ofNat b)) ∧ True) (by decide +kernel) rfl ⟨((n_lt (by omega) (by omega)).mpr q), trivial⟩
    exact ⟨_, T, _, h, _, _, N, by decide, by decide, fun q => (nomatch q), ⟨by congr 3; simp [Nat.max_def]; omega, rfl⟩, g1, finI K N hret (by decide +kernel)⟩
  · have g1 : Ld p e below T (mkF m 0 #[.val (.int (Int32.ofNat a)), .val (.int (Int32.ofNat b))] []) T (mkF m 10 #[.val (.int (Int32.ofNat a)), .val (.int (Int32.ofNat b))] [(.int (Int32.ofNat a))]) := goRun K N #[] [(0, .iload_n 0, 1), (1, .iload_n 1, 1), (2, .if_icmp .lt 7, 3), (5, .iload_n 0, 1), (6, .goto 4, 3)] [.null] (P := (¬ (Int32.ofNat a) < (Int32.ofNat b)) ∧ True) (by decide +kernel) rfl ⟨(by rw [n_lt (by omega) (by omega)]; exact q), trivial⟩
    exact ⟨_, T, _, h, _, _, N, by decide, by decide, fun q => (nomatch q), ⟨by congr 3; simp [Nat.max_def]; omega, rfl⟩, g1, finI K N hret (by decide +kernel)⟩
theorem pn0 : plainName "com/example/headers_to_descriptors/headerstodescriptors/ReadOnlyItemsCopyOfPinLaw" = true := by first | (simp [plainName, overriddenIn]; done) | decide +kernel
theorem pd1 : parseMethodDescriptor "(IIIIII)Z" = some ⟨[.int, .int, .int, .int, .int, .int], some (.boolean)⟩ := by decide +kernel
theorem pn1 : plainName "java/lang/Integer" = true := by first | (simp [plainName, overriddenIn]; done) | decide +kernel
theorem pd2 : parseMethodDescriptor "(I)Ljava/lang/Integer;" = some ⟨[.int], some (.object "java/lang/Integer")⟩ := by decide +kernel
theorem pd3 : parseMethodDescriptor "(I)V" = some ⟨[.int], none⟩ := by decide +kernel
theorem pn2 : plainName "java/lang/Number" = true := by first | (simp [plainName, overriddenIn]; done) | decide +kernel
theorem pd4 : parseMethodDescriptor "()V" = some ⟨[], none⟩ := by decide +kernel
theorem pn3 : plainName "java/util/ArrayList" = true := by first | (simp [plainName, overriddenIn]; done) | decide +kernel
theorem pn4 : plainName "java/util/AbstractList" = true := by first | (simp [plainName, overriddenIn]; done) | decide +kernel
theorem pn5 : plainName "java/util/AbstractCollection" = true := by first | (simp [plainName, overriddenIn]; done) | decide +kernel
theorem pd5 : parseMethodDescriptor "(Ljava/lang/Object;)Z" = some ⟨[.object "java/lang/Object"], some (.boolean)⟩ := by decide +kernel
theorem pd6 : parseMethodDescriptor "(Ljava/lang/Object;[Ljava/lang/Object;I)V" = some ⟨[.object "java/lang/Object", .array (.object "java/lang/Object"), .int], none⟩ := by decide +kernel
theorem pd7 : parseMethodDescriptor "()[Ljava/lang/Object;" = some ⟨[], some (.array (.object "java/lang/Object"))⟩ := by decide +kernel
theorem pd8 : parseMethodDescriptor "(I)[Ljava/lang/Object;" = some ⟨[.int], some (.array (.object "java/lang/Object"))⟩ := by decide +kernel
theorem pn6 : plainName "java/util/Arrays" = true := by first | (simp [plainName, overriddenIn]; done) | decide +kernel
theorem pd9 : parseMethodDescriptor "([Ljava/lang/Object;I)[Ljava/lang/Object;" = some ⟨[.array (.object "java/lang/Object"), .int], some (.array (.object "java/lang/Object"))⟩ := by decide +kernel
theorem pd10 : parseMethodDescriptor "([Ljava/lang/Object;ILjava/lang/Class;)[Ljava/lang/Object;" = some ⟨[.array (.object "java/lang/Object"), .int, .object "java/lang/Class"], some (.array (.object "java/lang/Object"))⟩ := by decide +kernel
theorem pn7 : plainName "com/example/headers_to_descriptors/headerstodescriptors/ReadOnlyItems" = true := by first | (simp [plainName, overriddenIn]; done) | decide +kernel
theorem pd11 : parseMethodDescriptor "(Ljava/util/List;)Lcom/example/headers_to_descriptors/headerstodescriptors/ReadOnlyItems;" = some ⟨[.object "java/util/List"], some (.object "com/example/headers_to_descriptors/headerstodescriptors/ReadOnlyItems")⟩ := by decide +kernel
theorem pd12 : parseMethodDescriptor "([Ljava/lang/Object;)V" = some ⟨[.array (.object "java/lang/Object")], none⟩ := by decide +kernel
theorem pd13 : parseMethodDescriptor "()I" = some ⟨[], some (.int)⟩ := by decide +kernel
theorem pd14 : parseMethodDescriptor "(I)Ljava/lang/Object;" = some ⟨[.int], some (.object "java/lang/Object")⟩ := by decide +kernel
theorem pd15 : parseMethodDescriptor "(ILjava/lang/Object;Ljava/lang/Object;Ljava/lang/Object;)[Ljava/lang/Object;" = some ⟨[.int, .object "java/lang/Object", .object "java/lang/Object", .object "java/lang/Object"], some (.array (.object "java/lang/Object"))⟩ := by decide +kernel
def SF (Z : State) (ca : Addr) (cl : Cell) (da mo ma mr : Addr) : Prop := Sta Z Z.heap "java/lang/Integer$IntegerCache" "high" "I" (.int 127) ∧ Sta Z Z.heap "java/lang/Integer$IntegerCache" "cache" "[Ljava/lang/Integer;" (.ref ca) ∧ Bxs Z ca cl "java/lang/Integer" "I" 256 (fun j => .int (j - 128)) ∧ Sta Z Z.heap "java/util/ArrayList" "DEFAULTCAPACITY_EMPTY_ELEMENTDATA" "[Ljava/lang/Object;" (.ref da) ∧ Av Z Z.heap da (.object "java/lang/Object") [] ∧ Exa Z Z.heap da "[Ljava/lang/Object;" ∧ Mir Z "[Ljava/lang/Object;" mo ∧ Mir Z "java/util/ArrayList" ma ∧ Mir Z "com/example/headers_to_descriptors/headerstodescriptors/ReadOnlyItems" mr
def Al (Z : State) (h : Heap) (a ea : Addr) (n : Nat) : Prop := Exa Z h a "java/util/ArrayList" ∧ Fld Z h a "java/util/ArrayList" "elementData" "[Ljava/lang/Object;" (.ref ea) ∧ Fld Z h a "java/util/ArrayList" "size" "I" (.int (Int32.ofNat n)) ∧ ∃ mc : Int32, Fld Z h a "java/util/AbstractList" "modCount" "I" (.int mc)
theorem Al.keep {h h' : Heap} {a ea : Addr} {n : Nat} {ws : List Addr} (F : Al Z h a ea n) (K : Keep h h' ws) (q : a ∉ ws) : Al Z h' a ea n := ⟨F.1.keep K, F.2.1.keep K q, F.2.2.1.keep K q, F.2.2.2.imp fun _ z => z.keep K q⟩
def Els (Z : State) (h : Heap) (vs : List Value) : Prop := ∀ v ∈ vs, v = .null ∨ ∃ y, v = .ref y ∧ Exa Z h y "java/lang/Integer"
theorem Els.keep {h h' : Heap} {vs : List Value} {ws : List Addr} (F : Els Z h vs) (K : Keep h h' ws) : Els Z h' vs := fun v hv => (F v hv).imp id fun ⟨y, e, Y⟩ => ⟨y, e, Y.keep K⟩
theorem Els.nil {h : Heap} : Els Z h [] := fun _ q => (nomatch q)
theorem Els.cons {h : Heap} {y : Addr} {vs : List Value} (Y : Exa Z h y "java/lang/Integer") (F : Els Z h vs) : Els Z h (.ref y :: vs) := fun v hv => (List.mem_cons.mp hv).elim (fun e => Or.inr ⟨y, e, Y⟩) (F v)
theorem Els.rep {h : Heap} (n : Nat) : Els Z h (List.replicate n .null) := fun v hv => Or.inl (List.eq_of_mem_replicate hv)
theorem Els.set {h : Heap} {y : Addr} {vs : List Value} {i : Nat} (Y : Exa Z h y "java/lang/Integer") (F : Els Z h vs) : Els Z h (vs.set i (.ref y)) := fun v hv => (List.mem_or_eq_of_mem_set hv).elim (F v) fun e => Or.inr ⟨y, e, Y⟩
theorem Els.ins {h : Heap} {vs : List Value} (F : Els Z h vs) (w : (Jvm.Cond.castable "java/lang/Integer" "java/lang/Object").before a0 Z = true) : ∀ v ∈ vs, v = .null ∨ ∃ y, v = .ref y ∧ Ins Z h y "java/lang/Object" true := fun v hv => (F v hv).imp id fun ⟨y, e, Y⟩ => ⟨y, e, Ins.of_exa Y w⟩
theorem Els.fit {h : Heap} {vs : List Value} (F : Els Z h vs) : ∀ v ∈ vs, fits (.object "java/lang/Object") v = true := fun v hv => by rcases F v hv with rfl | ⟨y, rfl, -⟩ <;> rfl
def Oa (Z : State) (h : Heap) (a : Addr) (vs : List Value) : Prop := Av Z h a (.object "java/lang/Object") vs ∧ Exa Z h a "[Ljava/lang/Object;" ∧ Ovc Z h a "java/lang/Object"
theorem Oa.keep {h h' : Heap} {a : Addr} {vs : List Value} {ws : List Addr} (F : Oa Z h a vs) (K : Keep h h' ws) (q : a ∉ ws) : Oa Z h' a vs := ⟨F.1.keep K q, F.2.1.keep K, F.2.2.keep K⟩
theorem Av.len31 {h : Heap} {a : Addr} {ty : FieldType} {vs : List Value} (F : Av Z h a ty vs) : vs.length < 2147483648 := by obtain ⟨_, _, _, q⟩ := F; exact q
theorem vo_in {i : Int32} {n : Nat} (hs : n = (256 : Int32).toNatClampNeg) (q1 : ¬ i < (-128 : Int32)) (q2 : ¬ (127 : Int32) < i) : ¬ (i + (128 : Int32) < 0 ∨ n ≤ (i + (128 : Int32)).toNatClampNeg) := by
  rw [Int32.lt_iff_toInt_lt] at q1 q2
  have e1 : (-128 : Int32).toInt = -128 := rfl
  have e2 : (127 : Int32).toInt = 127 := rfl
  have e3 : (128 : Int32).toInt = 128 := rfl
  have e4 : (0 : Int32).toInt = 0 := rfl
  have hj : (i + 128).toInt = i.toInt + 128 := by rw [Int32.toInt_add]; exact Int.bmod_eq_of_le (by show _ ≤ i.toInt + 128; omega) (by show i.toInt + 128 < _; omega)
  have hs' : n = 256 := hs
  rintro (z | z)
  · rw [Int32.lt_iff_toInt_lt] at z; omega
  · simp only [Int32.toNatClampNeg] at z; omega
theorem and3 (x : Int32) : x &&& (3 : Int32) = 0 ∨ x &&& (3 : Int32) = 1 ∨ x &&& (3 : Int32) = 2 ∨ x &&& (3 : Int32) = 3 := by
  have e : (x &&& 3).toBitVec.toNat = x.toBitVec.toNat % 4 := by
    show (x.toBitVec &&& 3#32).toNat = _
    rw [BitVec.toNat_and]; exact Nat.and_two_pow_sub_one_eq_mod _ 2
  have lift : ∀ k : Nat, k < 4 → (x &&& 3).toBitVec.toNat = k → x &&& 3 = Int32.ofNat k := fun k hk q => Int32.toBitVec_inj.mp (BitVec.eq_of_toNat_eq (by rw [q]; show k = (BitVec.ofNat 32 k).toNat; rw [BitVec.toNat_ofNat]; omega))
  rcases (show x.toBitVec.toNat % 4 = 0 ∨ x.toBitVec.toNat % 4 = 1 ∨ x.toBitVec.toNat % 4 = 2 ∨ x.toBitVec.toNat % 4 = 3 by omega) with q | q | q | q
  · exact Or.inl (lift 0 (by decide) (e.trans q))
  · exact Or.inr (Or.inl (lift 1 (by decide) (e.trans q)))
  · exact Or.inr (Or.inr (Or.inl (lift 2 (by decide) (e.trans q))))
  · exact Or.inr (Or.inr (Or.inr (lift 3 (by decide) (e.trans q))))
theorem len_ok {args : Array Value} {t : Term} {n : Int32} {a : Addr} {c : Cell} {ty : FieldType} (h : (Term.length t).eval args Z none [] Z = some (.int n)) (ht : t.eval args Z none [] Z = some (.ref a)) (A : Arr Z Z.heap a c ty) : c.slots.size < 2 ^ 31 ∧ c.slots.size.toInt32 = n := by
  have ha := A.fin (Vm.Alike.refl _)
  simp only [Term.eval, ht, Option.bind_eq_bind, Option.bind_some, ha] at h
  split at h
  · rename_i q; exact ⟨q, by simpa using h⟩
  · cases h
set_option maxHeartbeats 1000000 in
theorem con_nu (hw : ∀ d ∈ tables_1, d.before a0 Z = true) (a : Addr) : Con l Z n0 ⟨"java/lang/Number", "<init>", "()V"⟩ jdk_18_method_1_code 1 none [] ({ frames := 1, cells := 0, slots := 0, locals := 12 } : Room) #[.ref a] h (fun v h' => v = none ∧ h = h') := by
  refine Con.ofH (plainFor_of_name pn2) (L0 := #[.val (.ref a)]) (fun m => by first | (simp [entryFrame, mkF, argsToLocals, Value.category]; done) | rfl) ?_
  intro p e s m below meth c T K hret hnm N hs
  have g1 : Ld p e below T (mkF m 0 #[.val (.ref a)] []) T (mkF m 1 #[.val (.ref a)] [(.ref a)]) := goRun K N #[] [(0, .aload_n 0, 1)] [] (P := True) (by decide +kernel) rfl trivial
  obtain ⟨T2, N2, g2⟩ := goInit K N (tw hw 158 rfl) (tw hw 26 rfl) (tw hw 27 rfl) rfl (a := a) (pc := 1) (L := #[.val (.ref a)]) (S := []) rfl (by decide +kernel) (by decide) (W := 0) (Nat.le_of_eq rfl) (by decide)
  exact ⟨none, T2, _, h, _, _, N2, by decide, by decide, fun _ => rfl, ⟨rfl, rfl⟩, g1.trans g2, finV K N2 hret (by decide +kernel)⟩
set_option maxHeartbeats 1000000 in
theorem con_ac (hw : ∀ d ∈ tables_1, d.before a0 Z = true) (a : Addr) : Con l Z n0 ⟨"java/util/AbstractCollection", "<init>", "()V"⟩ jdk_22_method_1_code 1 none [] ({ frames := 1, cells := 0, slots := 0, locals := 12 } : Room) #[.ref a] h (fun v h' => v = none ∧ h = h') := by
  refine Con.ofH (plainFor_of_name pn5) (L0 := #[.val (.ref a)]) (fun m => by first | (simp [entryFrame, mkF, argsToLocals, Value.category]; done) | rfl) ?_
  intro p e s m below meth c T K hret hnm N hs
  have g1 : Ld p e below T (mkF m 0 #[.val (.ref a)] []) T (mkF m 1 #[.val (.ref a)] [(.ref a)]) := goRun K N #[] [(0, .aload_n 0, 1)] [] (P := True) (by decide +kernel) rfl trivial
  obtain ⟨T2, N2, g2⟩ := goInit K N (tw hw 25 rfl) (tw hw 26 rfl) (tw hw 27 rfl) rfl (a := a) (pc := 1) (L := #[.val (.ref a)]) (S := []) rfl (by decide +kernel) (by decide) (W := 0) (Nat.le_of_eq rfl) (by decide)
  exact ⟨none, T2, _, h, _, _, N2, by decide, by decide, fun _ => rfl, ⟨rfl, rfl⟩, g1.trans g2, finV K N2 hret (by decide +kernel)⟩
set_option maxHeartbeats 1000000 in
theorem con_ii (hw : ∀ d ∈ tables_1, d.before a0 Z = true) {a : Addr} {i : Int32} (X : Exa Z h a "java/lang/Integer") (F : Fld Z h a "java/lang/Integer" "value" "I" (.int 0)) (ha : n0 ≤ a) : Con l Z n0 ⟨"java/lang/Integer", "<init>", "(I)V"⟩ jdk_33_method_23_code 2 none [] ({ frames := 2, cells := 0, slots := 0, locals := 24 } : Room) #[.ref a, .int i] h (fun v h' => v = none ∧ Keep h h' [a]) := by
  refine Con.ofH (plainFor_of_name pn1) (L0 := #[.val (.ref a), .val (.int i)]) (fun m => by first | (simp [entryFrame, mkF, argsToLocals, Value.category]; done) | rfl) ?_
  intro p e s m below meth c T K hret hnm N hs
  have g1 : Ld p e below T (mkF m 0 #[.val (.ref a), .val (.int i)] []) T (mkF m 1 #[.val (.ref a), .val (.int i)] [(.ref a)]) := goRun K N #[] [(0, .aload_n 0, 1)] [] (P := True) (by decide +kernel) rfl trivial
  obtain ⟨v2, T2, _, N2, ⟨rfl, rfl⟩, g2⟩ := goSp K N (a := a) (tw hw 152 rfl) (tw hw 153 rfl) (tw hw 156 rfl) (tw hw 157 rfl) (con_nu hw a) rfl (by decide) (argsL := []) (W := 0) (rest := []) (by decide) (by decide) (by decide) (by decide) (L := #[.val (.ref a), .val (.int i)]) rfl pd4 rfl (Nat.le_of_eq rfl) (pc := 1) (by decide +kernel)
  have g3 : Ld p e below T2 (mkF m 4 #[.val (.ref a), .val (.int i)] []) T2 (mkF m 6 #[.val (.ref a), .val (.int i)] [(.int i), (.ref a)]) := goRun K N2 #[] [(4, .aload_n 0, 1), (5, .iload_n 1, 1)] [] (P := True) (by decide +kernel) rfl trivial
  obtain ⟨T4, h4, N4, W4, g4⟩ := goPut K N2 (C := "java/lang/Integer") (tw hw 159 rfl) F X (Or.inr ⟨(tw hw 160 rfl), rfl, hnm⟩) (tw hw 147 rfl) (ty := .int) (v := .int i) (by decide) rfl rfl ha (pc := 6) (L := #[.val (.ref a), .val (.int i)]) (S := []) (by decide +kernel)
  exact ⟨none, T4, _, h4, _, _, N4, by decide, by decide, fun _ => rfl, ⟨rfl, Keep.of_wr W4⟩, g1.trans (g2.trans (g3.trans g4)), finV K N4 hret (by decide +kernel)⟩
set_option maxHeartbeats 1000000 in
theorem con_vo (hw : ∀ d ∈ tables_1, d.before a0 Z = true) {ca : Addr} {cl : Cell} {da mo ma mr : Addr} (sf : SF Z ca cl da mo ma mr) (i : Int32) (O : Old Z n0 h) : Con l Z n0 ⟨"java/lang/Integer", "valueOf", "(I)Ljava/lang/Integer;"⟩ jdk_33_method_22_code 1 (some (.object "java/lang/Integer")) [] ({ frames := 3, cells := 1, slots := 1, locals := 38 } : Room) #[.int i] h (fun v h' => ∃ y, v = some (.ref y) ∧ Exa Z h' y "java/lang/Integer" ∧ Keep h h' []) := by
  refine Con.ofH (plainFor_of_name pn1) (L0 := #[.val (.int i)]) (fun m => by first | (simp [entryFrame, mkF, argsToLocals, Value.category]; done) | rfl) ?_
  intro p e s m below meth c T K hret hnm N hs
  have O0 : Old Z n0 s.heap := by rw [hs]; exact O
  by_cases q1 : i < (-128 : Int32)
  · have g1 : Ld p e below T (mkF m 0 #[.val (.int i)] []) T (mkF m 23 #[.val (.int i)] []) := goRun K N #[] [(0, .iload_n 0, 1), (1, .bipush (-128), 2), (3, .if_icmp .lt 20, 3)] [.ref 0] (P := (i < (-128 : Int32)) ∧ True) (by decide +kernel) rfl ⟨q1, trivial⟩
    obtain ⟨T2, h2, a2, ea2, N2, E2, X2, D2, g2⟩ := goNew K N (C := "java/lang/Integer") (tw hw 146 rfl) (tw hw 147 rfl) (tw hw 2 rfl) (pc := 23) (L := #[.val (.int i)]) (S := []) (by decide +kernel) (by decide) (by decide)
    have ha2 : n0 ≤ a2 := ea2 ▸ N.size
    have FV : Fld Z h2 a2 "java/lang/Integer" "value" "I" (.int 0) := D2 (Or.inr (tw hw 160 rfl)) (ty := .int) (by decide)
    have g3 : Ld p e below T2 (mkF m 26 #[.val (.int i)] [(.ref a2)]) T2 (mkF m 28 #[.val (.int i)] [(.int i), (.ref a2), (.ref a2)]) := goRun K N2 #[] [(26, .dup, 1), (27, .iload_n 0, 1)] [] (P := True) (by decide +kernel) rfl trivial
    obtain ⟨v4, T4, h4, N4, ⟨rfl, KI⟩, g4⟩ := goSp K N2 (a := a2) (tw hw 148 rfl) (tw hw 149 rfl) (tw hw 2 rfl) (tw hw 151 rfl) (con_ii hw X2 FV ha2) rfl (by decide) (argsL := [(.int i)]) (W := 1) (rest := [(.ref a2)]) (by decide) (by decide) (by decide) (by decide) (L := #[.val (.int i)]) rfl pd3 rfl (Nat.le_of_eq rfl) (pc := 28) (by decide +kernel)
    exact ⟨_, T4, _, h4, _, _, N4, by decide, by decide, fun q => (nomatch q), ⟨_, rfl, X2.keep KI, (keep_ext E2).trans KI (allS (Or.inr (Nat.le_of_eq ea2.symm)) all0)⟩, g1.trans (g2.trans (g3.trans g4)), finA K N4 hret rfl rfl rfl (by decide +kernel)⟩
  · have g1 : Ld p e below T (mkF m 0 #[.val (.int i)] []) T (mkF m 7 #[.val (.int i)] [(.int i)]) := goRun K N #[] [(0, .iload_n 0, 1), (1, .bipush (-128), 2), (3, .if_icmp .lt 20, 3), (6, .iload_n 0, 1)] [.null] (P := (¬ i < (-128 : Int32)) ∧ True) (by decide +kernel) rfl ⟨q1, trivial⟩
    obtain ⟨T2, N2, g2⟩ := goSta K N (tw hw 4 rfl) (sf.1.ext (N.old O0).2) (pc := 7) (L := #[.val (.int i)]) (S := [(.int i)]) (by decide +kernel)
    by_cases q2 : (127 : Int32) < i
    · have g3 : Ld p e below T2 (mkF m 10 #[.val (.int i)] [(.int (127 : Int32)), (.int i)]) T2 (mkF m 23 #[.val (.int i)] []) := goRun K N2 #[] [(10, .if_icmp .gt 13, 3)] [.ref 0] (P := ((127 : Int32) < i) ∧ True) (by decide +kernel) rfl ⟨q2, trivial⟩
      obtain ⟨T4, h4, a4, ea4, N4, E4, X4, D4, g4⟩ := goNew K N2 (C := "java/lang/Integer") (tw hw 146 rfl) (tw hw 147 rfl) (tw hw 2 rfl) (pc := 23) (L := #[.val (.int i)]) (S := []) (by decide +kernel) (by decide) (by decide)
      have ha4 : n0 ≤ a4 := ea4 ▸ N2.size
      have FV : Fld Z h4 a4 "java/lang/Integer" "value" "I" (.int 0) := D4 (Or.inr (tw hw 160 rfl)) (ty := .int) (by decide)
      have g5 : Ld p e below T4 (mkF m 26 #[.val (.int i)] [(.ref a4)]) T4 (mkF m 28 #[.val (.int i)] [(.int i), (.ref a4), (.ref a4)]) := goRun K N4 #[] [(26, .dup, 1), (27, .iload_n 0, 1)] [] (P := True) (by decide +kernel) rfl trivial
      obtain ⟨v6, T6, h6, N6, ⟨rfl, KI⟩, g6⟩ := goSp K N4 (a := a4) (tw hw 148 rfl) (tw hw 149 rfl) (tw hw 2 rfl) (tw hw 151 rfl) (con_ii hw X4 FV ha4) rfl (by decide) (argsL := [(.int i)]) (W := 1) (rest := [(.ref a4)]) (by decide) (by decide) (by decide) (by decide) (L := #[.val (.int i)]) rfl pd3 rfl (Nat.le_of_eq rfl) (pc := 28) (by decide +kernel)
      exact ⟨_, T6, _, h6, _, _, N6, by decide, by decide, fun q => (nomatch q), ⟨_, rfl, X4.keep KI, (keep_ext E4).trans KI (allS (Or.inr (Nat.le_of_eq ea4.symm)) all0)⟩, g1.trans (g2.trans (g3.trans (g4.trans (g5.trans g6)))), finA K N6 hret rfl rfl rfl (by decide +kernel)⟩
    · have g3 : Ld p e below T2 (mkF m 10 #[.val (.int i)] [(.int (127 : Int32)), (.int i)]) T2 (mkF m 13 #[.val (.int i)] []) := goRun K N2 #[] [(10, .if_icmp .gt 13, 3)] [.null] (P := (¬ (127 : Int32) < i) ∧ True) (by decide +kernel) rfl ⟨q2, trivial⟩
      obtain ⟨T4, N4, g4⟩ := goSta K N2 (tw hw 6 rfl) (sf.2.1.ext (N2.old O0).2) (pc := 13) (L := #[.val (.int i)]) (S := []) (by decide +kernel)
      obtain ⟨y9, r1, r2, -⟩ := sf.2.2.1.2.2.2 _ (vo_in sf.2.2.1.2.1 q1 q2)
      have g5 : Ld p e below T4 (mkF m 16 #[.val (.int i)] [(.ref ca)]) T4 (mkF m 22 #[.val (.int i)] [(.ref y9)]) := goRun K N4 #[] [(16, .iload_n 0, 1), (17, .sipush 128, 3), (20, .iadd, 1), (21, .aaload, 1)] [.ref y9] (P := (∃ ty, ty.isReference = true ∧ Rd Z h ca ty (i + (128 : Int32)) (.ref y9)) ∧ True) (by decide +kernel) rfl ⟨⟨.object "java/lang/Integer", rfl, cl, sf.2.2.1.1.ext (N4.old O0).2, vo_in sf.2.2.1.2.1 q1 q2, r1⟩, trivial⟩
      exact ⟨_, T4, _, h, _, _, N4, by decide, by decide, fun q => (nomatch q), ⟨y9, rfl, r2.ext (N4.old O0).2, Keep.refl _ _⟩, g1.trans (g2.trans (g3.trans (g4.trans g5))), finA K N4 hret rfl rfl rfl (by decide +kernel)⟩
set_option maxHeartbeats 1000000 in
theorem con_ab (hw : ∀ d ∈ tables_1, d.before a0 Z = true) {C : String} {kk : Nat} {a : Addr} (wl : (Jvm.Cond.lays C "java/util/AbstractList" "modCount" "I").before a0 Z = true) (wi : (Jvm.Cond.instantiable C kk).before a0 Z = true) (X : Exa Z h a C) (F : Fld Z h a "java/util/AbstractList" "modCount" "I" (.int 0)) (ha : n0 ≤ a) : Con l Z n0 ⟨"java/util/AbstractList", "<init>", "()V"⟩ jdk_39_method_1_code 1 none [] ({ frames := 2, cells := 0, slots := 0, locals := 24 } : Room) #[.ref a] h (fun v h' => v = none ∧ Wr h h' a (Jvm.RoadKit.slotOf Z "java/util/AbstractList" "modCount" "I") (.int 0)) := by
  refine Con.ofH (plainFor_of_name pn4) (L0 := #[.val (.ref a)]) (fun m => by first | (simp [entryFrame, mkF, argsToLocals, Value.category]; done) | rfl) ?_
  intro p e s m below meth c T K hret hnm N hs
  have g1 : Ld p e below T (mkF m 0 #[.val (.ref a)] []) T (mkF m 1 #[.val (.ref a)] [(.ref a)]) := goRun K N #[] [(0, .aload_n 0, 1)] [] (P := True) (by decide +kernel) rfl trivial
  obtain ⟨v2, T2, _, N2, ⟨rfl, rfl⟩, g2⟩ := goSp K N (a := a) (tw hw 19 rfl) (tw hw 20 rfl) (tw hw 23 rfl) (tw hw 24 rfl) (con_ac hw a) rfl (by decide) (argsL := []) (W := 0) (rest := []) (by decide) (by decide) (by decide) (by decide) (L := #[.val (.ref a)]) rfl pd4 rfl (Nat.le_of_eq rfl) (pc := 1) (by decide +kernel)
  have g3 : Ld p e below T2 (mkF m 4 #[.val (.ref a)] []) T2 (mkF m 6 #[.val (.ref a)] [(.int (0 : Int32)), (.ref a)]) := goRun K N2 #[] [(4, .aload_n 0, 1), (5, .iconst 0, 1)] [] (P := True) (by decide +kernel) rfl trivial
  obtain ⟨T4, h4, N4, W4, g4⟩ := goPutV K N2 (tw hw 28 rfl) Via.refl F X (Or.inl wl) wi (ty := .int) (v := .int (0 : Int32)) (by decide) rfl rfl ha (pc := 6) (L := #[.val (.ref a)]) (S := []) (by decide +kernel)
  exact ⟨none, T4, _, h4, _, _, N4, by decide, by decide, fun _ => rfl, ⟨rfl, W4⟩, g1.trans (g2.trans (g3.trans g4)), finV K N4 hret (by decide +kernel)⟩
set_option maxHeartbeats 1000000 in
theorem con_al (hw : ∀ d ∈ tables_1, d.before a0 Z = true) {ca : Addr} {cl : Cell} {da mo ma mr : Addr} (sf : SF Z ca cl da mo ma mr) {a : Addr} (X : Exa Z h a "java/util/ArrayList") (F0 : Fld Z h a "java/util/ArrayList" "elementData" "[Ljava/lang/Object;" .null) (F1 : Fld Z h a "java/util/ArrayList" "size" "I" (.int 0)) (F2 : Fld Z h a "java/util/AbstractList" "modCount" "I" (.int 0)) (ha : n0 ≤ a) (O : Old Z n0 h) : Con l Z n0 ⟨"java/util/ArrayList", "<init>", "()V"⟩ jdk_38_method_2_code 1 none [] ({ frames := 3, cells := 0, slots := 0, locals := 36 } : Room) #[.ref a] h (fun v h' => v = none ∧ Keep h h' [a] ∧ Al Z h' a da 0) := by
  refine Con.ofH (plainFor_of_name pn3) (L0 := #[.val (.ref a)]) (fun m => by first | (simp [entryFrame, mkF, argsToLocals, Value.category]; done) | rfl) ?_
  intro p e s m below meth c T K hret hnm N hs
  have O0 : Old Z n0 s.heap := by rw [hs]; exact O
  have le : Laid Z a0 "java/util/ArrayList" "java/util/ArrayList" "elementData" "[Ljava/lang/Object;" := Or.inl (tw hw 32 rfl)
  have lz : Laid Z a0 "java/util/ArrayList" "java/util/ArrayList" "size" "I" := Or.inl (tw hw 47 rfl)
  have lc : Laid Z a0 "java/util/ArrayList" "java/util/AbstractList" "modCount" "I" := Or.inl (tw hw 29 rfl)
  have sez := slot_ne le lz (by decide) (t := .array (.object "java/lang/Object")) (t' := .int) (by decide) (by decide)
  have sec := slot_ne le lc (by decide) (t := .array (.object "java/lang/Object")) (t' := .int) (by decide) (by decide)
  have szc := slot_ne lz lc (by decide) (t := .int) (t' := .int) (by decide) (by decide)
  have g1 : Ld p e below T (mkF m 0 #[.val (.ref a)] []) T (mkF m 1 #[.val (.ref a)] [(.ref a)]) := goRun K N #[] [(0, .aload_n 0, 1)] [] (P := True) (by decide +kernel) rfl trivial
  obtain ⟨v2, T2, h2, N2, ⟨rfl, WM⟩, g2⟩ := goSp K N (a := a) (tw hw 13 rfl) (tw hw 14 rfl) (tw hw 17 rfl) (tw hw 18 rfl) (con_ab hw (C := "java/util/ArrayList") (tw hw 29 rfl) (tw hw 8 rfl) X F2 ha) rfl (by decide) (argsL := []) (W := 0) (rest := []) (by decide) (by decide) (by decide) (by decide) (L := #[.val (.ref a)]) rfl pd4 rfl (Nat.le_of_eq rfl) (pc := 1) (by decide +kernel)
  have g3 : Ld p e below T2 (mkF m 4 #[.val (.ref a)] []) T2 (mkF m 5 #[.val (.ref a)] [(.ref a)]) := goRun K N2 #[] [(4, .aload_n 0, 1)] [] (P := True) (by decide +kernel) rfl trivial
  obtain ⟨T4, N4, g4⟩ := goSta K N2 (tw hw 30 rfl) (sf.2.2.2.1.ext (N2.old O0).2) (pc := 5) (L := #[.val (.ref a)]) (S := [(.ref a)]) (by decide +kernel)
  obtain ⟨T5, h5, N5, W5, g5⟩ := goPut K N4 (C := "java/util/ArrayList") (tw hw 31 rfl) (Fld.other WM F0 (Or.inr sec)) (Exa.wr WM X) (Or.inl (tw hw 32 rfl)) (tw hw 8 rfl) (ty := .array (.object "java/lang/Object")) (v := .ref da) (by decide) rfl rfl ha (pc := 8) (L := #[.val (.ref a)]) (S := []) (by decide +kernel)
  exact ⟨none, T5, _, h5, _, _, N5, by decide, by decide, fun _ => rfl, ⟨rfl, (Keep.of_wr WM).wr W5 (Or.inl (List.mem_cons_self ..)), Exa.wr W5 (Exa.wr WM X), Fld.same W5 (Fld.other WM F0 (Or.inr sec)), Fld.other W5 (Fld.other WM F1 (Or.inr szc)) (Or.inr sez.symm), _, Fld.other W5 (Fld.same WM F2) (Or.inr sec.symm)⟩, g1.trans (g2.trans (g3.trans (g4.trans g5))), finV K N5 hret (by decide +kernel)⟩
set_option maxHeartbeats 1000000 in
theorem con_gi (hw : ∀ d ∈ tables_1, d.before a0 Z = true) {ca : Addr} {cl : Cell} {da mo ma mr : Addr} (sf : SF Z ca cl da mo ma mr) {a : Addr} (F : Al Z h a da 0) (ha : n0 ≤ a) (O : Old Z n0 h) : Con l Z n0 ⟨"java/util/ArrayList", "grow", "(I)[Ljava/lang/Object;"⟩ jdk_38_method_6_code 4 (some (.array (.object "java/lang/Object"))) [] ({ frames := 1, cells := 1, slots := 10, locals := 14 } : Room) #[.ref a, .int (Int32.ofNat 1)] h (fun v h' => ∃ r, v = some (.ref r) ∧ h.size ≤ r ∧ Keep h h' [a] ∧ Al Z h' a r 0 ∧ Oa Z h' r (List.replicate 10 .null)) := by
  refine Con.ofH (plainFor_of_name pn3) (L0 := #[.val (.ref a), .val (.int (Int32.ofNat 1)), .unset, .unset]) (fun m => by first | (simp [entryFrame, mkF, argsToLocals, Value.category]; done) | rfl) ?_
  intro p e s m below meth c T K hret hnm N hs
  have O0 : Old Z n0 s.heap := by rw [hs]; exact O
  have le : Laid Z a0 "java/util/ArrayList" "java/util/ArrayList" "elementData" "[Ljava/lang/Object;" := Or.inl (tw hw 32 rfl)
  have lz : Laid Z a0 "java/util/ArrayList" "java/util/ArrayList" "size" "I" := Or.inl (tw hw 47 rfl)
  have lc : Laid Z a0 "java/util/ArrayList" "java/util/AbstractList" "modCount" "I" := Or.inl (tw hw 29 rfl)
  have sez := slot_ne le lz (by decide) (t := .array (.object "java/lang/Object")) (t' := .int) (by decide) (by decide)
  have sec := slot_ne le lc (by decide) (t := .array (.object "java/lang/Object")) (t' := .int) (by decide) (by decide)
  have szc := slot_ne lz lc (by decide) (t := .int) (t' := .int) (by decide) (by decide)
  have g1 : Ld p e below T (mkF m 0 #[.val (.ref a), .val (.int (Int32.ofNat 1)), .unset, .unset] []) T (mkF m 1 #[.val (.ref a), .val (.int (Int32.ofNat 1)), .unset, .unset] [(.ref a)]) := goRun K N #[] [(0, .aload_n 0, 1)] [] (P := True) (by decide +kernel) rfl trivial
  obtain ⟨T2, N2, g2⟩ := goGet K N (tw hw 31 rfl) F.2.1 (pc := 1) (L := #[.val (.ref a), .val (.int (Int32.ofNat 1)), .unset, .unset]) (S := []) (by decide +kernel)
  have g3 : Ld p e below T2 (mkF m 4 #[.val (.ref a), .val (.int (Int32.ofNat 1)), .unset, .unset] [(.ref da)]) T2 (mkF m 11 #[.val (.ref a), .val (.int (Int32.ofNat 1)), .val (.int (0 : Int32)), .unset] [(.ref a)]) := goRun K N2 #[] [(4, .arraylength, 1), (5, .istore_n 2, 1), (6, .iload_n 2, 1), (7, .ifCond .gt 13, 3), (10, .aload_n 0, 1)] [.int (0 : Int32), .null] (P := (Ln Z h da (0 : Int32)) ∧ (¬ (0 : Int32) < (0 : Int32)) ∧ True) (by decide +kernel) rfl ⟨(Av.ln (sf.2.2.2.2.1.ext (N2.old O0).2) rfl), (by decide), trivial⟩
  obtain ⟨T4, N4, g4⟩ := goGet K N2 (tw hw 31 rfl) F.2.1 (pc := 11) (L := #[.val (.ref a), .val (.int (Int32.ofNat 1)), .val (.int (0 : Int32)), .unset]) (S := []) (by decide +kernel)
  obtain ⟨T5, N5, g5⟩ := goSta K N4 (tw hw 30 rfl) (sf.2.2.2.1.ext (N4.old O0).2) (pc := 14) (L := #[.val (.ref a), .val (.int (Int32.ofNat 1)), .val (.int (0 : Int32)), .unset]) (S := [(.ref da)]) (by decide +kernel)
  have g6 : Ld p e below T5 (mkF m 17 #[.val (.ref a), .val (.int (Int32.ofNat 1)), .val (.int (0 : Int32)), .unset] [(.ref da), (.ref da)]) T5 (mkF m 49 #[.val (.ref a), .val (.int (Int32.ofNat 1)), .val (.int (0 : Int32)), .unset] [(.int (Int32.ofNat 1)), (.int (10 : Int32)), (.ref a)]) := goRun K N5 #[] [(17, .if_acmp .eq 28, 3), (45, .aload_n 0, 1), (46, .bipush 10, 2), (48, .iload_n 1, 1)] [.ref 0] (P := ((.ref da : Value) = (.ref da : Value)) ∧ True) (by decide +kernel) rfl ⟨rfl, trivial⟩
  obtain ⟨v7, T7, _, N7, ⟨rfl, rfl⟩, g7⟩ := goS K N5 (tw hw 111 rfl) (tw hw 112 rfl) (tw hw 66 rfl) (tw hw 113 rfl) (con_mx 10 1 (by decide) (by decide)) (argsL := [(.int (10 : Int32)), (.int (Int32.ofNat 1))]) (W := 1) (rest := [(.ref a)]) (by decide) (by decide) (by decide) (by decide) (by decide) (L := #[.val (.ref a), .val (.int (Int32.ofNat 1)), .val (.int (0 : Int32)), .unset]) rfl pd0 rfl (Nat.le_of_eq rfl) (pc := 49) (by decide +kernel)
  obtain ⟨T8, h8, a8, ea8, N8, E8, A8, O8, X8, g8⟩ := goNewX K N7 (C := "java/lang/Object") (tw hw 114 rfl) (tw hw 63 rfl) (D := "[Ljava/lang/Object;") (by decide +kernel) (n := Int32.ofNat (max 10 1)) (k := 10) rfl (cap := 10) (by omega) (by decide) (by decide) (by decide) (pc := 52) (L := #[.val (.ref a), .val (.int (Int32.ofNat 1)), .val (.int (0 : Int32)), .unset]) (S := [(.ref a)]) (by decide +kernel)
  have ha8 : n0 ≤ a8 := ea8 ▸ N7.size
  have g9 : Ld p e below T8 (mkF m 55 #[.val (.ref a), .val (.int (Int32.ofNat 1)), .val (.int (0 : Int32)), .unset] [(.ref a8), (.ref a)]) T8 (mkF m 56 #[.val (.ref a), .val (.int (Int32.ofNat 1)), .val (.int (0 : Int32)), .unset] [(.ref a8), (.ref a), (.ref a8)]) := goRun K N8 #[] [(55, .dup_x1, 1)] [] (P := True) (by decide +kernel) rfl trivial
  obtain ⟨T10, h10, N10, W10, g10⟩ := goPut K N8 (C := "java/util/ArrayList") (tw hw 31 rfl) (Fld.ext E8 F.2.1) (Exa.ext E8 F.1) (Or.inl (tw hw 32 rfl)) (tw hw 8 rfl) (ty := .array (.object "java/lang/Object")) (v := .ref a8) (by decide) rfl rfl ha (pc := 56) (L := #[.val (.ref a), .val (.int (Int32.ofNat 1)), .val (.int (0 : Int32)), .unset]) (S := [(.ref a8)]) (by decide +kernel)
  have ne : a8 ≠ a := Ne.symm (Av.ne_exa A8 (Exa.ext E8 F.1) (tw hw 8 rfl))
  exact ⟨_, T10, _, h10, _, _, N10, by decide, by decide, fun q => (nomatch q), ⟨_, rfl, Nat.le_of_eq ea8.symm, (keep_ext E8).wr W10 (Or.inl (List.mem_cons_self ..)), ⟨Exa.wr W10 (Exa.ext E8 F.1), Fld.same W10 (Fld.ext E8 F.2.1), Fld.other W10 (Fld.ext E8 F.2.2.1) (Or.inr sez.symm), F.2.2.2.imp fun _ q => Fld.other W10 (Fld.ext E8 q) (Or.inr sec.symm)⟩, A8.other W10 ne, Exa.wr W10 X8, O8.keep (Keep.of_wr W10)⟩, g1.trans (g2.trans (g3.trans (g4.trans (g5.trans (g6.trans (g7.trans (g8.trans (g9.trans g10)))))))), finA K N10 hret rfl rfl rfl (by decide +kernel)⟩
set_option maxHeartbeats 1000000 in
theorem con_g0 (hw : ∀ d ∈ tables_1, d.before a0 Z = true) {ca : Addr} {cl : Cell} {da mo ma mr : Addr} (sf : SF Z ca cl da mo ma mr) {a : Addr} (F : Al Z h a da 0) (ha : n0 ≤ a) (O : Old Z n0 h) : Con l Z n0 ⟨"java/util/ArrayList", "grow", "()[Ljava/lang/Object;"⟩ jdk_38_method_7_code 1 (some (.array (.object "java/lang/Object"))) [] ({ frames := 2, cells := 1, slots := 10, locals := 29 } : Room) #[.ref a] h (fun v h' => ∃ r, v = some (.ref r) ∧ h.size ≤ r ∧ Keep h h' [a] ∧ Al Z h' a r 0 ∧ Oa Z h' r (List.replicate 10 .null)) := by
  refine Con.ofH (plainFor_of_name pn3) (L0 := #[.val (.ref a)]) (fun m => by first | (simp [entryFrame, mkF, argsToLocals, Value.category]; done) | rfl) ?_
  intro p e s m below meth c T K hret hnm N hs
  have O0 : Old Z n0 s.heap := by rw [hs]; exact O
  have g1 : Ld p e below T (mkF m 0 #[.val (.ref a)] []) T (mkF m 2 #[.val (.ref a)] [(.ref a), (.ref a)]) := goRun K N #[] [(0, .aload_n 0, 1), (1, .aload_n 0, 1)] [] (P := True) (by decide +kernel) rfl trivial
  obtain ⟨T2, N2, g2⟩ := goGet K N (tw hw 46 rfl) F.2.2.1 (pc := 2) (L := #[.val (.ref a)]) (S := [(.ref a)]) (by decide +kernel)
  have g3 : Ld p e below T2 (mkF m 5 #[.val (.ref a)] [(.int (Int32.ofNat 0)), (.ref a)]) T2 (mkF m 7 #[.val (.ref a)] [(.int ((Int32.ofNat 0) + (1 : Int32))), (.ref a)]) := goRun K N2 #[] [(5, .iconst 1, 1), (6, .iadd, 1)] [] (P := True) (by decide +kernel) rfl trivial
  rw [n_one] at g3
  obtain ⟨v4, T4, h4, N4, ⟨q0, rfl, Q1, Q2, Q3, Q4⟩, g4⟩ := goPv K N2 (a := a) F.1 (tw hw 106 rfl) (tw hw 109 rfl) (tw hw 108 rfl) (tw hw 107 rfl) (tw hw 9 rfl) (tw hw 110 rfl) (con_gi hw sf F ha (N2.old O0)) (argsL := [(.int (Int32.ofNat (0 + 1)))]) (W := 0) (rest := []) (by decide) (by decide) (by decide) (by decide) (by decide) (L := #[.val (.ref a)]) rfl pd8 rfl (Nat.le_of_eq rfl) (pc := 7) (by decide +kernel)
  exact ⟨_, T4, _, h4, _, _, N4, by decide, by decide, fun q => (nomatch q), ⟨q0, rfl, Q1, Q2, Q3, Q4⟩, g1.trans (g2.trans (g3.trans g4)), finA K N4 hret rfl rfl rfl (by decide +kernel)⟩
set_option maxHeartbeats 1000000 in
theorem con_a3g (hw : ∀ d ∈ tables_1, d.before a0 Z = true) {ca : Addr} {cl : Cell} {da mo ma mr : Addr} (sf : SF Z ca cl da mo ma mr) {a y : Addr} (F : Al Z h a da 0) (Y : Exa Z h y "java/lang/Integer") (ha : n0 ≤ a) (O : Old Z n0 h) : Con l Z n0 ⟨"java/util/ArrayList", "add", "(Ljava/lang/Object;[Ljava/lang/Object;I)V"⟩ jdk_38_method_24_code 4 none [] ({ frames := 3, cells := 1, slots := 10, locals := 41 } : Room) #[.ref a, .ref y, .ref da, .int (Int32.ofNat 0)] h (fun v h' => v = none ∧ ∃ r, h.size ≤ r ∧ Keep h h' [a] ∧ Al Z h' a r 1 ∧ Oa Z h' r (.ref y :: List.replicate 9 .null)) := by
  refine Con.ofH (plainFor_of_name pn3) (L0 := #[.val (.ref a), .val (.ref y), .val (.ref da), .val (.int (Int32.ofNat 0))]) (fun m => by first | (simp [entryFrame, mkF, argsToLocals, Value.category]; done) | rfl) ?_
  intro p e s m below meth c T K hret hnm N hs
  have O0 : Old Z n0 s.heap := by rw [hs]; exact O
  have le : Laid Z a0 "java/util/ArrayList" "java/util/ArrayList" "elementData" "[Ljava/lang/Object;" := Or.inl (tw hw 32 rfl)
  have lz : Laid Z a0 "java/util/ArrayList" "java/util/ArrayList" "size" "I" := Or.inl (tw hw 47 rfl)
  have lc : Laid Z a0 "java/util/ArrayList" "java/util/AbstractList" "modCount" "I" := Or.inl (tw hw 29 rfl)
  have sez := slot_ne le lz (by decide) (t := .array (.object "java/lang/Object")) (t' := .int) (by decide) (by decide)
  have sec := slot_ne le lc (by decide) (t := .array (.object "java/lang/Object")) (t' := .int) (by decide) (by decide)
  have szc := slot_ne lz lc (by decide) (t := .int) (t' := .int) (by decide) (by decide)
  have g1 : Ld p e below T (mkF m 0 #[.val (.ref a), .val (.ref y), .val (.ref da), .val (.int (Int32.ofNat 0))] []) T (mkF m 7 #[.val (.ref a), .val (.ref y), .val (.ref da), .val (.int (Int32.ofNat 0))] [(.ref a)]) := goRun K N #[] [(0, .iload_n 3, 1), (1, .aload_n 2, 1), (2, .arraylength, 1), (3, .if_icmp .ne 8, 3), (6, .aload_n 0, 1)] [.int (Int32.ofNat 0), .null] (P := (Ln Z h da (Int32.ofNat 0)) ∧ ((Int32.ofNat 0) = (Int32.ofNat 0)) ∧ True) (by decide +kernel) rfl ⟨(Av.ln (sf.2.2.2.2.1.ext (N.old O0).2) rfl), rfl, trivial⟩
  obtain ⟨v2, T2, h2, N2, ⟨q0, rfl, Q1, Q2, Q3, Q4⟩, g2⟩ := goPv K N (a := a) F.1 (tw hw 101 rfl) (tw hw 104 rfl) (tw hw 103 rfl) (tw hw 102 rfl) (tw hw 9 rfl) (tw hw 105 rfl) (con_g0 hw sf F ha (N.old O0)) (argsL := []) (W := 0) (rest := []) (by decide) (by decide) (by decide) (by decide) (by decide) (L := #[.val (.ref a), .val (.ref y), .val (.ref da), .val (.int (Int32.ofNat 0))]) rfl pd7 rfl (Nat.le_of_eq rfl) (pc := 7) (by decide +kernel)
  have hq : n0 ≤ q0 := Nat.le_trans N.size Q1
  have ne := Av.ne_exa Q4.1 Q3.1 (tw hw 8 rfl)
  have g3 : Ld p e below T2 (mkF m 10 #[.val (.ref a), .val (.ref y), .val (.ref da), .val (.int (Int32.ofNat 0))] [(.ref q0)]) T2 (mkF m 14 #[.val (.ref a), .val (.ref y), .val (.ref q0), .val (.int (Int32.ofNat 0))] [(.ref y), (.int (Int32.ofNat 0)), (.ref q0)]) := goRun K N2 #[] [(10, .astore_n 2, 1), (11, .aload_n 2, 1), (12, .iload_n 3, 1), (13, .aload_n 1, 1)] [] (P := True) (by decide +kernel) rfl trivial
  obtain ⟨T4, h4, N4, K4, A4, g4⟩ := avStO K N2 Q4.1 Q4.2.2 (v := .ref y) (Or.inr ⟨_, rfl, Ins.of_exa (Exa.keep Y Q2) (tw hw 115 rfl)⟩) (j := Int32.ofNat 0) (i := 0) rfl (by simp) hq (pc := 14) (L := #[.val (.ref a), .val (.ref y), .val (.ref q0), .val (.int (Int32.ofNat 0))]) (S := []) (by decide +kernel)
  have NI : a ∉ [q0] := ninS ne nin0
  have g5 : Ld p e below T4 (mkF m 15 #[.val (.ref a), .val (.ref y), .val (.ref q0), .val (.int (Int32.ofNat 0))] []) T4 (mkF m 19 #[.val (.ref a), .val (.ref y), .val (.ref q0), .val (.int (Int32.ofNat 0))] [(.int ((Int32.ofNat 0) + (1 : Int32))), (.ref a)]) := goRun K N4 #[] [(15, .aload_n 0, 1), (16, .iload_n 3, 1), (17, .iconst 1, 1), (18, .iadd, 1)] [] (P := True) (by decide +kernel) rfl trivial
  rw [n_one] at g5
  obtain ⟨T6, h6, N6, W6, g6⟩ := goPut K N4 (C := "java/util/ArrayList") (tw hw 46 rfl) (Fld.keep Q3.2.2.1 K4 NI) (Exa.keep Q3.1 K4) (Or.inl (tw hw 47 rfl)) (tw hw 8 rfl) (ty := .int) (v := .int (Int32.ofNat (0 + 1))) (by decide) rfl rfl ha (pc := 19) (L := #[.val (.ref a), .val (.ref y), .val (.ref q0), .val (.int (Int32.ofNat 0))]) (S := []) (by decide +kernel)
  exact ⟨none, T6, _, h6, _, _, N6, by decide, by decide, fun _ => rfl, ⟨rfl, q0, Q1, (Q2.trans K4 (allS (Or.inr Q1) all0)).wr W6 (Or.inl (List.mem_cons_self ..)), ⟨Exa.wr W6 (Exa.keep Q3.1 K4), Fld.other W6 (Fld.keep Q3.2.1 K4 NI) (Or.inr sez), Fld.same W6 (Fld.keep Q3.2.2.1 K4 NI), Q3.2.2.2.imp fun _ q => Fld.other W6 (Fld.keep q K4 NI) (Or.inr szc.symm)⟩, A4.other W6 ne.symm, Exa.wr W6 (Exa.keep Q4.2.1 K4), (Q4.2.2.keep K4).keep (Keep.of_wr W6)⟩, g1.trans (g2.trans (g3.trans (g4.trans (g5.trans g6)))), finV K N6 hret (by decide +kernel)⟩
set_option maxHeartbeats 1000000 in
theorem con_a3p (hw : ∀ d ∈ tables_1, d.before a0 Z = true) {a y ea : Addr} {n : Nat} {vs : List Value} (F : Al Z h a ea n) (G' : Oa Z h ea vs) (hn : n < vs.length) (Y : Exa Z h y "java/lang/Integer") (ha : n0 ≤ a) (he : n0 ≤ ea) : Con l Z n0 ⟨"java/util/ArrayList", "add", "(Ljava/lang/Object;[Ljava/lang/Object;I)V"⟩ jdk_38_method_24_code 4 none [] ({ frames := 0, cells := 0, slots := 0, locals := 0 } : Room) #[.ref a, .ref y, .ref ea, .int (Int32.ofNat n)] h (fun v h' => v = none ∧ Keep h h' [a, ea] ∧ Al Z h' a ea (n + 1) ∧ Oa Z h' ea (vs.set n (.ref y))) := by
  refine Con.ofH (plainFor_of_name pn3) (L0 := #[.val (.ref a), .val (.ref y), .val (.ref ea), .val (.int (Int32.ofNat n))]) (fun m => by first | (simp [entryFrame, mkF, argsToLocals, Value.category]; done) | rfl) ?_
  intro p e s m below meth c T K hret hnm N hs
  have le : Laid Z a0 "java/util/ArrayList" "java/util/ArrayList" "elementData" "[Ljava/lang/Object;" := Or.inl (tw hw 32 rfl)
  have lz : Laid Z a0 "java/util/ArrayList" "java/util/ArrayList" "size" "I" := Or.inl (tw hw 47 rfl)
  have lc : Laid Z a0 "java/util/ArrayList" "java/util/AbstractList" "modCount" "I" := Or.inl (tw hw 29 rfl)
  have sez := slot_ne le lz (by decide) (t := .array (.object "java/lang/Object")) (t' := .int) (by decide) (by decide)
  have sec := slot_ne le lc (by decide) (t := .array (.object "java/lang/Object")) (t' := .int) (by decide) (by decide)
  have szc := slot_ne lz lc (by decide) (t := .int) (t' := .int) (by decide) (by decide)
  have hlv := G'.1.len31
  have ne := Av.ne_exa G'.1 F.1 (tw hw 8 rfl)
  have NI : a ∉ [ea] := ninS ne nin0
  have g1 : Ld p e below T (mkF m 0 #[.val (.ref a), .val (.ref y), .val (.ref ea), .val (.int (Int32.ofNat n))] []) T (mkF m 14 #[.val (.ref a), .val (.ref y), .val (.ref ea), .val (.int (Int32.ofNat n))] [(.ref y), (.int (Int32.ofNat n)), (.ref ea)]) := goRun K N #[] [(0, .iload_n 3, 1), (1, .aload_n 2, 1), (2, .arraylength, 1), (3, .if_icmp .ne 8, 3), (11, .aload_n 2, 1), (12, .iload_n 3, 1), (13, .aload_n 1, 1)] [.int (Int32.ofNat vs.length), .ref 0] (P := (Ln Z h ea (Int32.ofNat vs.length)) ∧ (¬ (Int32.ofNat n) = (Int32.ofNat vs.length)) ∧ True) (by decide +kernel) rfl ⟨(Av.ln G'.1 (n_ti hlv)), (by rw [n_eq (by omega) hlv]; omega), trivial⟩
  obtain ⟨T2, h2, N2, K2, A2, g2⟩ := avStO K N G'.1 G'.2.2 (v := .ref y) (Or.inr ⟨_, rfl, Ins.of_exa Y (tw hw 115 rfl)⟩) (j := Int32.ofNat n) (i := n) (n_ti (by omega)) hn he (pc := 14) (L := #[.val (.ref a), .val (.ref y), .val (.ref ea), .val (.int (Int32.ofNat n))]) (S := []) (by decide +kernel)
  have g3 : Ld p e below T2 (mkF m 15 #[.val (.ref a), .val (.ref y), .val (.ref ea), .val (.int (Int32.ofNat n))] []) T2 (mkF m 19 #[.val (.ref a), .val (.ref y), .val (.ref ea), .val (.int (Int32.ofNat n))] [(.int ((Int32.ofNat n) + (1 : Int32))), (.ref a)]) := goRun K N2 #[] [(15, .aload_n 0, 1), (16, .iload_n 3, 1), (17, .iconst 1, 1), (18, .iadd, 1)] [] (P := True) (by decide +kernel) rfl trivial
  rw [n_one] at g3
  obtain ⟨T4, h4, N4, W4, g4⟩ := goPut K N2 (C := "java/util/ArrayList") (tw hw 46 rfl) (Fld.keep F.2.2.1 K2 NI) (Exa.keep F.1 K2) (Or.inl (tw hw 47 rfl)) (tw hw 8 rfl) (ty := .int) (v := .int (Int32.ofNat (n + 1))) (by decide) rfl rfl ha (pc := 19) (L := #[.val (.ref a), .val (.ref y), .val (.ref ea), .val (.int (Int32.ofNat n))]) (S := []) (by decide +kernel)
  exact ⟨none, T4, _, h4, _, _, N4, by decide, by decide, fun _ => rfl, ⟨rfl, ((Keep.refl h [a, ea]).trans K2 (allS (Or.inl (List.mem_cons_of_mem _ (List.mem_cons_self ..))) all0)).wr W4 (Or.inl (List.mem_cons_self ..)), ⟨Exa.wr W4 (Exa.keep F.1 K2), Fld.other W4 (Fld.keep F.2.1 K2 NI) (Or.inr sez), Fld.same W4 (Fld.keep F.2.2.1 K2 NI), F.2.2.2.imp fun _ q => Fld.other W4 (Fld.keep q K2 NI) (Or.inr szc.symm)⟩, A2.other W4 ne.symm, Exa.wr W4 (Exa.keep G'.2.1 K2), (G'.2.2.keep K2).keep (Keep.of_wr W4)⟩, g1.trans (g2.trans (g3.trans g4)), finV K N4 hret (by decide +kernel)⟩
set_option maxHeartbeats 1000000 in
theorem con_adg (hw : ∀ d ∈ tables_1, d.before a0 Z = true) {ca : Addr} {cl : Cell} {da mo ma mr : Addr} (sf : SF Z ca cl da mo ma mr) {a y : Addr} (F : Al Z h a da 0) (Y : Exa Z h y "java/lang/Integer") (ha : n0 ≤ a) (O : Old Z n0 h) : Con l Z n0 ⟨"java/util/ArrayList", "add", "(Ljava/lang/Object;)Z"⟩ jdk_38_method_25_code 2 (some (.boolean)) [] ({ frames := 4, cells := 1, slots := 10, locals := 56 } : Room) #[.ref a, .ref y] h (fun v h' => v = some (.int 1) ∧ ∃ r, h.size ≤ r ∧ Keep h h' [a] ∧ Al Z h' a r 1 ∧ Oa Z h' r (.ref y :: List.replicate 9 .null)) := by
  refine Con.ofH (plainFor_of_name pn3) (L0 := #[.val (.ref a), .val (.ref y)]) (fun m => by first | (simp [entryFrame, mkF, argsToLocals, Value.category]; done) | rfl) ?_
  intro p e s m below meth c T K hret hnm N hs
  have O0 : Old Z n0 s.heap := by rw [hs]; exact O
  have le : Laid Z a0 "java/util/ArrayList" "java/util/ArrayList" "elementData" "[Ljava/lang/Object;" := Or.inl (tw hw 32 rfl)
  have lz : Laid Z a0 "java/util/ArrayList" "java/util/ArrayList" "size" "I" := Or.inl (tw hw 47 rfl)
  have lc : Laid Z a0 "java/util/ArrayList" "java/util/AbstractList" "modCount" "I" := Or.inl (tw hw 29 rfl)
  have sez := slot_ne le lz (by decide) (t := .array (.object "java/lang/Object")) (t' := .int) (by decide) (by decide)
  have sec := slot_ne le lc (by decide) (t := .array (.object "java/lang/Object")) (t' := .int) (by decide) (by decide)
  have szc := slot_ne lz lc (by decide) (t := .int) (t' := .int) (by decide) (by decide)
  obtain ⟨mc, FM⟩ := F.2.2.2
  have g1 : Ld p e below T (mkF m 0 #[.val (.ref a), .val (.ref y)] []) T (mkF m 2 #[.val (.ref a), .val (.ref y)] [(.ref a), (.ref a)]) := goRun K N #[] [(0, .aload_n 0, 1), (1, .dup, 1)] [] (P := True) (by decide +kernel) rfl trivial
  obtain ⟨T2, N2, g2⟩ := goGetV K N (tw hw 94 rfl) (Via.of (tw hw 95 rfl)) FM (pc := 2) (L := #[.val (.ref a), .val (.ref y)]) (S := [(.ref a)]) (by decide +kernel)
  have g3 : Ld p e below T2 (mkF m 5 #[.val (.ref a), .val (.ref y)] [(.int mc), (.ref a)]) T2 (mkF m 7 #[.val (.ref a), .val (.ref y)] [(.int (mc + (1 : Int32))), (.ref a)]) := goRun K N2 #[] [(5, .iconst 1, 1), (6, .iadd, 1)] [] (P := True) (by decide +kernel) rfl trivial
  obtain ⟨T4, h4, N4, W4, g4⟩ := goPutV K N2 (tw hw 94 rfl) (Via.of (tw hw 95 rfl)) FM F.1 (Or.inl (tw hw 29 rfl)) (tw hw 8 rfl) (ty := .int) (v := .int (mc + (1 : Int32))) (by decide) rfl rfl ha (pc := 7) (L := #[.val (.ref a), .val (.ref y)]) (S := []) (by decide +kernel)
  have F2 : Al Z h4 a da 0 := ⟨Exa.wr W4 F.1, Fld.other W4 F.2.1 (Or.inr sec), Fld.other W4 F.2.2.1 (Or.inr szc), _, Fld.same W4 FM⟩
  have g5 : Ld p e below T4 (mkF m 10 #[.val (.ref a), .val (.ref y)] []) T4 (mkF m 13 #[.val (.ref a), .val (.ref y)] [(.ref a), (.ref y), (.ref a)]) := goRun K N4 #[] [(10, .aload_n 0, 1), (11, .aload_n 1, 1), (12, .aload_n 0, 1)] [] (P := True) (by decide +kernel) rfl trivial
  obtain ⟨T6, N6, g6⟩ := goGet K N4 (tw hw 31 rfl) F2.2.1 (pc := 13) (L := #[.val (.ref a), .val (.ref y)]) (S := [(.ref y), (.ref a)]) (by decide +kernel)
  have g7 : Ld p e below T6 (mkF m 16 #[.val (.ref a), .val (.ref y)] [(.ref da), (.ref y), (.ref a)]) T6 (mkF m 17 #[.val (.ref a), .val (.ref y)] [(.ref a), (.ref da), (.ref y), (.ref a)]) := goRun K N6 #[] [(16, .aload_n 0, 1)] [] (P := True) (by decide +kernel) rfl trivial
  obtain ⟨T8, N8, g8⟩ := goGet K N6 (tw hw 46 rfl) F2.2.2.1 (pc := 17) (L := #[.val (.ref a), .val (.ref y)]) (S := [(.ref da), (.ref y), (.ref a)]) (by decide +kernel)
  obtain ⟨v9, T9, h9, N9, ⟨rfl, q0, Q1, Q2, Q3, Q4⟩, g9⟩ := goPv K N8 (a := a) F2.1 (tw hw 96 rfl) (tw hw 99 rfl) (tw hw 98 rfl) (tw hw 97 rfl) (tw hw 9 rfl) (tw hw 100 rfl) (con_a3g hw sf F2 (Exa.wr W4 Y) ha (N8.old O0)) (argsL := [(.ref y), (.ref da), (.int (Int32.ofNat 0))]) (W := 0) (rest := []) (by decide) (by decide) (by decide) (by decide) (by decide) (L := #[.val (.ref a), .val (.ref y)]) rfl pd6 rfl (Nat.le_of_eq rfl) (pc := 20) (by decide +kernel)
  have g10 : Ld p e below T9 (mkF m 23 #[.val (.ref a), .val (.ref y)] []) T9 (mkF m 24 #[.val (.ref a), .val (.ref y)] [(.int (1 : Int32))]) := goRun K N9 #[] [(23, .iconst 1, 1)] [] (P := True) (by decide +kernel) rfl trivial
  exact ⟨_, T9, _, h9, _, _, N9, by decide, by decide, fun q => (nomatch q), ⟨sb1, q0, Nat.le_trans (Nat.le_of_eq (Wr.size W4).symm) Q1, (Keep.of_wr W4).trans Q2 (allS (Or.inl (List.mem_cons_self ..)) all0), Q3, Q4⟩, g1.trans (g2.trans (g3.trans (g4.trans (g5.trans (g6.trans (g7.trans (g8.trans (g9.trans g10)))))))), finN K N9 hret (Or.inl rfl) (by decide +kernel)⟩
set_option maxHeartbeats 1000000 in
theorem con_adp (hw : ∀ d ∈ tables_1, d.before a0 Z = true) {a y ea : Addr} {n : Nat} {vs : List Value} (F : Al Z h a ea n) (G' : Oa Z h ea vs) (hn : n < vs.length) (Y : Exa Z h y "java/lang/Integer") (ha : n0 ≤ a) (he : n0 ≤ ea) : Con l Z n0 ⟨"java/util/ArrayList", "add", "(Ljava/lang/Object;)Z"⟩ jdk_38_method_25_code 2 (some (.boolean)) [] ({ frames := 1, cells := 0, slots := 0, locals := 15 } : Room) #[.ref a, .ref y] h (fun v h' => v = some (.int 1) ∧ Keep h h' [a, ea] ∧ Al Z h' a ea (n + 1) ∧ Oa Z h' ea (vs.set n (.ref y))) := by
  refine Con.ofH (plainFor_of_name pn3) (L0 := #[.val (.ref a), .val (.ref y)]) (fun m => by first | (simp [entryFrame, mkF, argsToLocals, Value.category]; done) | rfl) ?_
  intro p e s m below meth c T K hret hnm N hs
  have le : Laid Z a0 "java/util/ArrayList" "java/util/ArrayList" "elementData" "[Ljava/lang/Object;" := Or.inl (tw hw 32 rfl)
  have lz : Laid Z a0 "java/util/ArrayList" "java/util/ArrayList" "size" "I" := Or.inl (tw hw 47 rfl)
  have lc : Laid Z a0 "java/util/ArrayList" "java/util/AbstractList" "modCount" "I" := Or.inl (tw hw 29 rfl)
  have sez := slot_ne le lz (by decide) (t := .array (.object "java/lang/Object")) (t' := .int) (by decide) (by decide)
  have sec := slot_ne le lc (by decide) (t := .array (.object "java/lang/Object")) (t' := .int) (by decide) (by decide)
  have szc := slot_ne lz lc (by decide) (t := .int) (t' := .int) (by decide) (by decide)
  obtain ⟨mc, FM⟩ := F.2.2.2
  have g1 : Ld p e below T (mkF m 0 #[.val (.ref a), .val (.ref y)] []) T (mkF m 2 #[.val (.ref a), .val (.ref y)] [(.ref a), (.ref a)]) := goRun K N #[] [(0, .aload_n 0, 1), (1, .dup, 1)] [] (P := True) (by decide +kernel) rfl trivial
  obtain ⟨T2, N2, g2⟩ := goGetV K N (tw hw 94 rfl) (Via.of (tw hw 95 rfl)) FM (pc := 2) (L := #[.val (.ref a), .val (.ref y)]) (S := [(.ref a)]) (by decide +kernel)
  have g3 : Ld p e below T2 (mkF m 5 #[.val (.ref a), .val (.ref y)] [(.int mc), (.ref a)]) T2 (mkF m 7 #[.val (.ref a), .val (.ref y)] [(.int (mc + (1 : Int32))), (.ref a)]) := goRun K N2 #[] [(5, .iconst 1, 1), (6, .iadd, 1)] [] (P := True) (by decide +kernel) rfl trivial
  obtain ⟨T4, h4, N4, W4, g4⟩ := goPutV K N2 (tw hw 94 rfl) (Via.of (tw hw 95 rfl)) FM F.1 (Or.inl (tw hw 29 rfl)) (tw hw 8 rfl) (ty := .int) (v := .int (mc + (1 : Int32))) (by decide) rfl rfl ha (pc := 7) (L := #[.val (.ref a), .val (.ref y)]) (S := []) (by decide +kernel)
  have F2 : Al Z h4 a ea n := ⟨Exa.wr W4 F.1, Fld.other W4 F.2.1 (Or.inr sec), Fld.other W4 F.2.2.1 (Or.inr szc), _, Fld.same W4 FM⟩
  have g5 : Ld p e below T4 (mkF m 10 #[.val (.ref a), .val (.ref y)] []) T4 (mkF m 13 #[.val (.ref a), .val (.ref y)] [(.ref a), (.ref y), (.ref a)]) := goRun K N4 #[] [(10, .aload_n 0, 1), (11, .aload_n 1, 1), (12, .aload_n 0, 1)] [] (P := True) (by decide +kernel) rfl trivial
  obtain ⟨T6, N6, g6⟩ := goGet K N4 (tw hw 31 rfl) F2.2.1 (pc := 13) (L := #[.val (.ref a), .val (.ref y)]) (S := [(.ref y), (.ref a)]) (by decide +kernel)
  have g7 : Ld p e below T6 (mkF m 16 #[.val (.ref a), .val (.ref y)] [(.ref ea), (.ref y), (.ref a)]) T6 (mkF m 17 #[.val (.ref a), .val (.ref y)] [(.ref a), (.ref ea), (.ref y), (.ref a)]) := goRun K N6 #[] [(16, .aload_n 0, 1)] [] (P := True) (by decide +kernel) rfl trivial
  obtain ⟨T8, N8, g8⟩ := goGet K N6 (tw hw 46 rfl) F2.2.2.1 (pc := 17) (L := #[.val (.ref a), .val (.ref y)]) (S := [(.ref ea), (.ref y), (.ref a)]) (by decide +kernel)
  have ne := Av.ne_exa G'.1 F.1 (tw hw 8 rfl)
  have G2 : Oa Z h4 ea vs := ⟨G'.1.other W4 ne.symm, Exa.wr W4 G'.2.1, G'.2.2.keep (Keep.of_wr W4)⟩
  obtain ⟨v9, T9, h9, N9, ⟨rfl, Q2, Q3, Q4⟩, g9⟩ := goPv K N8 (a := a) F2.1 (tw hw 96 rfl) (tw hw 99 rfl) (tw hw 98 rfl) (tw hw 97 rfl) (tw hw 9 rfl) (tw hw 100 rfl) (con_a3p hw F2 G2 hn (Exa.wr W4 Y) ha he) (argsL := [(.ref y), (.ref ea), (.int (Int32.ofNat n))]) (W := 0) (rest := []) (by decide) (by decide) (by decide) (by decide) (by decide) (L := #[.val (.ref a), .val (.ref y)]) rfl pd6 rfl (Nat.le_of_eq rfl) (pc := 20) (by decide +kernel)
  have g10 : Ld p e below T9 (mkF m 23 #[.val (.ref a), .val (.ref y)] []) T9 (mkF m 24 #[.val (.ref a), .val (.ref y)] [(.int (1 : Int32))]) := goRun K N9 #[] [(23, .iconst 1, 1)] [] (P := True) (by decide +kernel) rfl trivial
  exact ⟨_, T9, _, h9, _, _, N9, by decide, by decide, fun q => (nomatch q), ⟨sb1, ((Keep.refl h [a, ea]).wr W4 (Or.inl (List.mem_cons_self ..))).trans Q2 (fun _ q => Or.inl q), Q3, Q4⟩, g1.trans (g2.trans (g3.trans (g4.trans (g5.trans (g6.trans (g7.trans (g8.trans (g9.trans g10)))))))), finN K N9 hret (Or.inl rfl) (by decide +kernel)⟩
set_option maxHeartbeats 1000000 in
theorem con_c3 (hw : ∀ d ∈ tables_1, d.before a0 Z = true) {ca : Addr} {cl : Cell} {da mo ma mr : Addr} (sf : SF Z ca cl da mo ma mr) {ea : Addr} {n : Nat} {vs : List Value} (A0 : Av Z h ea (.object "java/lang/Object") vs) (XA : Exa Z h ea "[Ljava/lang/Object;") (hE : Els Z h vs) (hn : n ≤ vs.length) (h3 : n ≤ 3) (hv : vs.length ≤ 10) : Con l Z n0 ⟨"java/util/Arrays", "copyOf", "([Ljava/lang/Object;ILjava/lang/Class;)[Ljava/lang/Object;"⟩ jdk_65_method_120_code 4 (some (.array (.object "java/lang/Object"))) [] ({ frames := 1, cells := 1, slots := 3, locals := 18 } : Room) #[.ref ea, .int (Int32.ofNat n), .ref mo] h (fun v h' => ∃ r, v = some (.ref r) ∧ h.size ≤ r ∧ Keep h h' [] ∧ Av Z h' r (.object "java/lang/Object") (vs.take n) ∧ Exa Z h' r "[Ljava/lang/Object;") := by
  refine Con.ofH (plainFor_of_name pn6) (L0 := #[.val (.ref ea), .val (.int (Int32.ofNat n)), .val (.ref mo), .unset]) (fun m => by first | (simp [entryFrame, mkF, argsToLocals, Value.category]; done) | rfl) ?_
  intro p e s m below meth c T K hret hnm N hs
  have g1 : Ld p e below T (mkF m 0 #[.val (.ref ea), .val (.int (Int32.ofNat n)), .val (.ref mo), .unset] []) T (mkF m 1 #[.val (.ref ea), .val (.int (Int32.ofNat n)), .val (.ref mo), .unset] [(.ref mo)]) := goRun K N #[] [(0, .aload_n 2, 1)] [] (P := True) (by decide +kernel) rfl trivial
  obtain ⟨T2, N2, g2⟩ := goLdcM K N sf.2.2.2.2.2.2.1 (tw hw 61 rfl) (pc := 1) (L := #[.val (.ref ea), .val (.int (Int32.ofNat n)), .val (.ref mo), .unset]) (S := [(.ref mo)]) (by decide +kernel)
  have g3 : Ld p e below T2 (mkF m 3 #[.val (.ref ea), .val (.int (Int32.ofNat n)), .val (.ref mo), .unset] [(.ref mo), (.ref mo)]) T2 (mkF m 7 #[.val (.ref ea), .val (.int (Int32.ofNat n)), .val (.ref mo), .unset] [(.int (Int32.ofNat n))]) := goRun K N2 #[] [(3, .if_acmp .ne 10, 3), (6, .iload_n 1, 1)] [.null] (P := ((.ref mo : Value) = (.ref mo : Value)) ∧ True) (by decide +kernel) rfl ⟨rfl, trivial⟩
  obtain ⟨T4, h4, a4, ea4, N4, E4, A4, O4, X4, g4⟩ := goNewX K N2 (C := "java/lang/Object") (tw hw 62 rfl) (tw hw 63 rfl) (D := "[Ljava/lang/Object;") (by decide +kernel) (n := Int32.ofNat n) (k := n) (n_ti (by omega)) (cap := 3) (by omega) (by decide) (by decide) (by decide) (pc := 7) (L := #[.val (.ref ea), .val (.int (Int32.ofNat n)), .val (.ref mo), .unset]) (S := []) (by decide +kernel)
  have ha4 : n0 ≤ a4 := ea4 ▸ N2.size
  have g5 : Ld p e below T4 (mkF m 10 #[.val (.ref ea), .val (.int (Int32.ofNat n)), .val (.ref mo), .unset] [(.ref a4)]) T4 (mkF m 32 #[.val (.ref ea), .val (.int (Int32.ofNat n)), .val (.ref mo), .val (.ref a4)] [(.int (Int32.ofNat n)), (.int (Int32.ofNat vs.length)), (.int (0 : Int32)), (.ref a4), (.int (0 : Int32)), (.ref ea)]) := goRun K N4 #[] [(10, .goto 14, 3), (24, .astore_n 3, 1), (25, .aload_n 0, 1), (26, .iconst 0, 1), (27, .aload_n 3, 1), (28, .iconst 0, 1), (29, .aload_n 0, 1), (30, .arraylength, 1), (31, .iload_n 1, 1)] [.int (Int32.ofNat vs.length)] (P := (Ln Z h4 ea (Int32.ofNat vs.length)) ∧ True) (by decide +kernel) rfl ⟨(Av.ln (A0.ext E4) (n_ti (by omega))), trivial⟩
  obtain ⟨v6, T6, _, N6, ⟨rfl, rfl⟩, g6⟩ := goS K N4 (tw hw 64 rfl) (tw hw 65 rfl) (tw hw 66 rfl) (tw hw 67 rfl) (con_mn vs.length n (by omega) (by omega)) (argsL := [(.int (Int32.ofNat vs.length)), (.int (Int32.ofNat n))]) (W := 4) (rest := [(.int (0 : Int32)), (.ref a4), (.int (0 : Int32)), (.ref ea)]) (by decide) (by decide) (by decide) (by decide) (by decide) (L := #[.val (.ref ea), .val (.int (Int32.ofNat n)), .val (.ref mo), .val (.ref a4)]) rfl pd0 rfl (Nat.le_of_eq rfl) (pc := 32) (by decide +kernel)
  have em : min vs.length n = n := by omega
  rw [em] at g6
  obtain ⟨T7, h7, N7, K7, A7, g7⟩ := goCp K N6 (tw hw 68 rfl) (tw hw 71 rfl) (tw hw 69 rfl) (tw hw 70 rfl) (A0.ext E4) A4 O4 (Els.ins (hE.keep (keep_ext (ws := []) E4)) (tw hw 115 rfl)) (fun v hv => List.eq_of_mem_replicate hv) (nn := Int32.ofNat n) (k := n) (n_ti (by omega)) hn (by rw [List.length_replicate]; omega) ha4 (pc := 35) (L := #[.val (.ref ea), .val (.int (Int32.ofNat n)), .val (.ref mo), .val (.ref a4)]) (S := []) rfl (by decide +kernel) (by decide) (W := 0) (Nat.le_of_eq rfl) (by decide)
  have A9 : Av Z h7 a4 (.object "java/lang/Object") (vs.take n) := by have z := A7; rwa [List.drop_eq_nil_of_le (by simp), List.append_nil] at z
  have g8 : Ld p e below T7 (mkF m 38 #[.val (.ref ea), .val (.int (Int32.ofNat n)), .val (.ref mo), .val (.ref a4)] []) T7 (mkF m 39 #[.val (.ref ea), .val (.int (Int32.ofNat n)), .val (.ref mo), .val (.ref a4)] [(.ref a4)]) := goRun K N7 #[] [(38, .aload_n 3, 1)] [] (P := True) (by decide +kernel) rfl trivial
  exact ⟨_, T7, _, h7, _, _, N7, by decide, by decide, fun q => (nomatch q), ⟨_, rfl, Nat.le_of_eq ea4.symm, (keep_ext E4).trans K7 (allS (Or.inr (Nat.le_of_eq ea4.symm)) all0), A9, X4.keep K7⟩, g1.trans (g2.trans (g3.trans (g4.trans (g5.trans (g6.trans (g7.trans g8)))))), finA K N7 hret rfl rfl rfl (by decide +kernel)⟩
set_option maxHeartbeats 1000000 in
theorem con_c2 (hw : ∀ d ∈ tables_1, d.before a0 Z = true) {ca : Addr} {cl : Cell} {da mo ma mr : Addr} (sf : SF Z ca cl da mo ma mr) {ea : Addr} {n : Nat} {vs : List Value} (A0 : Av Z h ea (.object "java/lang/Object") vs) (XA : Exa Z h ea "[Ljava/lang/Object;") (hE : Els Z h vs) (hn : n ≤ vs.length) (h3 : n ≤ 3) (hv : vs.length ≤ 10) : Con l Z n0 ⟨"java/util/Arrays", "copyOf", "([Ljava/lang/Object;I)[Ljava/lang/Object;"⟩ jdk_65_method_119_code 2 (some (.array (.object "java/lang/Object"))) [] ({ frames := 2, cells := 1, slots := 3, locals := 33 } : Room) #[.ref ea, .int (Int32.ofNat n)] h (fun v h' => ∃ r, v = some (.ref r) ∧ h.size ≤ r ∧ Keep h h' [] ∧ Av Z h' r (.object "java/lang/Object") (vs.take n) ∧ Exa Z h' r "[Ljava/lang/Object;") := by
  refine Con.ofH (plainFor_of_name pn6) (L0 := #[.val (.ref ea), .val (.int (Int32.ofNat n))]) (fun m => by first | (simp [entryFrame, mkF, argsToLocals, Value.category]; done) | rfl) ?_
  intro p e s m below meth c T K hret hnm N hs
  have g1 : Ld p e below T (mkF m 0 #[.val (.ref ea), .val (.int (Int32.ofNat n))] []) T (mkF m 3 #[.val (.ref ea), .val (.int (Int32.ofNat n))] [(.ref ea), (.int (Int32.ofNat n)), (.ref ea)]) := goRun K N #[] [(0, .aload_n 0, 1), (1, .iload_n 1, 1), (2, .aload_n 0, 1)] [] (P := True) (by decide +kernel) rfl trivial
  obtain ⟨T2, N2, g2⟩ := goGcV K N sf.2.2.2.2.2.2.1 XA (tw hw 52 rfl) (tw hw 53 rfl) (tw hw 55 rfl) (tw hw 54 rfl) (tw hw 56 rfl) (pc := 3) (L := #[.val (.ref ea), .val (.int (Int32.ofNat n))]) (S := [(.int (Int32.ofNat n)), (.ref ea)]) rfl (by decide +kernel) (by decide) (W := 2) (Nat.le_of_eq rfl) (by decide)
  obtain ⟨v3, T3, h3, N3, ⟨q0, rfl, Q1, Q2, Q3, Q4⟩, g3⟩ := goS K N2 (tw hw 58 rfl) (tw hw 59 rfl) (tw hw 50 rfl) (tw hw 60 rfl) (con_c3 hw sf A0 XA hE hn h3 hv) (argsL := [(.ref ea), (.int (Int32.ofNat n)), (.ref mo)]) (W := 0) (rest := []) (by decide) (by decide) (by decide) (by decide) (by decide) (L := #[.val (.ref ea), .val (.int (Int32.ofNat n))]) rfl pd10 rfl (Nat.le_of_eq rfl) (pc := 6) (by decide +kernel)
  exact ⟨_, T3, _, h3, _, _, N3, by decide, by decide, fun q => (nomatch q), ⟨q0, rfl, Q1, Q2, Q3, Q4⟩, g1.trans (g2.trans g3), finA K N3 hret rfl rfl rfl (by decide +kernel)⟩
set_option maxHeartbeats 1000000 in
theorem con_ta (hw : ∀ d ∈ tables_1, d.before a0 Z = true) {ca : Addr} {cl : Cell} {da mo ma mr : Addr} (sf : SF Z ca cl da mo ma mr) {a : Addr} {ea : Addr} {n : Nat} {vs : List Value} (A0 : Av Z h ea (.object "java/lang/Object") vs) (XA : Exa Z h ea "[Ljava/lang/Object;") (hE : Els Z h vs) (hn : n ≤ vs.length) (h3 : n ≤ 3) (hv : vs.length ≤ 10) (F : Al Z h a ea n) : Con l Z n0 ⟨"java/util/ArrayList", "toArray", "()[Ljava/lang/Object;"⟩ jdk_38_method_16_code 1 (some (.array (.object "java/lang/Object"))) [] ({ frames := 3, cells := 1, slots := 3, locals := 46 } : Room) #[.ref a] h (fun v h' => ∃ r, v = some (.ref r) ∧ h.size ≤ r ∧ Keep h h' [] ∧ Av Z h' r (.object "java/lang/Object") (vs.take n) ∧ Exa Z h' r "[Ljava/lang/Object;") := by
  refine Con.ofH (plainFor_of_name pn3) (L0 := #[.val (.ref a)]) (fun m => by first | (simp [entryFrame, mkF, argsToLocals, Value.category]; done) | rfl) ?_
  intro p e s m below meth c T K hret hnm N hs
  have g1 : Ld p e below T (mkF m 0 #[.val (.ref a)] []) T (mkF m 1 #[.val (.ref a)] [(.ref a)]) := goRun K N #[] [(0, .aload_n 0, 1)] [] (P := True) (by decide +kernel) rfl trivial
  obtain ⟨T2, N2, g2⟩ := goGet K N (tw hw 31 rfl) F.2.1 (pc := 1) (L := #[.val (.ref a)]) (S := []) (by decide +kernel)
  have g3 : Ld p e below T2 (mkF m 4 #[.val (.ref a)] [(.ref ea)]) T2 (mkF m 5 #[.val (.ref a)] [(.ref a), (.ref ea)]) := goRun K N2 #[] [(4, .aload_n 0, 1)] [] (P := True) (by decide +kernel) rfl trivial
  obtain ⟨T4, N4, g4⟩ := goGet K N2 (tw hw 46 rfl) F.2.2.1 (pc := 5) (L := #[.val (.ref a)]) (S := [(.ref ea)]) (by decide +kernel)
  obtain ⟨v5, T5, h5, N5, ⟨q0, rfl, Q1, Q2, Q3, Q4⟩, g5⟩ := goS K N4 (tw hw 48 rfl) (tw hw 49 rfl) (tw hw 50 rfl) (tw hw 51 rfl) (con_c2 hw sf A0 XA hE hn h3 hv) (argsL := [(.ref ea), (.int (Int32.ofNat n))]) (W := 0) (rest := []) (by decide) (by decide) (by decide) (by decide) (by decide) (L := #[.val (.ref a)]) rfl pd9 rfl (Nat.le_of_eq rfl) (pc := 8) (by decide +kernel)
  exact ⟨_, T5, _, h5, _, _, N5, by decide, by decide, fun q => (nomatch q), ⟨q0, rfl, Q1, Q2, Q3, Q4⟩, g1.trans (g2.trans (g3.trans (g4.trans g5))), finA K N5 hret rfl rfl rfl (by decide +kernel)⟩
set_option maxHeartbeats 1000000 in
theorem con_ri (hw : ∀ d ∈ tables_1, d.before a0 Z = true) {a it : Addr} (X : Exa Z h a "com/example/headers_to_descriptors/headerstodescriptors/ReadOnlyItems") (F0 : Fld Z h a "com/example/headers_to_descriptors/headerstodescriptors/ReadOnlyItems" "items" "[Ljava/lang/Object;" .null) (F2 : Fld Z h a "java/util/AbstractList" "modCount" "I" (.int 0)) (ha : n0 ≤ a) : Con l Z n0 ⟨"com/example/headers_to_descriptors/headerstodescriptors/ReadOnlyItems", "<init>", "([Ljava/lang/Object;)V"⟩ prog_7_method_1_code 2 none [] ({ frames := 3, cells := 0, slots := 0, locals := 36 } : Room) #[.ref a, .ref it] h (fun v h' => v = none ∧ Keep h h' [a] ∧ Fld Z h' a "com/example/headers_to_descriptors/headerstodescriptors/ReadOnlyItems" "items" "[Ljava/lang/Object;" (.ref it)) := by
  refine Con.ofH (plainFor_of_name pn7) (L0 := #[.val (.ref a), .val (.ref it)]) (fun m => by first | (simp [entryFrame, mkF, argsToLocals, Value.category]; done) | rfl) ?_
  intro p e s m below meth c T K hret hnm N hs
  have sic := slot_ne (Or.inr (tw hw 88 rfl) : Laid Z a0 "com/example/headers_to_descriptors/headerstodescriptors/ReadOnlyItems" "com/example/headers_to_descriptors/headerstodescriptors/ReadOnlyItems" "items" "[Ljava/lang/Object;") (Or.inl (tw hw 86 rfl) : Laid Z a0 "com/example/headers_to_descriptors/headerstodescriptors/ReadOnlyItems" "java/util/AbstractList" "modCount" "I") (by decide) (t := .array (.object "java/lang/Object")) (t' := .int) (by decide) (by decide)
  have g1 : Ld p e below T (mkF m 0 #[.val (.ref a), .val (.ref it)] []) T (mkF m 1 #[.val (.ref a), .val (.ref it)] [(.ref a)]) := goRun K N #[] [(0, .aload_n 0, 1)] [] (P := True) (by decide +kernel) rfl trivial
  obtain ⟨v2, T2, h2, N2, ⟨rfl, WM⟩, g2⟩ := goSp K N (a := a) (tw hw 84 rfl) (tw hw 14 rfl) (tw hw 17 rfl) (tw hw 18 rfl) (con_ab hw (C := "com/example/headers_to_descriptors/headerstodescriptors/ReadOnlyItems") (tw hw 86 rfl) (tw hw 73 rfl) X F2 ha) rfl (by decide) (argsL := []) (W := 0) (rest := []) (by decide) (by decide) (by decide) (by decide) (L := #[.val (.ref a), .val (.ref it)]) rfl pd4 rfl (Nat.le_of_eq rfl) (pc := 1) (by decide +kernel)
  have g3 : Ld p e below T2 (mkF m 4 #[.val (.ref a), .val (.ref it)] []) T2 (mkF m 6 #[.val (.ref a), .val (.ref it)] [(.ref it), (.ref a)]) := goRun K N2 #[] [(4, .aload_n 0, 1), (5, .aload_n 1, 1)] [] (P := True) (by decide +kernel) rfl trivial
  obtain ⟨T4, h4, N4, W4, g4⟩ := goPut K N2 (C := "com/example/headers_to_descriptors/headerstodescriptors/ReadOnlyItems") (tw hw 87 rfl) (Fld.other WM F0 (Or.inr sic)) (Exa.wr WM X) (Or.inr ⟨(tw hw 88 rfl), rfl, hnm⟩) (tw hw 73 rfl) (ty := .array (.object "java/lang/Object")) (v := .ref it) (by decide) rfl rfl ha (pc := 6) (L := #[.val (.ref a), .val (.ref it)]) (S := []) (by decide +kernel)
  exact ⟨none, T4, _, h4, _, _, N4, by decide, by decide, fun _ => rfl, ⟨rfl, (Keep.of_wr WM).wr W4 (Or.inl (List.mem_cons_self ..)), Fld.same W4 (Fld.other WM F0 (Or.inr sic))⟩, g1.trans (g2.trans (g3.trans g4)), finV K N4 hret (by decide +kernel)⟩
set_option maxHeartbeats 1000000 in
theorem con_rt (hw : ∀ d ∈ tables_1, d.before a0 Z = true) {a it : Addr} {vs : List Value} (F : Fld Z h a "com/example/headers_to_descriptors/headerstodescriptors/ReadOnlyItems" "items" "[Ljava/lang/Object;" (.ref it)) (A0 : Av Z h it (.object "java/lang/Object") vs) (XA : Exa Z h it "[Ljava/lang/Object;") (hE : Els Z h vs) (h3 : vs.length ≤ 3) : Con l Z n0 ⟨"com/example/headers_to_descriptors/headerstodescriptors/ReadOnlyItems", "toArray", "()[Ljava/lang/Object;"⟩ prog_7_method_5_code 1 (some (.array (.object "java/lang/Object"))) [] ({ frames := 1, cells := 1, slots := 3, locals := 14 } : Room) #[.ref a] h (fun v h' => ∃ r, v = some (.ref r) ∧ h.size ≤ r ∧ Keep h h' [] ∧ Av Z h' r (.object "java/lang/Object") vs ∧ Exa Z h' r "[Ljava/lang/Object;") := by
  refine Con.ofH (plainFor_of_name pn7) (L0 := #[.val (.ref a)]) (fun m => by first | (simp [entryFrame, mkF, argsToLocals, Value.category]; done) | rfl) ?_
  intro p e s m below meth c T K hret hnm N hs
  have g1 : Ld p e below T (mkF m 0 #[.val (.ref a)] []) T (mkF m 1 #[.val (.ref a)] [(.ref a)]) := goRun K N #[] [(0, .aload_n 0, 1)] [] (P := True) (by decide +kernel) rfl trivial
  obtain ⟨T2, N2, g2⟩ := goGet K N (tw hw 87 rfl) F (pc := 1) (L := #[.val (.ref a)]) (S := []) (by decide +kernel)
  obtain ⟨T3, h3, a3, ea3, N3, E3, A3, X3, g3⟩ := goClone K N2 (tw hw 134 rfl) (tw hw 135 rfl) (tw hw 139 rfl) (tw hw 137 rfl) (tw hw 138 rfl) (tw hw 140 rfl) A0 XA hE.fit (pc := 4) (L := #[.val (.ref a)]) (S := []) rfl (by decide +kernel) (by decide) (W := 0) (Nat.le_of_eq rfl) (by decide) (cap := 3) h3 (by decide) (by decide)
  obtain ⟨T4, N4, g4⟩ := goCast K N3 (tw hw 141 rfl) (Ins.self X3) (pc := 7) (L := #[.val (.ref a)]) (S := []) (by decide +kernel)
  exact ⟨_, T4, _, h3, _, _, N4, by decide, by decide, fun q => (nomatch q), ⟨_, rfl, Nat.le_of_eq ea3.symm, keep_ext E3, A3, X3⟩, g1.trans (g2.trans (g3.trans g4)), finA K N4 hret rfl rfl rfl (by decide +kernel)⟩
set_option maxHeartbeats 1000000 in
theorem con_sz (hw : ∀ d ∈ tables_1, d.before a0 Z = true) {a it : Addr} {vs : List Value} (F : Fld Z h a "com/example/headers_to_descriptors/headerstodescriptors/ReadOnlyItems" "items" "[Ljava/lang/Object;" (.ref it)) (A0 : Av Z h it (.object "java/lang/Object") vs) {k : Int32} (hk : k.toInt = vs.length) : Con l Z n0 ⟨"com/example/headers_to_descriptors/headerstodescriptors/ReadOnlyItems", "size", "()I"⟩ prog_7_method_4_code 1 (some (.int)) [] ({ frames := 0, cells := 0, slots := 0, locals := 0 } : Room) #[.ref a] h (fun v h' => v = some (.int k) ∧ h = h') := by
  refine Con.ofH (plainFor_of_name pn7) (L0 := #[.val (.ref a)]) (fun m => by first | (simp [entryFrame, mkF, argsToLocals, Value.category]; done) | rfl) ?_
  intro p e s m below meth c T K hret hnm N hs
  have g1 : Ld p e below T (mkF m 0 #[.val (.ref a)] []) T (mkF m 1 #[.val (.ref a)] [(.ref a)]) := goRun K N #[] [(0, .aload_n 0, 1)] [] (P := True) (by decide +kernel) rfl trivial
  obtain ⟨T2, N2, g2⟩ := goGet K N (tw hw 87 rfl) F (pc := 1) (L := #[.val (.ref a)]) (S := []) (by decide +kernel)
  have g3 : Ld p e below T2 (mkF m 4 #[.val (.ref a)] [(.ref it)]) T2 (mkF m 5 #[.val (.ref a)] [(.int k)]) := goRun K N2 #[] [(4, .arraylength, 1)] [.int k] (P := (Ln Z h it k) ∧ True) (by decide +kernel) rfl ⟨(Av.ln A0 hk), trivial⟩
  exact ⟨_, T2, _, h, _, _, N2, by decide, by decide, fun q => (nomatch q), ⟨rfl, rfl⟩, g1.trans (g2.trans g3), finI K N2 hret (by decide +kernel)⟩
set_option maxHeartbeats 1000000 in
theorem con_gt (hw : ∀ d ∈ tables_1, d.before a0 Z = true) {a it : Addr} {vs : List Value} (F : Fld Z h a "com/example/headers_to_descriptors/headerstodescriptors/ReadOnlyItems" "items" "[Ljava/lang/Object;" (.ref it)) (A0 : Av Z h it (.object "java/lang/Object") vs) {j : Int32} {i : Nat} {y : Addr} (hj : j.toInt = i) (hv : vs[i]? = some (.ref y)) : Con l Z n0 ⟨"com/example/headers_to_descriptors/headerstodescriptors/ReadOnlyItems", "get", "(I)Ljava/lang/Object;"⟩ prog_7_method_3_code 2 (some (.object "java/lang/Object")) [] ({ frames := 0, cells := 0, slots := 0, locals := 0 } : Room) #[.ref a, .int j] h (fun v h' => v = some (.ref y) ∧ h = h') := by
  refine Con.ofH (plainFor_of_name pn7) (L0 := #[.val (.ref a), .val (.int j)]) (fun m => by first | (simp [entryFrame, mkF, argsToLocals, Value.category]; done) | rfl) ?_
  intro p e s m below meth c T K hret hnm N hs
  have g1 : Ld p e below T (mkF m 0 #[.val (.ref a), .val (.int j)] []) T (mkF m 1 #[.val (.ref a), .val (.int j)] [(.ref a)]) := goRun K N #[] [(0, .aload_n 0, 1)] [] (P := True) (by decide +kernel) rfl trivial
  obtain ⟨T2, N2, g2⟩ := goGet K N (tw hw 87 rfl) F (pc := 1) (L := #[.val (.ref a), .val (.int j)]) (S := []) (by decide +kernel)
  have g3 : Ld p e below T2 (mkF m 4 #[.val (.ref a), .val (.int j)] [(.ref it)]) T2 (mkF m 6 #[.val (.ref a), .val (.int j)] [(.ref y)]) := goRun K N2 #[] [(4, .iload_n 1, 1), (5, .aaload, 1)] [.ref y] (P := (∃ ty, ty.isReference = true ∧ Rd Z h it ty j (.ref y)) ∧ True) (by decide +kernel) rfl ⟨⟨(.object "java/lang/Object"), rfl, A0.rd hj hv⟩, trivial⟩
  exact ⟨_, T2, _, h, _, _, N2, by decide, by decide, fun q => (nomatch q), ⟨rfl, rfl⟩, g1.trans (g2.trans g3), finA K N2 hret rfl rfl rfl (by decide +kernel)⟩
set_option maxHeartbeats 1000000 in
theorem con_coA (hw : ∀ d ∈ tables_1, d.before a0 Z = true) {ca : Addr} {cl : Cell} {da mo ma mr : Addr} (sf : SF Z ca cl da mo ma mr) {a : Addr} {ea : Addr} {n : Nat} {vs : List Value} (A0 : Av Z h ea (.object "java/lang/Object") vs) (XA : Exa Z h ea "[Ljava/lang/Object;") (hE : Els Z h vs) (hn : n ≤ vs.length) (h3 : n ≤ 3) (hv : vs.length ≤ 10) (F : Al Z h a ea n) : Con l Z n0 ⟨"com/example/headers_to_descriptors/headerstodescriptors/ReadOnlyItems", "copyOf", "(Ljava/util/List;)Lcom/example/headers_to_descriptors/headerstodescriptors/ReadOnlyItems;"⟩ prog_7_method_2_code 2 (some (.object "com/example/headers_to_descriptors/headerstodescriptors/ReadOnlyItems")) [] ({ frames := 4, cells := 2, slots := 5, locals := 58 } : Room) #[.ref a] h (fun v h' => ∃ r i', v = some (.ref r) ∧ Keep h h' [] ∧ h.size ≤ r ∧ h.size ≤ i' ∧ Exa Z h' r "com/example/headers_to_descriptors/headerstodescriptors/ReadOnlyItems" ∧ Fld Z h' r "com/example/headers_to_descriptors/headerstodescriptors/ReadOnlyItems" "items" "[Ljava/lang/Object;" (.ref i') ∧ Av Z h' i' (.object "java/lang/Object") (vs.take n)) := by
  refine Con.ofH (plainFor_of_name pn7) (L0 := #[.val (.ref a), .unset]) (fun m => by first | (simp [entryFrame, mkF, argsToLocals, Value.category]; done) | rfl) ?_
  intro p e s m below meth c T K hret hnm N hs
  have g1 : Ld p e below T (mkF m 0 #[.val (.ref a), .unset] []) T (mkF m 1 #[.val (.ref a), .unset] [(.ref a)]) := goRun K N #[] [(0, .aload_n 0, 1)] [] (P := True) (by decide +kernel) rfl trivial
  obtain ⟨v2, T2, h2, N2, ⟨q0, rfl, Q1, Q2, Q3, Q4⟩, g2⟩ := goIf (count := 1) K N (a := a) F.1 (tw hw 37 rfl) (tw hw 38 rfl) (tw hw 39 rfl) (tw hw 40 rfl) (tw hw 41 rfl) (tw hw 42 rfl) (tw hw 43 rfl) (tw hw 44 rfl) (tw hw 9 rfl) (tw hw 45 rfl) (con_ta hw sf A0 XA hE hn h3 hv F) (argsL := []) (W := 0) (rest := []) (by decide) (by decide) (by decide) (by decide) (by decide) (L := #[.val (.ref a), .unset]) rfl pd7 rfl (Nat.le_of_eq rfl) (pc := 1) (by decide +kernel)
  have g3 : Ld p e below T2 (mkF m 6 #[.val (.ref a), .unset] [(.ref q0)]) T2 (mkF m 7 #[.val (.ref a), .val (.ref q0)] []) := goRun K N2 #[] [(6, .astore_n 1, 1)] [] (P := True) (by decide +kernel) rfl trivial
  obtain ⟨T4, h4, a4, ea4, N4, E4, X4, D4, g4⟩ := goNew K N2 (C := "com/example/headers_to_descriptors/headerstodescriptors/ReadOnlyItems") (tw hw 72 rfl) (tw hw 73 rfl) (tw hw 35 rfl) (pc := 7) (L := #[.val (.ref a), .val (.ref q0)]) (S := []) (by decide +kernel) (by decide) (by decide)
  have ha4 : n0 ≤ a4 := ea4 ▸ N2.size
  have FI0 : Fld Z h4 a4 "com/example/headers_to_descriptors/headerstodescriptors/ReadOnlyItems" "items" "[Ljava/lang/Object;" .null := D4 (Or.inr (tw hw 88 rfl)) (ty := .array (.object "java/lang/Object")) (by decide)
  have FM0 : Fld Z h4 a4 "java/util/AbstractList" "modCount" "I" (.int 0) := D4 (Or.inl (tw hw 86 rfl)) (ty := .int) (by decide)
  have g5 : Ld p e below T4 (mkF m 10 #[.val (.ref a), .val (.ref q0)] [(.ref a4)]) T4 (mkF m 12 #[.val (.ref a), .val (.ref q0)] [(.ref a), (.ref a4), (.ref a4)]) := goRun K N4 #[] [(10, .dup, 1), (11, .aload_n 0, 1)] [] (P := True) (by decide +kernel) rfl trivial
  obtain ⟨T6, N6, g6⟩ := goGcI (count := 1) K N4 sf.2.2.2.2.2.2.2.1 (Exa.ext E4 (F.1.keep Q2)) (tw hw 74 rfl) (tw hw 53 rfl) (tw hw 75 rfl) (tw hw 76 rfl) (tw hw 54 rfl) (tw hw 77 rfl) (tw hw 78 rfl) (tw hw 44 rfl) (tw hw 56 rfl) (by decide) (by decide) rfl rfl (pc := 12) (L := #[.val (.ref a), .val (.ref q0)]) (S := [(.ref a4), (.ref a4)]) rfl (by decide +kernel) (by decide) (W := 2) (Nat.le_of_eq rfl) (by decide)
  obtain ⟨T7, N7, g7⟩ := goLdcM K N6 sf.2.2.2.2.2.2.2.1 (tw hw 80 rfl) (pc := 17) (L := #[.val (.ref a), .val (.ref q0)]) (S := [(.ref ma), (.ref a4), (.ref a4)]) (by decide +kernel)
  have g8 : Ld p e below T7 (mkF m 19 #[.val (.ref a), .val (.ref q0)] [(.ref ma), (.ref ma), (.ref a4), (.ref a4)]) T7 (mkF m 34 #[.val (.ref a), .val (.ref q0)] [(.ref q0), (.ref a4), (.ref a4)]) := goRun K N7 #[] [(19, .if_acmp .ne 7, 3), (22, .aload_n 1, 1), (23, .goto 11, 3)] [.null] (P := ((.ref ma : Value) = (.ref ma : Value)) ∧ True) (by decide +kernel) rfl ⟨rfl, trivial⟩
  obtain ⟨v9, T9, h9, N9, ⟨rfl, KR, FR⟩, g9⟩ := goSp K N7 (a := a4) (tw hw 81 rfl) (tw hw 82 rfl) (tw hw 35 rfl) (tw hw 83 rfl) (con_ri hw X4 FI0 FM0 ha4) rfl (by decide) (argsL := [(.ref q0)]) (W := 1) (rest := [(.ref a4)]) (by decide) (by decide) (by decide) (by decide) (L := #[.val (.ref a), .val (.ref q0)]) rfl pd12 rfl (Nat.le_of_eq rfl) (pc := 34) (by decide +kernel)
  have nr : q0 ≠ a4 := Nat.ne_of_lt (ea4 ▸ Q3.lt)
  exact ⟨_, T9, _, h9, _, _, N9, by decide, by decide, fun q => (nomatch q), ⟨_, q0, rfl, (Q2.ext E4).trans KR (allS (Or.inr (Nat.le_trans Q2.1 (Nat.le_of_eq ea4.symm))) all0), Nat.le_trans Q2.1 (Nat.le_of_eq ea4.symm), Q1, X4.keep KR, FR, (Q3.ext E4).keep KR (ninS nr nin0)⟩, g1.trans (g2.trans (g3.trans (g4.trans (g5.trans (g6.trans (g7.trans (g8.trans g9))))))), finA K N9 hret rfl rfl rfl (by decide +kernel)⟩
set_option maxHeartbeats 1000000 in
theorem con_coR (hw : ∀ d ∈ tables_1, d.before a0 Z = true) {ca : Addr} {cl : Cell} {da mo ma mr : Addr} (sf : SF Z ca cl da mo ma mr) {a it : Addr} {vs : List Value} (F : Fld Z h a "com/example/headers_to_descriptors/headerstodescriptors/ReadOnlyItems" "items" "[Ljava/lang/Object;" (.ref it)) (A0 : Av Z h it (.object "java/lang/Object") vs) (X : Exa Z h a "com/example/headers_to_descriptors/headerstodescriptors/ReadOnlyItems") (XA : Exa Z h it "[Ljava/lang/Object;") (hE : Els Z h vs) (h3 : vs.length ≤ 3) : Con l Z n0 ⟨"com/example/headers_to_descriptors/headerstodescriptors/ReadOnlyItems", "copyOf", "(Ljava/util/List;)Lcom/example/headers_to_descriptors/headerstodescriptors/ReadOnlyItems;"⟩ prog_7_method_2_code 2 (some (.object "com/example/headers_to_descriptors/headerstodescriptors/ReadOnlyItems")) [] ({ frames := 4, cells := 3, slots := 8, locals := 50 } : Room) #[.ref a] h (fun v h' => ∃ r i', v = some (.ref r) ∧ Keep h h' [] ∧ h.size ≤ r ∧ h.size ≤ i' ∧ Exa Z h' r "com/example/headers_to_descriptors/headerstodescriptors/ReadOnlyItems" ∧ Fld Z h' r "com/example/headers_to_descriptors/headerstodescriptors/ReadOnlyItems" "items" "[Ljava/lang/Object;" (.ref i') ∧ Av Z h' i' (.object "java/lang/Object") vs) := by
  refine Con.ofH (plainFor_of_name pn7) (L0 := #[.val (.ref a), .unset]) (fun m => by first | (simp [entryFrame, mkF, argsToLocals, Value.category]; done) | rfl) ?_
  intro p e s m below meth c T K hret hnm N hs
  have g1 : Ld p e below T (mkF m 0 #[.val (.ref a), .unset] []) T (mkF m 1 #[.val (.ref a), .unset] [(.ref a)]) := goRun K N #[] [(0, .aload_n 0, 1)] [] (P := True) (by decide +kernel) rfl trivial
  obtain ⟨v2, T2, h2, N2, ⟨q0, rfl, Q1, Q2, Q3, Q4⟩, g2⟩ := goIf (count := 1) K N (a := a) X (tw hw 37 rfl) (tw hw 38 rfl) (tw hw 39 rfl) (tw hw 128 rfl) (tw hw 129 rfl) (tw hw 130 rfl) (tw hw 131 rfl) (tw hw 132 rfl) (tw hw 35 rfl) (tw hw 133 rfl) (con_rt hw F A0 XA hE h3) (argsL := []) (W := 0) (rest := []) (by decide) (by decide) (by decide) (by decide) (by decide) (L := #[.val (.ref a), .unset]) rfl pd7 rfl (Nat.le_of_eq rfl) (pc := 1) (by decide +kernel)
  have g3 : Ld p e below T2 (mkF m 6 #[.val (.ref a), .unset] [(.ref q0)]) T2 (mkF m 7 #[.val (.ref a), .val (.ref q0)] []) := goRun K N2 #[] [(6, .astore_n 1, 1)] [] (P := True) (by decide +kernel) rfl trivial
  obtain ⟨T4, h4, a4, ea4, N4, E4, X4, D4, g4⟩ := goNew K N2 (C := "com/example/headers_to_descriptors/headerstodescriptors/ReadOnlyItems") (tw hw 72 rfl) (tw hw 73 rfl) (tw hw 35 rfl) (pc := 7) (L := #[.val (.ref a), .val (.ref q0)]) (S := []) (by decide +kernel) (by decide) (by decide)
  have ha4 : n0 ≤ a4 := ea4 ▸ N2.size
  have FI0 : Fld Z h4 a4 "com/example/headers_to_descriptors/headerstodescriptors/ReadOnlyItems" "items" "[Ljava/lang/Object;" .null := D4 (Or.inr (tw hw 88 rfl)) (ty := .array (.object "java/lang/Object")) (by decide)
  have FM0 : Fld Z h4 a4 "java/util/AbstractList" "modCount" "I" (.int 0) := D4 (Or.inl (tw hw 86 rfl)) (ty := .int) (by decide)
  have g5 : Ld p e below T4 (mkF m 10 #[.val (.ref a), .val (.ref q0)] [(.ref a4)]) T4 (mkF m 12 #[.val (.ref a), .val (.ref q0)] [(.ref a), (.ref a4), (.ref a4)]) := goRun K N4 #[] [(10, .dup, 1), (11, .aload_n 0, 1)] [] (P := True) (by decide +kernel) rfl trivial
  obtain ⟨T6, N6, g6⟩ := goGcI (count := 1) K N4 sf.2.2.2.2.2.2.2.2 (Exa.ext E4 (X.keep Q2)) (tw hw 74 rfl) (tw hw 53 rfl) (tw hw 75 rfl) (tw hw 142 rfl) (tw hw 54 rfl) (tw hw 77 rfl) (tw hw 143 rfl) (tw hw 132 rfl) (tw hw 56 rfl) (by decide) (by decide) rfl rfl (pc := 12) (L := #[.val (.ref a), .val (.ref q0)]) (S := [(.ref a4), (.ref a4)]) rfl (by decide +kernel) (by decide) (W := 2) (Nat.le_of_eq rfl) (by decide)
  obtain ⟨T7, N7, g7⟩ := goLdcM K N6 sf.2.2.2.2.2.2.2.1 (tw hw 80 rfl) (pc := 17) (L := #[.val (.ref a), .val (.ref q0)]) (S := [(.ref mr), (.ref a4), (.ref a4)]) (by decide +kernel)
  by_cases hm : mr = ma
  · have g8 : Ld p e below T7 (mkF m 19 #[.val (.ref a), .val (.ref q0)] [(.ref ma), (.ref mr), (.ref a4), (.ref a4)]) T7 (mkF m 34 #[.val (.ref a), .val (.ref q0)] [(.ref q0), (.ref a4), (.ref a4)]) := goRun K N7 #[] [(19, .if_acmp .ne 7, 3), (22, .aload_n 1, 1), (23, .goto 11, 3)] [.null] (P := ((.ref mr : Value) = (.ref ma : Value)) ∧ True) (by decide +kernel) rfl ⟨(congrArg Value.ref hm), trivial⟩
    obtain ⟨v9, T9, h9, N9, ⟨rfl, KR, FR⟩, g9⟩ := goSp K N7 (a := a4) (tw hw 81 rfl) (tw hw 82 rfl) (tw hw 35 rfl) (tw hw 83 rfl) (con_ri hw X4 FI0 FM0 ha4) rfl (by decide) (argsL := [(.ref q0)]) (W := 1) (rest := [(.ref a4)]) (by decide) (by decide) (by decide) (by decide) (L := #[.val (.ref a), .val (.ref q0)]) rfl pd12 rfl (Nat.le_of_eq rfl) (pc := 34) (by decide +kernel)
    have nr : q0 ≠ a4 := Nat.ne_of_lt (ea4 ▸ Q3.lt)
    exact ⟨_, T9, _, h9, _, _, N9, by decide, by decide, fun q => (nomatch q), ⟨_, q0, rfl, (Q2.ext E4).trans KR (allS (Or.inr (Nat.le_trans Q2.1 (Nat.le_of_eq ea4.symm))) all0), Nat.le_trans Q2.1 (Nat.le_of_eq ea4.symm), Q1, X4.keep KR, FR, (Q3.ext E4).keep KR (ninS nr nin0)⟩, g1.trans (g2.trans (g3.trans (g4.trans (g5.trans (g6.trans (g7.trans (g8.trans g9))))))), finA K N9 hret rfl rfl rfl (by decide +kernel)⟩
  · have g8 : Ld p e below T7 (mkF m 19 #[.val (.ref a), .val (.ref q0)] [(.ref ma), (.ref mr), (.ref a4), (.ref a4)]) T7 (mkF m 29 #[.val (.ref a), .val (.ref q0)] [(.int (Int32.ofNat vs.length)), (.ref q0), (.ref a4), (.ref a4)]) := goRun K N7 #[] [(19, .if_acmp .ne 7, 3), (26, .aload_n 1, 1), (27, .aload_n 1, 1), (28, .arraylength, 1)] [.ref 0, .int (Int32.ofNat vs.length)] (P := (¬ (.ref mr : Value) = (.ref ma : Value)) ∧ (Ln Z h4 q0 (Int32.ofNat vs.length)) ∧ True) (by decide +kernel) rfl ⟨(fun z => hm (Value.ref.inj z)), (Av.ln (Q3.ext E4) (n_ti (by omega))), trivial⟩
    obtain ⟨T9, N9, g9⟩ := goLdcM K N7 sf.2.2.2.2.2.2.1 (tw hw 141 rfl) (pc := 29) (L := #[.val (.ref a), .val (.ref q0)]) (S := [(.int (Int32.ofNat vs.length)), (.ref q0), (.ref a4), (.ref a4)]) (by decide +kernel)
    obtain ⟨v10, T10, h10, N10, ⟨q1, rfl, P1, P2, P3, P4⟩, g10⟩ := goS K N9 (tw hw 145 rfl) (tw hw 59 rfl) (tw hw 50 rfl) (tw hw 60 rfl) (con_c3 hw sf (n := vs.length) (Q3.ext E4) (Exa.ext E4 Q4) ((hE.keep Q2).keep (keep_ext (ws := []) E4)) (Nat.le_refl _) h3 (by omega)) (argsL := [(.ref q0), (.int (Int32.ofNat vs.length)), (.ref mo)]) (W := 2) (rest := [(.ref a4), (.ref a4)]) (by decide) (by decide) (by decide) (by decide) (by decide) (L := #[.val (.ref a), .val (.ref q0)]) rfl pd10 rfl (Nat.le_of_eq rfl) (pc := 31) (by decide +kernel)
    rw [List.take_length] at P3
    have XR := X4.keep P2
    have FI1 := FI0.keep P2 nin0
    have FM1 := FM0.keep P2 nin0
    obtain ⟨v11, T11, h11, N11, ⟨rfl, KR, FR⟩, g11⟩ := goSp K N10 (a := a4) (tw hw 81 rfl) (tw hw 82 rfl) (tw hw 35 rfl) (tw hw 83 rfl) (con_ri hw XR FI1 FM1 ha4) rfl (by decide) (argsL := [(.ref q1)]) (W := 1) (rest := [(.ref a4)]) (by decide) (by decide) (by decide) (by decide) (L := #[.val (.ref a), .val (.ref q0)]) rfl pd12 rfl (Nat.le_of_eq rfl) (pc := 34) (by decide +kernel)
    have lk : a4 < h4.size := X4.lt
    have nr : q1 ≠ a4 := Ne.symm (Nat.ne_of_lt (Nat.lt_of_lt_of_le lk P1))
    have sz : h.size ≤ a4 := Nat.le_trans Q2.1 (Nat.le_of_eq ea4.symm)
    exact ⟨_, T11, _, h11, _, _, N11, by decide, by decide, fun q => (nomatch q), ⟨_, q1, rfl, ((Q2.ext E4).trans P2 all0).trans KR (allS (Or.inr sz) all0), sz, Nat.le_trans sz (Nat.le_trans (Nat.le_of_lt lk) P1), XR.keep KR, FR, P3.keep KR (ninS nr nin0)⟩, g1.trans (g2.trans (g3.trans (g4.trans (g5.trans (g6.trans (g7.trans (g8.trans (g9.trans (g10.trans g11))))))))), finA K N11 hret rfl rfl rfl (by decide +kernel)⟩
set_option maxHeartbeats 1000000 in
theorem con_pk0 (hw : ∀ d ∈ tables_1, d.before a0 Z = true) {y0 y1 y2 : Addr} (Y0 : Exa Z h y0 "java/lang/Integer") (Y1 : Exa Z h y1 "java/lang/Integer") (Y2 : Exa Z h y2 "java/lang/Integer") : Con l Z n0 ⟨"com/example/headers_to_descriptors/headerstodescriptors/ReadOnlyItemsCopyOfPinLaw", "pick", "(ILjava/lang/Object;Ljava/lang/Object;Ljava/lang/Object;)[Ljava/lang/Object;"⟩ method_2_code 4 (some (.array (.object "java/lang/Object"))) [] ({ frames := 0, cells := 1, slots := 3, locals := 0 } : Room) #[.int (0 : Int32), .ref y0, .ref y1, .ref y2] h (fun v h' => ∃ r, v = some (.ref r) ∧ h.size ≤ r ∧ Keep h h' [] ∧ Oa Z h' r []) := by
  refine Con.ofH (plainFor_of_name pn0) (L0 := #[.val (.int (0 : Int32)), .val (.ref y0), .val (.ref y1), .val (.ref y2)]) (fun m => by first | (simp [entryFrame, mkF, argsToLocals, Value.category]; done) | rfl) ?_
  intro p e s m below meth c T K hret hnm N hs
  have g1 : Ld p e below T (mkF m 0 #[.val (.int (0 : Int32)), .val (.ref y0), .val (.ref y1), .val (.ref y2)] []) T (mkF m 5 #[.val (.int (0 : Int32)), .val (.ref y0), .val (.ref y1), .val (.ref y2)] [(.int (0 : Int32))]) := goRun K N #[] [(0, .iload_n 0, 1), (1, .ifCond .ne 8, 3), (4, .iconst 0, 1)] [.null] (P := ((0 : Int32) = (0 : Int32)) ∧ True) (by decide +kernel) rfl ⟨(by decide), trivial⟩
  obtain ⟨T2, h2, a2, ea2, N2, E2, A2, O2, X2, g2⟩ := goNewX K N (C := "java/lang/Object") (tw hw 125 rfl) (tw hw 63 rfl) (D := "[Ljava/lang/Object;") (by decide +kernel) (n := (0 : Int32)) (k := 0) rfl (cap := 3) (by omega) (by decide) (by decide) (by decide) (pc := 5) (L := #[.val (.int (0 : Int32)), .val (.ref y0), .val (.ref y1), .val (.ref y2)]) (S := []) (by decide +kernel)
  have ha2 : n0 ≤ a2 := ea2 ▸ N.size
  exact ⟨_, T2, _, h2, _, _, N2, by decide, by decide, fun q => (nomatch q), ⟨_, rfl, Nat.le_of_eq ea2.symm, (keep_ext (ws := []) E2), A2, X2, O2⟩, g1.trans g2, finA K N2 hret rfl rfl rfl (by decide +kernel)⟩
set_option maxHeartbeats 1000000 in
theorem con_pk1 (hw : ∀ d ∈ tables_1, d.before a0 Z = true) {y0 y1 y2 : Addr} (Y0 : Exa Z h y0 "java/lang/Integer") (Y1 : Exa Z h y1 "java/lang/Integer") (Y2 : Exa Z h y2 "java/lang/Integer") : Con l Z n0 ⟨"com/example/headers_to_descriptors/headerstodescriptors/ReadOnlyItemsCopyOfPinLaw", "pick", "(ILjava/lang/Object;Ljava/lang/Object;Ljava/lang/Object;)[Ljava/lang/Object;"⟩ method_2_code 4 (some (.array (.object "java/lang/Object"))) [] ({ frames := 0, cells := 1, slots := 3, locals := 0 } : Room) #[.int (1 : Int32), .ref y0, .ref y1, .ref y2] h (fun v h' => ∃ r, v = some (.ref r) ∧ h.size ≤ r ∧ Keep h h' [] ∧ Oa Z h' r [.ref y0]) := by
  refine Con.ofH (plainFor_of_name pn0) (L0 := #[.val (.int (1 : Int32)), .val (.ref y0), .val (.ref y1), .val (.ref y2)]) (fun m => by first | (simp [entryFrame, mkF, argsToLocals, Value.category]; done) | rfl) ?_
  intro p e s m below meth c T K hret hnm N hs
  have g1 : Ld p e below T (mkF m 0 #[.val (.int (1 : Int32)), .val (.ref y0), .val (.ref y1), .val (.ref y2)] []) T (mkF m 15 #[.val (.int (1 : Int32)), .val (.ref y0), .val (.ref y1), .val (.ref y2)] [(.int (1 : Int32))]) := goRun K N #[] [(0, .iload_n 0, 1), (1, .ifCond .ne 8, 3), (9, .iload_n 0, 1), (10, .iconst 1, 1), (11, .if_icmp .ne 12, 3), (14, .iconst 1, 1)] [.ref 0, .null] (P := (¬ (1 : Int32) = (0 : Int32)) ∧ ((1 : Int32) = (1 : Int32)) ∧ True) (by decide +kernel) rfl ⟨(by decide), (by decide), trivial⟩
  obtain ⟨T2, h2, a2, ea2, N2, E2, A2, O2, X2, g2⟩ := goNewX K N (C := "java/lang/Object") (tw hw 125 rfl) (tw hw 63 rfl) (D := "[Ljava/lang/Object;") (by decide +kernel) (n := (1 : Int32)) (k := 1) rfl (cap := 3) (by omega) (by decide) (by decide) (by decide) (pc := 15) (L := #[.val (.int (1 : Int32)), .val (.ref y0), .val (.ref y1), .val (.ref y2)]) (S := []) (by decide +kernel)
  have ha2 : n0 ≤ a2 := ea2 ▸ N.size
  have g3 : Ld p e below T2 (mkF m 18 #[.val (.int (1 : Int32)), .val (.ref y0), .val (.ref y1), .val (.ref y2)] [(.ref a2)]) T2 (mkF m 21 #[.val (.int (1 : Int32)), .val (.ref y0), .val (.ref y1), .val (.ref y2)] [(.ref y0), (.int (0 : Int32)), (.ref a2), (.ref a2)]) := goRun K N2 #[] [(18, .dup, 1), (19, .iconst 0, 1), (20, .aload_n 1, 1)] [] (P := True) (by decide +kernel) rfl trivial
  obtain ⟨T4, h4, N4, K4, A4, g4⟩ := avStO K N2 A2 O2 (v := .ref y0) (Or.inr ⟨_, rfl, Ins.of_exa (Exa.keep Y0 (keep_ext (ws := []) E2)) (tw hw 115 rfl)⟩) (j := (0 : Int32)) (i := 0) rfl (by simp) ha2 (pc := 21) (L := #[.val (.int (1 : Int32)), .val (.ref y0), .val (.ref y1), .val (.ref y2)]) (S := [(.ref a2)]) (by decide +kernel)
  exact ⟨_, T4, _, h4, _, _, N4, by decide, by decide, fun q => (nomatch q), ⟨_, rfl, Nat.le_of_eq ea2.symm, ((keep_ext (ws := []) E2).trans K4 (allS (Or.inr (Nat.le_of_eq ea2.symm)) all0)), A4, (X2.keep K4), (O2.keep K4)⟩, g1.trans (g2.trans (g3.trans g4)), finA K N4 hret rfl rfl rfl (by decide +kernel)⟩
set_option maxHeartbeats 1000000 in
theorem con_pk2 (hw : ∀ d ∈ tables_1, d.before a0 Z = true) {y0 y1 y2 : Addr} (Y0 : Exa Z h y0 "java/lang/Integer") (Y1 : Exa Z h y1 "java/lang/Integer") (Y2 : Exa Z h y2 "java/lang/Integer") : Con l Z n0 ⟨"com/example/headers_to_descriptors/headerstodescriptors/ReadOnlyItemsCopyOfPinLaw", "pick", "(ILjava/lang/Object;Ljava/lang/Object;Ljava/lang/Object;)[Ljava/lang/Object;"⟩ method_2_code 4 (some (.array (.object "java/lang/Object"))) [] ({ frames := 0, cells := 1, slots := 3, locals := 0 } : Room) #[.int (2 : Int32), .ref y0, .ref y1, .ref y2] h (fun v h' => ∃ r, v = some (.ref r) ∧ h.size ≤ r ∧ Keep h h' [] ∧ Oa Z h' r [.ref y0, .ref y1]) := by
  refine Con.ofH (plainFor_of_name pn0) (L0 := #[.val (.int (2 : Int32)), .val (.ref y0), .val (.ref y1), .val (.ref y2)]) (fun m => by first | (simp [entryFrame, mkF, argsToLocals, Value.category]; done) | rfl) ?_
  intro p e s m below meth c T K hret hnm N hs
  have g1 : Ld p e below T (mkF m 0 #[.val (.int (2 : Int32)), .val (.ref y0), .val (.ref y1), .val (.ref y2)] []) T (mkF m 29 #[.val (.int (2 : Int32)), .val (.ref y0), .val (.ref y1), .val (.ref y2)] [(.int (2 : Int32))]) := goRun K N #[] [(0, .iload_n 0, 1), (1, .ifCond .ne 8, 3), (9, .iload_n 0, 1), (10, .iconst 1, 1), (11, .if_icmp .ne 12, 3), (23, .iload_n 0, 1), (24, .iconst 2, 1), (25, .if_icmp .ne 16, 3), (28, .iconst 2, 1)] [.ref 0, .ref 0, .null] (P := (¬ (2 : Int32) = (0 : Int32)) ∧ (¬ (2 : Int32) = (1 : Int32)) ∧ ((2 : Int32) = (2 : Int32)) ∧ True) (by decide +kernel) rfl ⟨(by decide), (by decide), (by decide), trivial⟩
  obtain ⟨T2, h2, a2, ea2, N2, E2, A2, O2, X2, g2⟩ := goNewX K N (C := "java/lang/Object") (tw hw 125 rfl) (tw hw 63 rfl) (D := "[Ljava/lang/Object;") (by decide +kernel) (n := (2 : Int32)) (k := 2) rfl (cap := 3) (by omega) (by decide) (by decide) (by decide) (pc := 29) (L := #[.val (.int (2 : Int32)), .val (.ref y0), .val (.ref y1), .val (.ref y2)]) (S := []) (by decide +kernel)
  have ha2 : n0 ≤ a2 := ea2 ▸ N.size
  have g3 : Ld p e below T2 (mkF m 32 #[.val (.int (2 : Int32)), .val (.ref y0), .val (.ref y1), .val (.ref y2)] [(.ref a2)]) T2 (mkF m 35 #[.val (.int (2 : Int32)), .val (.ref y0), .val (.ref y1), .val (.ref y2)] [(.ref y0), (.int (0 : Int32)), (.ref a2), (.ref a2)]) := goRun K N2 #[] [(32, .dup, 1), (33, .iconst 0, 1), (34, .aload_n 1, 1)] [] (P := True) (by decide +kernel) rfl trivial
  obtain ⟨T4, h4, N4, K4, A4, g4⟩ := avStO K N2 A2 O2 (v := .ref y0) (Or.inr ⟨_, rfl, Ins.of_exa (Exa.keep Y0 (keep_ext (ws := []) E2)) (tw hw 115 rfl)⟩) (j := (0 : Int32)) (i := 0) rfl (by simp) ha2 (pc := 35) (L := #[.val (.int (2 : Int32)), .val (.ref y0), .val (.ref y1), .val (.ref y2)]) (S := [(.ref a2)]) (by decide +kernel)
  have g5 : Ld p e below T4 (mkF m 36 #[.val (.int (2 : Int32)), .val (.ref y0), .val (.ref y1), .val (.ref y2)] [(.ref a2)]) T4 (mkF m 39 #[.val (.int (2 : Int32)), .val (.ref y0), .val (.ref y1), .val (.ref y2)] [(.ref y1), (.int (1 : Int32)), (.ref a2), (.ref a2)]) := goRun K N4 #[] [(36, .dup, 1), (37, .iconst 1, 1), (38, .aload_n 2, 1)] [] (P := True) (by decide +kernel) rfl trivial
  obtain ⟨T6, h6, N6, K6, A6, g6⟩ := avStO K N4 A4 (O2.keep K4) (v := .ref y1) (Or.inr ⟨_, rfl, Ins.of_exa (Exa.keep Y1 ((keep_ext (ws := []) E2).trans K4 (allS (Or.inr (Nat.le_of_eq ea2.symm)) all0))) (tw hw 115 rfl)⟩) (j := (1 : Int32)) (i := 1) rfl (by simp) ha2 (pc := 39) (L := #[.val (.int (2 : Int32)), .val (.ref y0), .val (.ref y1), .val (.ref y2)]) (S := [(.ref a2)]) (by decide +kernel)
  exact ⟨_, T6, _, h6, _, _, N6, by decide, by decide, fun q => (nomatch q), ⟨_, rfl, Nat.le_of_eq ea2.symm, (((keep_ext (ws := []) E2).trans K4 (allS (Or.inr (Nat.le_of_eq ea2.symm)) all0)).trans K6 (allS (Or.inr (Nat.le_of_eq ea2.symm)) all0)), A6, ((X2.keep K4).keep K6), ((O2.keep K4).keep K6)⟩, g1.trans (g2.trans (g3.trans (g4.trans (g5.trans g6)))), finA K N6 hret rfl rfl rfl (by decide +kernel)⟩
set_option maxHeartbeats 1000000 in
theorem con_pk3 (hw : ∀ d ∈ tables_1, d.before a0 Z = true) {y0 y1 y2 : Addr} (Y0 : Exa Z h y0 "java/lang/Integer") (Y1 : Exa Z h y1 "java/lang/Integer") (Y2 : Exa Z h y2 "java/lang/Integer") : Con l Z n0 ⟨"com/example/headers_to_descriptors/headerstodescriptors/ReadOnlyItemsCopyOfPinLaw", "pick", "(ILjava/lang/Object;Ljava/lang/Object;Ljava/lang/Object;)[Ljava/lang/Object;"⟩ method_2_code 4 (some (.array (.object "java/lang/Object"))) [] ({ frames := 0, cells := 1, slots := 3, locals := 0 } : Room) #[.int (3 : Int32), .ref y0, .ref y1, .ref y2] h (fun v h' => ∃ r, v = some (.ref r) ∧ h.size ≤ r ∧ Keep h h' [] ∧ Oa Z h' r [.ref y0, .ref y1, .ref y2]) := by
  refine Con.ofH (plainFor_of_name pn0) (L0 := #[.val (.int (3 : Int32)), .val (.ref y0), .val (.ref y1), .val (.ref y2)]) (fun m => by first | (simp [entryFrame, mkF, argsToLocals, Value.category]; done) | rfl) ?_
  intro p e s m below meth c T K hret hnm N hs
  have g1 : Ld p e below T (mkF m 0 #[.val (.int (3 : Int32)), .val (.ref y0), .val (.ref y1), .val (.ref y2)] []) T (mkF m 42 #[.val (.int (3 : Int32)), .val (.ref y0), .val (.ref y1), .val (.ref y2)] [(.int (3 : Int32))]) := goRun K N #[] [(0, .iload_n 0, 1), (1, .ifCond .ne 8, 3), (9, .iload_n 0, 1), (10, .iconst 1, 1), (11, .if_icmp .ne 12, 3), (23, .iload_n 0, 1), (24, .iconst 2, 1), (25, .if_icmp .ne 16, 3), (41, .iconst 3, 1)] [.ref 0, .ref 0, .ref 0] (P := (¬ (3 : Int32) = (0 : Int32)) ∧ (¬ (3 : Int32) = (1 : Int32)) ∧ (¬ (3 : Int32) = (2 : Int32)) ∧ True) (by decide +kernel) rfl ⟨(by decide), (by decide), (by decide), trivial⟩
  obtain ⟨T2, h2, a2, ea2, N2, E2, A2, O2, X2, g2⟩ := goNewX K N (C := "java/lang/Object") (tw hw 125 rfl) (tw hw 63 rfl) (D := "[Ljava/lang/Object;") (by decide +kernel) (n := (3 : Int32)) (k := 3) rfl (cap := 3) (by omega) (by decide) (by decide) (by decide) (pc := 42) (L := #[.val (.int (3 : Int32)), .val (.ref y0), .val (.ref y1), .val (.ref y2)]) (S := []) (by decide +kernel)
  have ha2 : n0 ≤ a2 := ea2 ▸ N.size
  have g3 : Ld p e below T2 (mkF m 45 #[.val (.int (3 : Int32)), .val (.ref y0), .val (.ref y1), .val (.ref y2)] [(.ref a2)]) T2 (mkF m 48 #[.val (.int (3 : Int32)), .val (.ref y0), .val (.ref y1), .val (.ref y2)] [(.ref y0), (.int (0 : Int32)), (.ref a2), (.ref a2)]) := goRun K N2 #[] [(45, .dup, 1), (46, .iconst 0, 1), (47, .aload_n 1, 1)] [] (P := True) (by decide +kernel) rfl trivial
  obtain ⟨T4, h4, N4, K4, A4, g4⟩ := avStO K N2 A2 O2 (v := .ref y0) (Or.inr ⟨_, rfl, Ins.of_exa (Exa.keep Y0 (keep_ext (ws := []) E2)) (tw hw 115 rfl)⟩) (j := (0 : Int32)) (i := 0) rfl (by simp) ha2 (pc := 48) (L := #[.val (.int (3 : Int32)), .val (.ref y0), .val (.ref y1), .val (.ref y2)]) (S := [(.ref a2)]) (by decide +kernel)
  have g5 : Ld p e below T4 (mkF m 49 #[.val (.int (3 : Int32)), .val (.ref y0), .val (.ref y1), .val (.ref y2)] [(.ref a2)]) T4 (mkF m 52 #[.val (.int (3 : Int32)), .val (.ref y0), .val (.ref y1), .val (.ref y2)] [(.ref y1), (.int (1 : Int32)), (.ref a2), (.ref a2)]) := goRun K N4 #[] [(49, .dup, 1), (50, .iconst 1, 1), (51, .aload_n 2, 1)] [] (P := True) (by decide +kernel) rfl trivial
  obtain ⟨T6, h6, N6, K6, A6, g6⟩ := avStO K N4 A4 (O2.keep K4) (v := .ref y1) (Or.inr ⟨_, rfl, Ins.of_exa (Exa.keep Y1 ((keep_ext (ws := []) E2).trans K4 (allS (Or.inr (Nat.le_of_eq ea2.symm)) all0))) (tw hw 115 rfl)⟩) (j := (1 : Int32)) (i := 1) rfl (by simp) ha2 (pc := 52) (L := #[.val (.int (3 : Int32)), .val (.ref y0), .val (.ref y1), .val (.ref y2)]) (S := [(.ref a2)]) (by decide +kernel)
  have g7 : Ld p e below T6 (mkF m 53 #[.val (.int (3 : Int32)), .val (.ref y0), .val (.ref y1), .val (.ref y2)] [(.ref a2)]) T6 (mkF m 56 #[.val (.int (3 : Int32)), .val (.ref y0), .val (.ref y1), .val (.ref y2)] [(.ref y2), (.int (2 : Int32)), (.ref a2), (.ref a2)]) := goRun K N6 #[] [(53, .dup, 1), (54, .iconst 2, 1), (55, .aload_n 3, 1)] [] (P := True) (by decide +kernel) rfl trivial
  obtain ⟨T8, h8, N8, K8, A8, g8⟩ := avStO K N6 A6 ((O2.keep K4).keep K6) (v := .ref y2) (Or.inr ⟨_, rfl, Ins.of_exa (Exa.keep Y2 (((keep_ext (ws := []) E2).trans K4 (allS (Or.inr (Nat.le_of_eq ea2.symm)) all0)).trans K6 (allS (Or.inr (Nat.le_of_eq ea2.symm)) all0))) (tw hw 115 rfl)⟩) (j := (2 : Int32)) (i := 2) rfl (by simp) ha2 (pc := 56) (L := #[.val (.int (3 : Int32)), .val (.ref y0), .val (.ref y1), .val (.ref y2)]) (S := [(.ref a2)]) (by decide +kernel)
  exact ⟨_, T8, _, h8, _, _, N8, by decide, by decide, fun q => (nomatch q), ⟨_, rfl, Nat.le_of_eq ea2.symm, ((((keep_ext (ws := []) E2).trans K4 (allS (Or.inr (Nat.le_of_eq ea2.symm)) all0)).trans K6 (allS (Or.inr (Nat.le_of_eq ea2.symm)) all0)).trans K8 (allS (Or.inr (Nat.le_of_eq ea2.symm)) all0)), A8, (((X2.keep K4).keep K6).keep K8), (((O2.keep K4).keep K6).keep K8)⟩, g1.trans (g2.trans (g3.trans (g4.trans (g5.trans (g6.trans (g7.trans g8)))))), finA K N8 hret rfl rfl rfl (by decide +kernel)⟩
set_option maxHeartbeats 4000000 in
theorem roadA0 (hw : ∀ d ∈ tables_1, d.before a0 Z = true) {ca : Addr} {cl : Cell} {da mo ma mr : Addr} (sf : SF Z ca cl da mo ma mr) (K : Cx Z "com/example/headers_to_descriptors/headerstodescriptors/ReadOnlyItemsCopyOfPinLaw" code maxLocals p m c) (hret : meth.sig.returnType = ret) (O0 : Old Z n0 s.heap) (N : Nw Z n0 h p l e room_1 s m args below meth c T 3 3) (nn fl pa pb pc' pd : Int32) {y0 y1 y2 : Addr} (Y0 : Exa Z h y0 "java/lang/Integer") (Y1 : Exa Z h y1 "java/lang/Integer") (Y2 : Exa Z h y2 "java/lang/Integer") (q1 : ¬ (fl &&& (1 : Int32)) = (0 : Int32)) :
    Ends Z n0 p l e room_1 s m args below meth c T (mkF m 24 #[.val (.int nn), .val (.int fl), .val (.int pa), .val (.int pb), .val (.int pc'), .val (.int pd), .val (.int (0 : Int32)), .val (.ref y0), .val (.ref y1), .val (.ref y2), .unset, .unset, .unset] []) := by
  have g1 : Ld p e below T (mkF m 24 #[.val (.int nn), .val (.int fl), .val (.int pa), .val (.int pb), .val (.int pc'), .val (.int pd), .val (.int (0 : Int32)), .val (.ref y0), .val (.ref y1), .val (.ref y2), .unset, .unset, .unset] []) T (mkF m 30 #[.val (.int nn), .val (.int fl), .val (.int pa), .val (.int pb), .val (.int pc'), .val (.int pd), .val (.int (0 : Int32)), .val (.ref y0), .val (.ref y1), .val (.ref y2), .unset, .unset, .unset] []) := goRun K N #[] [(24, .iload_n 1, 1), (25, .iconst 1, 1), (26, .iand, 1), (27, .ifCond .eq 74, 3)] [.null] (P := (¬ (fl &&& (1 : Int32)) = (0 : Int32)) ∧ True) (by decide +kernel) rfl ⟨q1, trivial⟩
  obtain ⟨T2, h2, a2, ea2, N2, E2, X2, D2, g2⟩ := goNew K N (C := "java/util/ArrayList") (tw hw 7 rfl) (tw hw 8 rfl) (tw hw 9 rfl) (pc := 30) (L := #[.val (.int nn), .val (.int fl), .val (.int pa), .val (.int pb), .val (.int pc'), .val (.int pd), .val (.int (0 : Int32)), .val (.ref y0), .val (.ref y1), .val (.ref y2), .unset, .unset, .unset]) (S := []) (by decide +kernel) (by decide) (by decide)
  have ha2 : n0 ≤ a2 := ea2 ▸ N.size
  have FA : Fld Z h2 a2 "java/util/ArrayList" "elementData" "[Ljava/lang/Object;" .null := D2 (Or.inl (tw hw 32 rfl)) (ty := (.array (.object "java/lang/Object"))) (by decide)
  have FB : Fld Z h2 a2 "java/util/ArrayList" "size" "I" (.int 0) := D2 (Or.inl (tw hw 47 rfl)) (ty := .int) (by decide)
  have FD : Fld Z h2 a2 "java/util/AbstractList" "modCount" "I" (.int 0) := D2 (Or.inl (tw hw 29 rfl)) (ty := .int) (by decide)
  have Y0 := Y0.keep (keep_ext (ws := []) E2)
  have Y1 := Y1.keep (keep_ext (ws := []) E2)
  have Y2 := Y2.keep (keep_ext (ws := []) E2)
  have g3 : Ld p e below T2 (mkF m 33 #[.val (.int nn), .val (.int fl), .val (.int pa), .val (.int pb), .val (.int pc'), .val (.int pd), .val (.int (0 : Int32)), .val (.ref y0), .val (.ref y1), .val (.ref y2), .unset, .unset, .unset] [(.ref a2)]) T2 (mkF m 34 #[.val (.int nn), .val (.int fl), .val (.int pa), .val (.int pb), .val (.int pc'), .val (.int pd), .val (.int (0 : Int32)), .val (.ref y0), .val (.ref y1), .val (.ref y2), .unset, .unset, .unset] [(.ref a2), (.ref a2)]) := goRun K N2 #[] [(33, .dup, 1)] [] (P := True) (by decide +kernel) rfl trivial
  obtain ⟨v4, T4, h4, N4, ⟨rfl, KL, FL⟩, g4⟩ := goSp K N2 (a := a2) (tw hw 10 rfl) (tw hw 11 rfl) (tw hw 9 rfl) (tw hw 12 rfl) (con_al hw sf X2 FA FB FD ha2 (N2.old O0)) rfl (by decide) (argsL := []) (W := 1) (rest := [(.ref a2)]) (by decide) (by decide) (by decide) (by decide) (L := #[.val (.int nn), .val (.int fl), .val (.int pa), .val (.int pb), .val (.int pc'), .val (.int pd), .val (.int (0 : Int32)), .val (.ref y0), .val (.ref y1), .val (.ref y2), .unset, .unset, .unset]) rfl pd4 rfl (Nat.le_of_eq rfl) (pc := 34) (by decide +kernel)
  have Y0 := Y0.keep KL
  have Y1 := Y1.keep KL
  have Y2 := Y2.keep KL
  have g5 : Ld p e below T4 (mkF m 37 #[.val (.int nn), .val (.int fl), .val (.int pa), .val (.int pb), .val (.int pc'), .val (.int pd), .val (.int (0 : Int32)), .val (.ref y0), .val (.ref y1), .val (.ref y2), .unset, .unset, .unset] [(.ref a2)]) T4 (mkF m 82 #[.val (.int nn), .val (.int fl), .val (.int pa), .val (.int pb), .val (.int pc'), .val (.int pd), .val (.int (0 : Int32)), .val (.ref y0), .val (.ref y1), .val (.ref y2), .unset, .val (.ref a2), .unset] [(.ref a2)]) := goRun K N4 #[] [(37, .astore 11, 2), (39, .iload 6, 2), (41, .ifCond .le 11, 3), (52, .iload 6, 2), (54, .iconst 1, 1), (55, .if_icmp .le 11, 3), (66, .iload 6, 2), (68, .iconst 2, 1), (69, .if_icmp .le 11, 3), (80, .aload 11, 2)] [.ref 0, .ref 0, .ref 0] (P := (¬ (0 : Int32) < (0 : Int32)) ∧ (¬ (1 : Int32) < (0 : Int32)) ∧ (¬ (2 : Int32) < (0 : Int32)) ∧ True) (by decide +kernel) rfl ⟨(by decide), (by decide), (by decide), trivial⟩
  obtain ⟨v6, T6, h6, N6, ⟨rc, i0, rfl, KC, LC, LD, XR0, FC, AC⟩, g6⟩ := goS K N4 (tw hw 33 rfl) (tw hw 34 rfl) (tw hw 35 rfl) (tw hw 36 rfl) (con_coA hw sf (sf.2.2.2.2.1.ext (N4.old O0).2) (Exa.ext (N4.old O0).2 sf.2.2.2.2.2.1) Els.nil (by decide) (by decide) (by decide) FL) (argsL := [(.ref a2)]) (W := 0) (rest := []) (by decide) (by decide) (by decide) (by decide) (by decide) (L := #[.val (.int nn), .val (.int fl), .val (.int pa), .val (.int pb), .val (.int pc'), .val (.int pd), .val (.int (0 : Int32)), .val (.ref y0), .val (.ref y1), .val (.ref y2), .unset, .val (.ref a2), .unset]) rfl pd11 rfl (Nat.le_of_eq rfl) (pc := 82) (by decide +kernel)
  have n1 : rc ≠ a2 := Ne.symm (Nat.ne_of_lt (Nat.lt_of_lt_of_le FL.1.lt LC))
  have n2 : i0 ≠ a2 := Ne.symm (Nat.ne_of_lt (Nat.lt_of_lt_of_le FL.1.lt LD))
  have FL := FL.keep KC nin0
  have Y0 := Y0.keep KC
  have Y1 := Y1.keep KC
  have Y2 := Y2.keep KC
  have g7 : Ld p e below T6 (mkF m 85 #[.val (.int nn), .val (.int fl), .val (.int pa), .val (.int pb), .val (.int pc'), .val (.int pd), .val (.int (0 : Int32)), .val (.ref y0), .val (.ref y1), .val (.ref y2), .unset, .val (.ref a2), .unset] [(.ref rc)]) T6 (mkF m 91 #[.val (.int nn), .val (.int fl), .val (.int pa), .val (.int pb), .val (.int pc'), .val (.int pd), .val (.int (0 : Int32)), .val (.ref y0), .val (.ref y1), .val (.ref y2), .val (.ref rc), .val (.ref a2), .unset] [(.int pd), (.ref a2)]) := goRun K N6 #[] [(85, .astore 10, 2), (87, .aload 11, 2), (89, .iload 5, 2)] [] (P := True) (by decide +kernel) rfl trivial
  obtain ⟨v8, T8, h8, N8, ⟨yd, rfl, YD, KV⟩, g8⟩ := goS K N6 (tw hw 0 rfl) (tw hw 1 rfl) (tw hw 2 rfl) (tw hw 3 rfl) (con_vo hw sf pd (N6.old O0)) (argsL := [(.int pd)]) (W := 1) (rest := [(.ref a2)]) (by decide) (by decide) (by decide) (by decide) (by decide) (L := #[.val (.int nn), .val (.int fl), .val (.int pa), .val (.int pb), .val (.int pc'), .val (.int pd), .val (.int (0 : Int32)), .val (.ref y0), .val (.ref y1), .val (.ref y2), .val (.ref rc), .val (.ref a2), .unset]) rfl pd2 rfl (Nat.le_of_eq rfl) (pc := 91) (by decide +kernel)
  have FL := FL.keep KV nin0
  have FC := FC.keep KV nin0
  have XR0 := XR0.keep KV
  have AC := AC.keep KV nin0
  have Y0 := Y0.keep KV
  have Y1 := Y1.keep KV
  have Y2 := Y2.keep KV
  obtain ⟨v9, T9, h9, N9, ⟨rfl, rd, LR, KA, FL, GL⟩, g9⟩ := goVi K N8 (a := a2) FL.1 (tw hw 89 rfl) (tw hw 90 rfl) (tw hw 92 rfl) (tw hw 91 rfl) (tw hw 9 rfl) (tw hw 93 rfl) (con_adg hw sf FL YD ha2 (N8.old O0)) (argsL := [(.ref yd)]) (W := 0) (rest := []) (by decide) (by decide) (by decide) (by decide) (by decide) (L := #[.val (.int nn), .val (.int fl), .val (.int pa), .val (.int pb), .val (.int pc'), .val (.int pd), .val (.int (0 : Int32)), .val (.ref y0), .val (.ref y1), .val (.ref y2), .val (.ref rc), .val (.ref a2), .unset]) rfl pd5 rfl (Nat.le_of_eq rfl) (pc := 94) (by decide +kernel)
  have FC := FC.keep KA (ninS n1 nin0)
  have XR0 := XR0.keep KA
  have AC : Av Z h9 i0 (.object "java/lang/Object") [] := AC.keep KA (ninS n2 nin0)
  have Y0 := Y0.keep KA
  have Y1 := Y1.keep KA
  have Y2 := Y2.keep KA
  have g10 : Ld p e below T9 (mkF m 97 #[.val (.int nn), .val (.int fl), .val (.int pa), .val (.int pb), .val (.int pc'), .val (.int pd), .val (.int (0 : Int32)), .val (.ref y0), .val (.ref y1), .val (.ref y2), .val (.ref rc), .val (.ref a2), .unset] [(.int (1 : Int32))]) T9 (mkF m 166 #[.val (.int nn), .val (.int fl), .val (.int pa), .val (.int pb), .val (.int pc'), .val (.int pd), .val (.int (0 : Int32)), .val (.ref y0), .val (.ref y1), .val (.ref y2), .val (.ref rc), .val (.ref a2), .unset] [(.ref rc)]) := goRun K N9 #[] [(97, .pop, 1), (98, .goto 66, 3), (164, .aload 10, 2)] [] (P := True) (by decide +kernel) rfl trivial
  obtain ⟨v11, T11, _, N11, ⟨rfl, rfl⟩, g11⟩ := goVi K N9 (a := rc) XR0 (tw hw 116 rfl) (tw hw 117 rfl) (tw hw 119 rfl) (tw hw 118 rfl) (tw hw 35 rfl) (tw hw 120 rfl) (con_sz hw FC AC (k := (0 : Int32)) rfl) (argsL := []) (W := 0) (rest := []) (by decide) (by decide) (by decide) (by decide) (by decide) (L := #[.val (.int nn), .val (.int fl), .val (.int pa), .val (.int pb), .val (.int pc'), .val (.int pd), .val (.int (0 : Int32)), .val (.ref y0), .val (.ref y1), .val (.ref y2), .val (.ref rc), .val (.ref a2), .unset]) rfl pd13 rfl (Nat.le_of_eq rfl) (pc := 166) (by decide +kernel)
  have g12 : Ld p e below T11 (mkF m 169 #[.val (.int nn), .val (.int fl), .val (.int pa), .val (.int pb), .val (.int pc'), .val (.int pd), .val (.int (0 : Int32)), .val (.ref y0), .val (.ref y1), .val (.ref y2), .val (.ref rc), .val (.ref a2), .unset] [(.int (0 : Int32))]) T11 (mkF m 233 #[.val (.int nn), .val (.int fl), .val (.int pa), .val (.int pb), .val (.int pc'), .val (.int pd), .val (.int (0 : Int32)), .val (.ref y0), .val (.ref y1), .val (.ref y2), .val (.ref rc), .val (.ref a2), .unset] [(.int (1 : Int32))]) := goRun K N11 #[] [(169, .iload 6, 2), (171, .if_icmp .eq 5, 3), (176, .iload 6, 2), (178, .ifCond .le 16, 3), (194, .iload 6, 2), (196, .iconst 1, 1), (197, .if_icmp .le 16, 3), (213, .iload 6, 2), (215, .iconst 2, 1), (216, .if_icmp .le 16, 3), (232, .iconst 1, 1)] [.ref 0, .ref 0, .ref 0, .ref 0] (P := ((0 : Int32) = (0 : Int32)) ∧ (¬ (0 : Int32) < (0 : Int32)) ∧ (¬ (1 : Int32) < (0 : Int32)) ∧ (¬ (2 : Int32) < (0 : Int32)) ∧ True) (by decide +kernel) rfl ⟨rfl, (by decide), (by decide), (by decide), trivial⟩
  exact ⟨T11, _, h9, _, _, N11, by decide, by decide, g1.trans (g2.trans (g3.trans (g4.trans (g5.trans (g6.trans (g7.trans (g8.trans (g9.trans (g10.trans (g11.trans g12)))))))))), sb1 ▸ finN K N11 hret (Or.inl rfl) (by decide +kernel)⟩
set_option maxHeartbeats 4000000 in
theorem roadB0 (hw : ∀ d ∈ tables_1, d.before a0 Z = true) {ca : Addr} {cl : Cell} {da mo ma mr : Addr} (sf : SF Z ca cl da mo ma mr) (K : Cx Z "com/example/headers_to_descriptors/headerstodescriptors/ReadOnlyItemsCopyOfPinLaw" code maxLocals p m c) (hret : meth.sig.returnType = ret) (O0 : Old Z n0 s.heap) (N : Nw Z n0 h p l e room_1 s m args below meth c T 3 3) (nn fl pa pb pc' pd : Int32) {y0 y1 y2 : Addr} (Y0 : Exa Z h y0 "java/lang/Integer") (Y1 : Exa Z h y1 "java/lang/Integer") (Y2 : Exa Z h y2 "java/lang/Integer") (q1 : (fl &&& (1 : Int32)) = (0 : Int32)) :
    Ends Z n0 p l e room_1 s m args below meth c T (mkF m 24 #[.val (.int nn), .val (.int fl), .val (.int pa), .val (.int pb), .val (.int pc'), .val (.int pd), .val (.int (0 : Int32)), .val (.ref y0), .val (.ref y1), .val (.ref y2), .unset, .unset, .unset] []) := by
  have g1 : Ld p e below T (mkF m 24 #[.val (.int nn), .val (.int fl), .val (.int pa), .val (.int pb), .val (.int pc'), .val (.int pd), .val (.int (0 : Int32)), .val (.ref y0), .val (.ref y1), .val (.ref y2), .unset, .unset, .unset] []) T (mkF m 109 #[.val (.int nn), .val (.int fl), .val (.int pa), .val (.int pb), .val (.int pc'), .val (.int pd), .val (.int (0 : Int32)), .val (.ref y0), .val (.ref y1), .val (.ref y2), .unset, .unset, .unset] [(.ref y2), (.ref y1), (.ref y0), (.int (0 : Int32))]) := goRun K N #[] [(24, .iload_n 1, 1), (25, .iconst 1, 1), (26, .iand, 1), (27, .ifCond .eq 74, 3), (101, .iload 6, 2), (103, .aload 7, 2), (105, .aload 8, 2), (107, .aload 9, 2)] [.ref 0] (P := ((fl &&& (1 : Int32)) = (0 : Int32)) ∧ True) (by decide +kernel) rfl ⟨q1, trivial⟩
  obtain ⟨v2, T2, h2, N2, ⟨b0, rfl, LB, KB, GB⟩, g2⟩ := goS K N (tw hw 121 rfl) (tw hw 122 rfl) (tw hw 123 rfl) (tw hw 124 rfl) (con_pk0 hw Y0 Y1 Y2) (argsL := [(.int (0 : Int32)), (.ref y0), (.ref y1), (.ref y2)]) (W := 0) (rest := []) (by decide) (by decide) (by decide) (by decide) (by decide) (L := #[.val (.int nn), .val (.int fl), .val (.int pa), .val (.int pb), .val (.int pc'), .val (.int pd), .val (.int (0 : Int32)), .val (.ref y0), .val (.ref y1), .val (.ref y2), .unset, .unset, .unset]) rfl pd15 rfl (Nat.le_of_eq rfl) (pc := 109) (by decide +kernel)
  have hb0 : n0 ≤ b0 := Nat.le_trans N.size LB
  have Y0 := Y0.keep KB
  have Y1 := Y1.keep KB
  have Y2 := Y2.keep KB
  have g3 : Ld p e below T2 (mkF m 112 #[.val (.int nn), .val (.int fl), .val (.int pa), .val (.int pb), .val (.int pc'), .val (.int pd), .val (.int (0 : Int32)), .val (.ref y0), .val (.ref y1), .val (.ref y2), .unset, .unset, .unset] [(.ref b0)]) T2 (mkF m 114 #[.val (.int nn), .val (.int fl), .val (.int pa), .val (.int pb), .val (.int pc'), .val (.int pd), .val (.int (0 : Int32)), .val (.ref y0), .val (.ref y1), .val (.ref y2), .unset, .val (.ref b0), .unset] []) := goRun K N2 #[] [(112, .astore 11, 2)] [] (P := True) (by decide +kernel) rfl trivial
  obtain ⟨T4, h4, a4, ea4, N4, E4, X4, D4, g4⟩ := goNew K N2 (C := "com/example/headers_to_descriptors/headerstodescriptors/ReadOnlyItems") (tw hw 126 rfl) (tw hw 73 rfl) (tw hw 35 rfl) (pc := 114) (L := #[.val (.int nn), .val (.int fl), .val (.int pa), .val (.int pb), .val (.int pc'), .val (.int pd), .val (.int (0 : Int32)), .val (.ref y0), .val (.ref y1), .val (.ref y2), .unset, .val (.ref b0), .unset]) (S := []) (by decide +kernel) (by decide) (by decide)
  have ha4 : n0 ≤ a4 := ea4 ▸ N2.size
  have FI0 : Fld Z h4 a4 "com/example/headers_to_descriptors/headerstodescriptors/ReadOnlyItems" "items" "[Ljava/lang/Object;" .null := D4 (Or.inr (tw hw 88 rfl)) (ty := .array (.object "java/lang/Object")) (by decide)
  have FM0 : Fld Z h4 a4 "java/util/AbstractList" "modCount" "I" (.int 0) := D4 (Or.inl (tw hw 86 rfl)) (ty := .int) (by decide)
  have KE := keep_ext (ws := []) E4
  have Y0 := Y0.keep KE
  have Y1 := Y1.keep KE
  have Y2 := Y2.keep KE
  have GB := GB.keep KE nin0
  have g5 : Ld p e below T4 (mkF m 117 #[.val (.int nn), .val (.int fl), .val (.int pa), .val (.int pb), .val (.int pc'), .val (.int pd), .val (.int (0 : Int32)), .val (.ref y0), .val (.ref y1), .val (.ref y2), .unset, .val (.ref b0), .unset] [(.ref a4)]) T4 (mkF m 120 #[.val (.int nn), .val (.int fl), .val (.int pa), .val (.int pb), .val (.int pc'), .val (.int pd), .val (.int (0 : Int32)), .val (.ref y0), .val (.ref y1), .val (.ref y2), .unset, .val (.ref b0), .unset] [(.ref b0), (.ref a4), (.ref a4)]) := goRun K N4 #[] [(117, .dup, 1), (118, .aload 11, 2)] [] (P := True) (by decide +kernel) rfl trivial
  obtain ⟨v6, T6, h6, N6, ⟨rfl, KR, FR⟩, g6⟩ := goSp K N4 (a := a4) (tw hw 127 rfl) (tw hw 82 rfl) (tw hw 35 rfl) (tw hw 83 rfl) (con_ri hw (it := b0) X4 FI0 FM0 ha4) rfl (by decide) (argsL := [(.ref b0)]) (W := 1) (rest := [(.ref a4)]) (by decide) (by decide) (by decide) (by decide) (L := #[.val (.int nn), .val (.int fl), .val (.int pa), .val (.int pb), .val (.int pc'), .val (.int pd), .val (.int (0 : Int32)), .val (.ref y0), .val (.ref y1), .val (.ref y2), .unset, .val (.ref b0), .unset]) rfl pd12 rfl (Nat.le_of_eq rfl) (pc := 120) (by decide +kernel)
  have nb : b0 ≠ a4 := Av.ne_exa GB.1 X4 (tw hw 73 rfl) |>.symm
  have GB := GB.keep KR (ninS nb nin0)
  have Y0 := Y0.keep KR
  have Y1 := Y1.keep KR
  have Y2 := Y2.keep KR
  have XS := X4.keep KR
  have g7 : Ld p e below T6 (mkF m 123 #[.val (.int nn), .val (.int fl), .val (.int pa), .val (.int pb), .val (.int pc'), .val (.int pd), .val (.int (0 : Int32)), .val (.ref y0), .val (.ref y1), .val (.ref y2), .unset, .val (.ref b0), .unset] [(.ref a4)]) T6 (mkF m 127 #[.val (.int nn), .val (.int fl), .val (.int pa), .val (.int pb), .val (.int pc'), .val (.int pd), .val (.int (0 : Int32)), .val (.ref y0), .val (.ref y1), .val (.ref y2), .unset, .val (.ref b0), .val (.ref a4)] [(.ref a4)]) := goRun K N6 #[] [(123, .astore 12, 2), (125, .aload 12, 2)] [] (P := True) (by decide +kernel) rfl trivial
  obtain ⟨v8, T8, h8, N8, ⟨rc, i0, rfl, KC, LC, LD, XR0, FC, AC⟩, g8⟩ := goS K N6 (tw hw 33 rfl) (tw hw 34 rfl) (tw hw 35 rfl) (tw hw 36 rfl) (con_coR hw sf FR GB.1 XS GB.2.1 Els.nil (by simp)) (argsL := [(.ref a4)]) (W := 0) (rest := []) (by decide) (by decide) (by decide) (by decide) (by decide) (L := #[.val (.int nn), .val (.int fl), .val (.int pa), .val (.int pb), .val (.int pc'), .val (.int pd), .val (.int (0 : Int32)), .val (.ref y0), .val (.ref y1), .val (.ref y2), .unset, .val (.ref b0), .val (.ref a4)]) rfl pd11 rfl (Nat.le_of_eq rfl) (pc := 127) (by decide +kernel)
  have n1 : rc ≠ b0 := Ne.symm (Nat.ne_of_lt (Nat.lt_of_lt_of_le GB.1.lt LC))
  have n2 : i0 ≠ b0 := Ne.symm (Nat.ne_of_lt (Nat.lt_of_lt_of_le GB.1.lt LD))
  have GB := GB.keep KC nin0
  have g9 : Ld p e below T8 (mkF m 130 #[.val (.int nn), .val (.int fl), .val (.int pa), .val (.int pb), .val (.int pc'), .val (.int pd), .val (.int (0 : Int32)), .val (.ref y0), .val (.ref y1), .val (.ref y2), .unset, .val (.ref b0), .val (.ref a4)] [(.ref rc)]) T8 (mkF m 164 #[.val (.int nn), .val (.int fl), .val (.int pa), .val (.int pb), .val (.int pc'), .val (.int pd), .val (.int (0 : Int32)), .val (.ref y0), .val (.ref y1), .val (.ref y2), .val (.ref rc), .val (.ref b0), .val (.ref a4)] []) := goRun K N8 #[] [(130, .astore 10, 2), (132, .iload 6, 2), (134, .ifCond .le 8, 3), (142, .iload 6, 2), (144, .iconst 1, 1), (145, .if_icmp .le 8, 3), (153, .iload 6, 2), (155, .iconst 2, 1), (156, .if_icmp .le 8, 3)] [.ref 0, .ref 0, .ref 0] (P := (¬ (0 : Int32) < (0 : Int32)) ∧ (¬ (1 : Int32) < (0 : Int32)) ∧ (¬ (2 : Int32) < (0 : Int32)) ∧ True) (by decide +kernel) rfl ⟨(by decide), (by decide), (by decide), trivial⟩
  have g10 : Ld p e below T8 (mkF m 164 #[.val (.int nn), .val (.int fl), .val (.int pa), .val (.int pb), .val (.int pc'), .val (.int pd), .val (.int (0 : Int32)), .val (.ref y0), .val (.ref y1), .val (.ref y2), .val (.ref rc), .val (.ref b0), .val (.ref a4)] []) T8 (mkF m 166 #[.val (.int nn), .val (.int fl), .val (.int pa), .val (.int pb), .val (.int pc'), .val (.int pd), .val (.int (0 : Int32)), .val (.ref y0), .val (.ref y1), .val (.ref y2), .val (.ref rc), .val (.ref b0), .val (.ref a4)] [(.ref rc)]) := goRun K N8 #[] [(164, .aload 10, 2)] [] (P := True) (by decide +kernel) rfl trivial
  obtain ⟨v11, T11, _, N11, ⟨rfl, rfl⟩, g11⟩ := goVi K N8 (a := rc) XR0 (tw hw 116 rfl) (tw hw 117 rfl) (tw hw 119 rfl) (tw hw 118 rfl) (tw hw 35 rfl) (tw hw 120 rfl) (con_sz hw FC AC (k := (0 : Int32)) rfl) (argsL := []) (W := 0) (rest := []) (by decide) (by decide) (by decide) (by decide) (by decide) (L := #[.val (.int nn), .val (.int fl), .val (.int pa), .val (.int pb), .val (.int pc'), .val (.int pd), .val (.int (0 : Int32)), .val (.ref y0), .val (.ref y1), .val (.ref y2), .val (.ref rc), .val (.ref b0), .val (.ref a4)]) rfl pd13 rfl (Nat.le_of_eq rfl) (pc := 166) (by decide +kernel)
  have g12 : Ld p e below T11 (mkF m 169 #[.val (.int nn), .val (.int fl), .val (.int pa), .val (.int pb), .val (.int pc'), .val (.int pd), .val (.int (0 : Int32)), .val (.ref y0), .val (.ref y1), .val (.ref y2), .val (.ref rc), .val (.ref b0), .val (.ref a4)] [(.int (0 : Int32))]) T11 (mkF m 233 #[.val (.int nn), .val (.int fl), .val (.int pa), .val (.int pb), .val (.int pc'), .val (.int pd), .val (.int (0 : Int32)), .val (.ref y0), .val (.ref y1), .val (.ref y2), .val (.ref rc), .val (.ref b0), .val (.ref a4)] [(.int (1 : Int32))]) := goRun K N11 #[] [(169, .iload 6, 2), (171, .if_icmp .eq 5, 3), (176, .iload 6, 2), (178, .ifCond .le 16, 3), (194, .iload 6, 2), (196, .iconst 1, 1), (197, .if_icmp .le 16, 3), (213, .iload 6, 2), (215, .iconst 2, 1), (216, .if_icmp .le 16, 3), (232, .iconst 1, 1)] [.ref 0, .ref 0, .ref 0, .ref 0] (P := ((0 : Int32) = (0 : Int32)) ∧ (¬ (0 : Int32) < (0 : Int32)) ∧ (¬ (1 : Int32) < (0 : Int32)) ∧ (¬ (2 : Int32) < (0 : Int32)) ∧ True) (by decide +kernel) rfl ⟨rfl, (by decide), (by decide), (by decide), trivial⟩
  exact ⟨T11, _, h8, _, _, N11, by decide, by decide, g1.trans (g2.trans (g3.trans (g4.trans (g5.trans (g6.trans (g7.trans (g8.trans (g9.trans (g10.trans (g11.trans g12)))))))))), sb1 ▸ finN K N11 hret (Or.inl rfl) (by decide +kernel)⟩
set_option maxHeartbeats 4000000 in
theorem roadA1 (hw : ∀ d ∈ tables_1, d.before a0 Z = true) {ca : Addr} {cl : Cell} {da mo ma mr : Addr} (sf : SF Z ca cl da mo ma mr) (K : Cx Z "com/example/headers_to_descriptors/headerstodescriptors/ReadOnlyItemsCopyOfPinLaw" code maxLocals p m c) (hret : meth.sig.returnType = ret) (O0 : Old Z n0 s.heap) (N : Nw Z n0 h p l e room_1 s m args below meth c T 3 3) (nn fl pa pb pc' pd : Int32) {y0 y1 y2 : Addr} (Y0 : Exa Z h y0 "java/lang/Integer") (Y1 : Exa Z h y1 "java/lang/Integer") (Y2 : Exa Z h y2 "java/lang/Integer") (q1 : ¬ (fl &&& (1 : Int32)) = (0 : Int32)) :
    Ends Z n0 p l e room_1 s m args below meth c T (mkF m 24 #[.val (.int nn), .val (.int fl), .val (.int pa), .val (.int pb), .val (.int pc'), .val (.int pd), .val (.int (1 : Int32)), .val (.ref y0), .val (.ref y1), .val (.ref y2), .unset, .unset, .unset] []) := by
  have g1 : Ld p e below T (mkF m 24 #[.val (.int nn), .val (.int fl), .val (.int pa), .val (.int pb), .val (.int pc'), .val (.int pd), .val (.int (1 : Int32)), .val (.ref y0), .val (.ref y1), .val (.ref y2), .unset, .unset, .unset] []) T (mkF m 30 #[.val (.int nn), .val (.int fl), .val (.int pa), .val (.int pb), .val (.int pc'), .val (.int pd), .val (.int (1 : Int32)), .val (.ref y0), .val (.ref y1), .val (.ref y2), .unset, .unset, .unset] []) := goRun K N #[] [(24, .iload_n 1, 1), (25, .iconst 1, 1), (26, .iand, 1), (27, .ifCond .eq 74, 3)] [.null] (P := (¬ (fl &&& (1 : Int32)) = (0 : Int32)) ∧ True) (by decide +kernel) rfl ⟨q1, trivial⟩
  obtain ⟨T2, h2, a2, ea2, N2, E2, X2, D2, g2⟩ := goNew K N (C := "java/util/ArrayList") (tw hw 7 rfl) (tw hw 8 rfl) (tw hw 9 rfl) (pc := 30) (L := #[.val (.int nn), .val (.int fl), .val (.int pa), .val (.int pb), .val (.int pc'), .val (.int pd), .val (.int (1 : Int32)), .val (.ref y0), .val (.ref y1), .val (.ref y2), .unset, .unset, .unset]) (S := []) (by decide +kernel) (by decide) (by decide)
  have ha2 : n0 ≤ a2 := ea2 ▸ N.size
  have FA : Fld Z h2 a2 "java/util/ArrayList" "elementData" "[Ljava/lang/Object;" .null := D2 (Or.inl (tw hw 32 rfl)) (ty := (.array (.object "java/lang/Object"))) (by decide)
  have FB : Fld Z h2 a2 "java/util/ArrayList" "size" "I" (.int 0) := D2 (Or.inl (tw hw 47 rfl)) (ty := .int) (by decide)
  have FD : Fld Z h2 a2 "java/util/AbstractList" "modCount" "I" (.int 0) := D2 (Or.inl (tw hw 29 rfl)) (ty := .int) (by decide)
  have Y0 := Y0.keep (keep_ext (ws := []) E2)
  have Y1 := Y1.keep (keep_ext (ws := []) E2)
  have Y2 := Y2.keep (keep_ext (ws := []) E2)
  have g3 : Ld p e below T2 (mkF m 33 #[.val (.int nn), .val (.int fl), .val (.int pa), .val (.int pb), .val (.int pc'), .val (.int pd), .val (.int (1 : Int32)), .val (.ref y0), .val (.ref y1), .val (.ref y2), .unset, .unset, .unset] [(.ref a2)]) T2 (mkF m 34 #[.val (.int nn), .val (.int fl), .val (.int pa), .val (.int pb), .val (.int pc'), .val (.int pd), .val (.int (1 : Int32)), .val (.ref y0), .val (.ref y1), .val (.ref y2), .unset, .unset, .unset] [(.ref a2), (.ref a2)]) := goRun K N2 #[] [(33, .dup, 1)] [] (P := True) (by decide +kernel) rfl trivial
  obtain ⟨v4, T4, h4, N4, ⟨rfl, KL, FL⟩, g4⟩ := goSp K N2 (a := a2) (tw hw 10 rfl) (tw hw 11 rfl) (tw hw 9 rfl) (tw hw 12 rfl) (con_al hw sf X2 FA FB FD ha2 (N2.old O0)) rfl (by decide) (argsL := []) (W := 1) (rest := [(.ref a2)]) (by decide) (by decide) (by decide) (by decide) (L := #[.val (.int nn), .val (.int fl), .val (.int pa), .val (.int pb), .val (.int pc'), .val (.int pd), .val (.int (1 : Int32)), .val (.ref y0), .val (.ref y1), .val (.ref y2), .unset, .unset, .unset]) rfl pd4 rfl (Nat.le_of_eq rfl) (pc := 34) (by decide +kernel)
  have Y0 := Y0.keep KL
  have Y1 := Y1.keep KL
  have Y2 := Y2.keep KL
  have g5 : Ld p e below T4 (mkF m 37 #[.val (.int nn), .val (.int fl), .val (.int pa), .val (.int pb), .val (.int pc'), .val (.int pd), .val (.int (1 : Int32)), .val (.ref y0), .val (.ref y1), .val (.ref y2), .unset, .unset, .unset] [(.ref a2)]) T4 (mkF m 48 #[.val (.int nn), .val (.int fl), .val (.int pa), .val (.int pb), .val (.int pc'), .val (.int pd), .val (.int (1 : Int32)), .val (.ref y0), .val (.ref y1), .val (.ref y2), .unset, .val (.ref a2), .unset] [(.ref y0), (.ref a2)]) := goRun K N4 #[] [(37, .astore 11, 2), (39, .iload 6, 2), (41, .ifCond .le 11, 3), (44, .aload 11, 2), (46, .aload 7, 2)] [.null] (P := ((0 : Int32) < (1 : Int32)) ∧ True) (by decide +kernel) rfl ⟨(by decide), trivial⟩
  obtain ⟨v6, T6, h6, N6, ⟨rfl, r0, LR, KA, FL, GL⟩, g6⟩ := goVi K N4 (a := a2) FL.1 (tw hw 89 rfl) (tw hw 90 rfl) (tw hw 92 rfl) (tw hw 91 rfl) (tw hw 9 rfl) (tw hw 93 rfl) (con_adg hw sf FL Y0 ha2 (N4.old O0)) (argsL := [(.ref y0)]) (W := 0) (rest := []) (by decide) (by decide) (by decide) (by decide) (by decide) (L := #[.val (.int nn), .val (.int fl), .val (.int pa), .val (.int pb), .val (.int pc'), .val (.int pd), .val (.int (1 : Int32)), .val (.ref y0), .val (.ref y1), .val (.ref y2), .unset, .val (.ref a2), .unset]) rfl pd5 rfl (Nat.le_of_eq rfl) (pc := 48) (by decide +kernel)
  have hr : n0 ≤ r0 := Nat.le_trans N4.size LR
  have EL : Els Z h6 (.ref y0 :: List.replicate 9 .null) := Els.cons (Y0.keep KA) (Els.rep 9)
  have Y0 := Y0.keep KA
  have Y1 := Y1.keep KA
  have Y2 := Y2.keep KA
  have g7 : Ld p e below T6 (mkF m 51 #[.val (.int nn), .val (.int fl), .val (.int pa), .val (.int pb), .val (.int pc'), .val (.int pd), .val (.int (1 : Int32)), .val (.ref y0), .val (.ref y1), .val (.ref y2), .unset, .val (.ref a2), .unset] [(.int (1 : Int32))]) T6 (mkF m 82 #[.val (.int nn), .val (.int fl), .val (.int pa), .val (.int pb), .val (.int pc'), .val (.int pd), .val (.int (1 : Int32)), .val (.ref y0), .val (.ref y1), .val (.ref y2), .unset, .val (.ref a2), .unset] [(.ref a2)]) := goRun K N6 #[] [(51, .pop, 1), (52, .iload 6, 2), (54, .iconst 1, 1), (55, .if_icmp .le 11, 3), (66, .iload 6, 2), (68, .iconst 2, 1), (69, .if_icmp .le 11, 3), (80, .aload 11, 2)] [.ref 0, .ref 0] (P := (¬ (1 : Int32) < (1 : Int32)) ∧ (¬ (2 : Int32) < (1 : Int32)) ∧ True) (by decide +kernel) rfl ⟨(by decide), (by decide), trivial⟩
  obtain ⟨v8, T8, h8, N8, ⟨rc, i0, rfl, KC, LC, LD, XR0, FC, AC⟩, g8⟩ := goS K N6 (tw hw 33 rfl) (tw hw 34 rfl) (tw hw 35 rfl) (tw hw 36 rfl) (con_coA hw sf GL.1 GL.2.1 EL (by simp) (by decide) (by simp) FL) (argsL := [(.ref a2)]) (W := 0) (rest := []) (by decide) (by decide) (by decide) (by decide) (by decide) (L := #[.val (.int nn), .val (.int fl), .val (.int pa), .val (.int pb), .val (.int pc'), .val (.int pd), .val (.int (1 : Int32)), .val (.ref y0), .val (.ref y1), .val (.ref y2), .unset, .val (.ref a2), .unset]) rfl pd11 rfl (Nat.le_of_eq rfl) (pc := 82) (by decide +kernel)
  have n1 : rc ≠ a2 := Ne.symm (Nat.ne_of_lt (Nat.lt_of_lt_of_le FL.1.lt LC))
  have n2 : i0 ≠ a2 := Ne.symm (Nat.ne_of_lt (Nat.lt_of_lt_of_le FL.1.lt LD))
  have n3 : rc ≠ r0 := Ne.symm (Nat.ne_of_lt (Nat.lt_of_lt_of_le GL.1.lt LC))
  have n4 : i0 ≠ r0 := Ne.symm (Nat.ne_of_lt (Nat.lt_of_lt_of_le GL.1.lt LD))
  have FL := FL.keep KC nin0
  have GL := GL.keep KC nin0
  have Y0 := Y0.keep KC
  have Y1 := Y1.keep KC
  have Y2 := Y2.keep KC
  have g9 : Ld p e below T8 (mkF m 85 #[.val (.int nn), .val (.int fl), .val (.int pa), .val (.int pb), .val (.int pc'), .val (.int pd), .val (.int (1 : Int32)), .val (.ref y0), .val (.ref y1), .val (.ref y2), .unset, .val (.ref a2), .unset] [(.ref rc)]) T8 (mkF m 91 #[.val (.int nn), .val (.int fl), .val (.int pa), .val (.int pb), .val (.int pc'), .val (.int pd), .val (.int (1 : Int32)), .val (.ref y0), .val (.ref y1), .val (.ref y2), .val (.ref rc), .val (.ref a2), .unset] [(.int pd), (.ref a2)]) := goRun K N8 #[] [(85, .astore 10, 2), (87, .aload 11, 2), (89, .iload 5, 2)] [] (P := True) (by decide +kernel) rfl trivial
  obtain ⟨v10, T10, h10, N10, ⟨yd, rfl, YD, KV⟩, g10⟩ := goS K N8 (tw hw 0 rfl) (tw hw 1 rfl) (tw hw 2 rfl) (tw hw 3 rfl) (con_vo hw sf pd (N8.old O0)) (argsL := [(.int pd)]) (W := 1) (rest := [(.ref a2)]) (by decide) (by decide) (by decide) (by decide) (by decide) (L := #[.val (.int nn), .val (.int fl), .val (.int pa), .val (.int pb), .val (.int pc'), .val (.int pd), .val (.int (1 : Int32)), .val (.ref y0), .val (.ref y1), .val (.ref y2), .val (.ref rc), .val (.ref a2), .unset]) rfl pd2 rfl (Nat.le_of_eq rfl) (pc := 91) (by decide +kernel)
  have FL := FL.keep KV nin0
  have FC := FC.keep KV nin0
  have XR0 := XR0.keep KV
  have AC := AC.keep KV nin0
  have GL := GL.keep KV nin0
  have Y0 := Y0.keep KV
  have Y1 := Y1.keep KV
  have Y2 := Y2.keep KV
  obtain ⟨v11, T11, h11, N11, ⟨rfl, KA, FL, GL⟩, g11⟩ := goVi K N10 (a := a2) FL.1 (tw hw 89 rfl) (tw hw 90 rfl) (tw hw 92 rfl) (tw hw 91 rfl) (tw hw 9 rfl) (tw hw 93 rfl) (con_adp hw FL GL (by simp) YD ha2 hr) (argsL := [(.ref yd)]) (W := 0) (rest := []) (by decide) (by decide) (by decide) (by decide) (by decide) (L := #[.val (.int nn), .val (.int fl), .val (.int pa), .val (.int pb), .val (.int pc'), .val (.int pd), .val (.int (1 : Int32)), .val (.ref y0), .val (.ref y1), .val (.ref y2), .val (.ref rc), .val (.ref a2), .unset]) rfl pd5 rfl (Nat.le_of_eq rfl) (pc := 94) (by decide +kernel)
  have FC := FC.keep KA (ninS n1 (ninS n3 nin0))
  have XR0 := XR0.keep KA
  have AC : Av Z h11 i0 (.object "java/lang/Object") [.ref y0] := AC.keep KA (ninS n2 (ninS n4 nin0))
  have Y0 := Y0.keep KA
  have Y1 := Y1.keep KA
  have Y2 := Y2.keep KA
  have g12 : Ld p e below T11 (mkF m 97 #[.val (.int nn), .val (.int fl), .val (.int pa), .val (.int pb), .val (.int pc'), .val (.int pd), .val (.int (1 : Int32)), .val (.ref y0), .val (.ref y1), .val (.ref y2), .val (.ref rc), .val (.ref a2), .unset] [(.int (1 : Int32))]) T11 (mkF m 166 #[.val (.int nn), .val (.int fl), .val (.int pa), .val (.int pb), .val (.int pc'), .val (.int pd), .val (.int (1 : Int32)), .val (.ref y0), .val (.ref y1), .val (.ref y2), .val (.ref rc), .val (.ref a2), .unset] [(.ref rc)]) := goRun K N11 #[] [(97, .pop, 1), (98, .goto 66, 3), (164, .aload 10, 2)] [] (P := True) (by decide +kernel) rfl trivial
  obtain ⟨v13, T13, _, N13, ⟨rfl, rfl⟩, g13⟩ := goVi K N11 (a := rc) XR0 (tw hw 116 rfl) (tw hw 117 rfl) (tw hw 119 rfl) (tw hw 118 rfl) (tw hw 35 rfl) (tw hw 120 rfl) (con_sz hw FC AC (k := (1 : Int32)) rfl) (argsL := []) (W := 0) (rest := []) (by decide) (by decide) (by decide) (by decide) (by decide) (L := #[.val (.int nn), .val (.int fl), .val (.int pa), .val (.int pb), .val (.int pc'), .val (.int pd), .val (.int (1 : Int32)), .val (.ref y0), .val (.ref y1), .val (.ref y2), .val (.ref rc), .val (.ref a2), .unset]) rfl pd13 rfl (Nat.le_of_eq rfl) (pc := 166) (by decide +kernel)
  have g14 : Ld p e below T13 (mkF m 169 #[.val (.int nn), .val (.int fl), .val (.int pa), .val (.int pb), .val (.int pc'), .val (.int pd), .val (.int (1 : Int32)), .val (.ref y0), .val (.ref y1), .val (.ref y2), .val (.ref rc), .val (.ref a2), .unset] [(.int (1 : Int32))]) T13 (mkF m 184 #[.val (.int nn), .val (.int fl), .val (.int pa), .val (.int pb), .val (.int pc'), .val (.int pd), .val (.int (1 : Int32)), .val (.ref y0), .val (.ref y1), .val (.ref y2), .val (.ref rc), .val (.ref a2), .unset] [(.int (0 : Int32)), (.ref rc)]) := goRun K N13 #[] [(169, .iload 6, 2), (171, .if_icmp .eq 5, 3), (176, .iload 6, 2), (178, .ifCond .le 16, 3), (181, .aload 10, 2), (183, .iconst 0, 1)] [.ref 0, .null] (P := ((1 : Int32) = (1 : Int32)) ∧ ((0 : Int32) < (1 : Int32)) ∧ True) (by decide +kernel) rfl ⟨rfl, (by decide), trivial⟩
  obtain ⟨v15, T15, _, N15, ⟨rfl, rfl⟩, g15⟩ := goVi K N13 (a := rc) XR0 (tw hw 161 rfl) (tw hw 162 rfl) (tw hw 164 rfl) (tw hw 163 rfl) (tw hw 35 rfl) (tw hw 165 rfl) (con_gt hw FC AC (j := (0 : Int32)) (i := 0) rfl rfl) (argsL := [(.int (0 : Int32))]) (W := 0) (rest := []) (by decide) (by decide) (by decide) (by decide) (by decide) (L := #[.val (.int nn), .val (.int fl), .val (.int pa), .val (.int pb), .val (.int pc'), .val (.int pd), .val (.int (1 : Int32)), .val (.ref y0), .val (.ref y1), .val (.ref y2), .val (.ref rc), .val (.ref a2), .unset]) rfl pd14 rfl (Nat.le_of_eq rfl) (pc := 184) (by decide +kernel)
  have g16 : Ld p e below T15 (mkF m 187 #[.val (.int nn), .val (.int fl), .val (.int pa), .val (.int pb), .val (.int pc'), .val (.int pd), .val (.int (1 : Int32)), .val (.ref y0), .val (.ref y1), .val (.ref y2), .val (.ref rc), .val (.ref a2), .unset] [(.ref y0)]) T15 (mkF m 233 #[.val (.int nn), .val (.int fl), .val (.int pa), .val (.int pb), .val (.int pc'), .val (.int pd), .val (.int (1 : Int32)), .val (.ref y0), .val (.ref y1), .val (.ref y2), .val (.ref rc), .val (.ref a2), .unset] [(.int (1 : Int32))]) := goRun K N15 #[] [(187, .aload 7, 2), (189, .if_acmp .eq 5, 3), (194, .iload 6, 2), (196, .iconst 1, 1), (197, .if_icmp .le 16, 3), (213, .iload 6, 2), (215, .iconst 2, 1), (216, .if_icmp .le 16, 3), (232, .iconst 1, 1)] [.ref 0, .ref 0, .ref 0] (P := ((.ref y0 : Value) = (.ref y0 : Value)) ∧ (¬ (1 : Int32) < (1 : Int32)) ∧ (¬ (2 : Int32) < (1 : Int32)) ∧ True) (by decide +kernel) rfl ⟨rfl, (by decide), (by decide), trivial⟩
  exact ⟨T15, _, h11, _, _, N15, by decide, by decide, g1.trans (g2.trans (g3.trans (g4.trans (g5.trans (g6.trans (g7.trans (g8.trans (g9.trans (g10.trans (g11.trans (g12.trans (g13.trans (g14.trans (g15.trans g16)))))))))))))), sb1 ▸ finN K N15 hret (Or.inl rfl) (by decide +kernel)⟩
set_option maxHeartbeats 4000000 in
theorem roadB1 (hw : ∀ d ∈ tables_1, d.before a0 Z = true) {ca : Addr} {cl : Cell} {da mo ma mr : Addr} (sf : SF Z ca cl da mo ma mr) (K : Cx Z "com/example/headers_to_descriptors/headerstodescriptors/ReadOnlyItemsCopyOfPinLaw" code maxLocals p m c) (hret : meth.sig.returnType = ret) (O0 : Old Z n0 s.heap) (N : Nw Z n0 h p l e room_1 s m args below meth c T 3 3) (nn fl pa pb pc' pd : Int32) {y0 y1 y2 : Addr} (Y0 : Exa Z h y0 "java/lang/Integer") (Y1 : Exa Z h y1 "java/lang/Integer") (Y2 : Exa Z h y2 "java/lang/Integer") (q1 : (fl &&& (1 : Int32)) = (0 : Int32)) :
    Ends Z n0 p l e room_1 s m args below meth c T (mkF m 24 #[.val (.int nn), .val (.int fl), .val (.int pa), .val (.int pb), .val (.int pc'), .val (.int pd), .val (.int (1 : Int32)), .val (.ref y0), .val (.ref y1), .val (.ref y2), .unset, .unset, .unset] []) := by
  have g1 : Ld p e below T (mkF m 24 #[.val (.int nn), .val (.int fl), .val (.int pa), .val (.int pb), .val (.int pc'), .val (.int pd), .val (.int (1 : Int32)), .val (.ref y0), .val (.ref y1), .val (.ref y2), .unset, .unset, .unset] []) T (mkF m 109 #[.val (.int nn), .val (.int fl), .val (.int pa), .val (.int pb), .val (.int pc'), .val (.int pd), .val (.int (1 : Int32)), .val (.ref y0), .val (.ref y1), .val (.ref y2), .unset, .unset, .unset] [(.ref y2), (.ref y1), (.ref y0), (.int (1 : Int32))]) := goRun K N #[] [(24, .iload_n 1, 1), (25, .iconst 1, 1), (26, .iand, 1), (27, .ifCond .eq 74, 3), (101, .iload 6, 2), (103, .aload 7, 2), (105, .aload 8, 2), (107, .aload 9, 2)] [.ref 0] (P := ((fl &&& (1 : Int32)) = (0 : Int32)) ∧ True) (by decide +kernel) rfl ⟨q1, trivial⟩
  obtain ⟨v2, T2, h2, N2, ⟨b0, rfl, LB, KB, GB⟩, g2⟩ := goS K N (tw hw 121 rfl) (tw hw 122 rfl) (tw hw 123 rfl) (tw hw 124 rfl) (con_pk1 hw Y0 Y1 Y2) (argsL := [(.int (1 : Int32)), (.ref y0), (.ref y1), (.ref y2)]) (W := 0) (rest := []) (by decide) (by decide) (by decide) (by decide) (by decide) (L := #[.val (.int nn), .val (.int fl), .val (.int pa), .val (.int pb), .val (.int pc'), .val (.int pd), .val (.int (1 : Int32)), .val (.ref y0), .val (.ref y1), .val (.ref y2), .unset, .unset, .unset]) rfl pd15 rfl (Nat.le_of_eq rfl) (pc := 109) (by decide +kernel)
  have hb0 : n0 ≤ b0 := Nat.le_trans N.size LB
  have Y0 := Y0.keep KB
  have Y1 := Y1.keep KB
  have Y2 := Y2.keep KB
  have g3 : Ld p e below T2 (mkF m 112 #[.val (.int nn), .val (.int fl), .val (.int pa), .val (.int pb), .val (.int pc'), .val (.int pd), .val (.int (1 : Int32)), .val (.ref y0), .val (.ref y1), .val (.ref y2), .unset, .unset, .unset] [(.ref b0)]) T2 (mkF m 114 #[.val (.int nn), .val (.int fl), .val (.int pa), .val (.int pb), .val (.int pc'), .val (.int pd), .val (.int (1 : Int32)), .val (.ref y0), .val (.ref y1), .val (.ref y2), .unset, .val (.ref b0), .unset] []) := goRun K N2 #[] [(112, .astore 11, 2)] [] (P := True) (by decide +kernel) rfl trivial
  obtain ⟨T4, h4, a4, ea4, N4, E4, X4, D4, g4⟩ := goNew K N2 (C := "com/example/headers_to_descriptors/headerstodescriptors/ReadOnlyItems") (tw hw 126 rfl) (tw hw 73 rfl) (tw hw 35 rfl) (pc := 114) (L := #[.val (.int nn), .val (.int fl), .val (.int pa), .val (.int pb), .val (.int pc'), .val (.int pd), .val (.int (1 : Int32)), .val (.ref y0), .val (.ref y1), .val (.ref y2), .unset, .val (.ref b0), .unset]) (S := []) (by decide +kernel) (by decide) (by decide)
  have ha4 : n0 ≤ a4 := ea4 ▸ N2.size
  have FI0 : Fld Z h4 a4 "com/example/headers_to_descriptors/headerstodescriptors/ReadOnlyItems" "items" "[Ljava/lang/Object;" .null := D4 (Or.inr (tw hw 88 rfl)) (ty := .array (.object "java/lang/Object")) (by decide)
  have FM0 : Fld Z h4 a4 "java/util/AbstractList" "modCount" "I" (.int 0) := D4 (Or.inl (tw hw 86 rfl)) (ty := .int) (by decide)
  have KE := keep_ext (ws := []) E4
  have Y0 := Y0.keep KE
  have Y1 := Y1.keep KE
  have Y2 := Y2.keep KE
  have GB := GB.keep KE nin0
  have g5 : Ld p e below T4 (mkF m 117 #[.val (.int nn), .val (.int fl), .val (.int pa), .val (.int pb), .val (.int pc'), .val (.int pd), .val (.int (1 : Int32)), .val (.ref y0), .val (.ref y1), .val (.ref y2), .unset, .val (.ref b0), .unset] [(.ref a4)]) T4 (mkF m 120 #[.val (.int nn), .val (.int fl), .val (.int pa), .val (.int pb), .val (.int pc'), .val (.int pd), .val (.int (1 : Int32)), .val (.ref y0), .val (.ref y1), .val (.ref y2), .unset, .val (.ref b0), .unset] [(.ref b0), (.ref a4), (.ref a4)]) := goRun K N4 #[] [(117, .dup, 1), (118, .aload 11, 2)] [] (P := True) (by decide +kernel) rfl trivial
  obtain ⟨v6, T6, h6, N6, ⟨rfl, KR, FR⟩, g6⟩ := goSp K N4 (a := a4) (tw hw 127 rfl) (tw hw 82 rfl) (tw hw 35 rfl) (tw hw 83 rfl) (con_ri hw (it := b0) X4 FI0 FM0 ha4) rfl (by decide) (argsL := [(.ref b0)]) (W := 1) (rest := [(.ref a4)]) (by decide) (by decide) (by decide) (by decide) (L := #[.val (.int nn), .val (.int fl), .val (.int pa), .val (.int pb), .val (.int pc'), .val (.int pd), .val (.int (1 : Int32)), .val (.ref y0), .val (.ref y1), .val (.ref y2), .unset, .val (.ref b0), .unset]) rfl pd12 rfl (Nat.le_of_eq rfl) (pc := 120) (by decide +kernel)
  have nb : b0 ≠ a4 := Av.ne_exa GB.1 X4 (tw hw 73 rfl) |>.symm
  have GB := GB.keep KR (ninS nb nin0)
  have Y0 := Y0.keep KR
  have Y1 := Y1.keep KR
  have Y2 := Y2.keep KR
  have XS := X4.keep KR
  have g7 : Ld p e below T6 (mkF m 123 #[.val (.int nn), .val (.int fl), .val (.int pa), .val (.int pb), .val (.int pc'), .val (.int pd), .val (.int (1 : Int32)), .val (.ref y0), .val (.ref y1), .val (.ref y2), .unset, .val (.ref b0), .unset] [(.ref a4)]) T6 (mkF m 127 #[.val (.int nn), .val (.int fl), .val (.int pa), .val (.int pb), .val (.int pc'), .val (.int pd), .val (.int (1 : Int32)), .val (.ref y0), .val (.ref y1), .val (.ref y2), .unset, .val (.ref b0), .val (.ref a4)] [(.ref a4)]) := goRun K N6 #[] [(123, .astore 12, 2), (125, .aload 12, 2)] [] (P := True) (by decide +kernel) rfl trivial
  obtain ⟨v8, T8, h8, N8, ⟨rc, i0, rfl, KC, LC, LD, XR0, FC, AC⟩, g8⟩ := goS K N6 (tw hw 33 rfl) (tw hw 34 rfl) (tw hw 35 rfl) (tw hw 36 rfl) (con_coR hw sf FR GB.1 XS GB.2.1 (Els.cons Y0 Els.nil) (by simp)) (argsL := [(.ref a4)]) (W := 0) (rest := []) (by decide) (by decide) (by decide) (by decide) (by decide) (L := #[.val (.int nn), .val (.int fl), .val (.int pa), .val (.int pb), .val (.int pc'), .val (.int pd), .val (.int (1 : Int32)), .val (.ref y0), .val (.ref y1), .val (.ref y2), .unset, .val (.ref b0), .val (.ref a4)]) rfl pd11 rfl (Nat.le_of_eq rfl) (pc := 127) (by decide +kernel)
  have n1 : rc ≠ b0 := Ne.symm (Nat.ne_of_lt (Nat.lt_of_lt_of_le GB.1.lt LC))
  have n2 : i0 ≠ b0 := Ne.symm (Nat.ne_of_lt (Nat.lt_of_lt_of_le GB.1.lt LD))
  have GB := GB.keep KC nin0
  have g9 : Ld p e below T8 (mkF m 130 #[.val (.int nn), .val (.int fl), .val (.int pa), .val (.int pb), .val (.int pc'), .val (.int pd), .val (.int (1 : Int32)), .val (.ref y0), .val (.ref y1), .val (.ref y2), .unset, .val (.ref b0), .val (.ref a4)] [(.ref rc)]) T8 (mkF m 141 #[.val (.int nn), .val (.int fl), .val (.int pa), .val (.int pb), .val (.int pc'), .val (.int pd), .val (.int (1 : Int32)), .val (.ref y0), .val (.ref y1), .val (.ref y2), .val (.ref rc), .val (.ref b0), .val (.ref a4)] [(.null), (.int (0 : Int32)), (.ref b0)]) := goRun K N8 #[] [(130, .astore 10, 2), (132, .iload 6, 2), (134, .ifCond .le 8, 3), (137, .aload 11, 2), (139, .iconst 0, 1), (140, .aconst_null, 1)] [.null] (P := ((0 : Int32) < (1 : Int32)) ∧ True) (by decide +kernel) rfl ⟨(by decide), trivial⟩
  obtain ⟨T10, h10, N10, K10, A10, g10⟩ := avStO K N8 GB.1 GB.2.2 (v := .null) (Or.inl rfl) (j := (0 : Int32)) (i := 0) rfl (by simp) hb0 (pc := 141) (L := #[.val (.int nn), .val (.int fl), .val (.int pa), .val (.int pb), .val (.int pc'), .val (.int pd), .val (.int (1 : Int32)), .val (.ref y0), .val (.ref y1), .val (.ref y2), .val (.ref rc), .val (.ref b0), .val (.ref a4)]) (S := []) (by decide +kernel)
  have GB : Oa Z h10 b0 _ := ⟨A10, GB.2.1.keep K10, GB.2.2.keep K10⟩
  have FC := FC.keep K10 (ninS n1 nin0)
  have XR0 := XR0.keep K10
  have AC := AC.keep K10 (ninS n2 nin0)
  have g11 : Ld p e below T10 (mkF m 142 #[.val (.int nn), .val (.int fl), .val (.int pa), .val (.int pb), .val (.int pc'), .val (.int pd), .val (.int (1 : Int32)), .val (.ref y0), .val (.ref y1), .val (.ref y2), .val (.ref rc), .val (.ref b0), .val (.ref a4)] []) T10 (mkF m 164 #[.val (.int nn), .val (.int fl), .val (.int pa), .val (.int pb), .val (.int pc'), .val (.int pd), .val (.int (1 : Int32)), .val (.ref y0), .val (.ref y1), .val (.ref y2), .val (.ref rc), .val (.ref b0), .val (.ref a4)] []) := goRun K N10 #[] [(142, .iload 6, 2), (144, .iconst 1, 1), (145, .if_icmp .le 8, 3), (153, .iload 6, 2), (155, .iconst 2, 1), (156, .if_icmp .le 8, 3)] [.ref 0, .ref 0] (P := (¬ (1 : Int32) < (1 : Int32)) ∧ (¬ (2 : Int32) < (1 : Int32)) ∧ True) (by decide +kernel) rfl ⟨(by decide), (by decide), trivial⟩
  have g12 : Ld p e below T10 (mkF m 164 #[.val (.int nn), .val (.int fl), .val (.int pa), .val (.int pb), .val (.int pc'), .val (.int pd), .val (.int (1 : Int32)), .val (.ref y0), .val (.ref y1), .val (.ref y2), .val (.ref rc), .val (.ref b0), .val (.ref a4)] []) T10 (mkF m 166 #[.val (.int nn), .val (.int fl), .val (.int pa), .val (.int pb), .val (.int pc'), .val (.int pd), .val (.int (1 : Int32)), .val (.ref y0), .val (.ref y1), .val (.ref y2), .val (.ref rc), .val (.ref b0), .val (.ref a4)] [(.ref rc)]) := goRun K N10 #[] [(164, .aload 10, 2)] [] (P := True) (by decide +kernel) rfl trivial
  obtain ⟨v13, T13, _, N13, ⟨rfl, rfl⟩, g13⟩ := goVi K N10 (a := rc) XR0 (tw hw 116 rfl) (tw hw 117 rfl) (tw hw 119 rfl) (tw hw 118 rfl) (tw hw 35 rfl) (tw hw 120 rfl) (con_sz hw FC AC (k := (1 : Int32)) rfl) (argsL := []) (W := 0) (rest := []) (by decide) (by decide) (by decide) (by decide) (by decide) (L := #[.val (.int nn), .val (.int fl), .val (.int pa), .val (.int pb), .val (.int pc'), .val (.int pd), .val (.int (1 : Int32)), .val (.ref y0), .val (.ref y1), .val (.ref y2), .val (.ref rc), .val (.ref b0), .val (.ref a4)]) rfl pd13 rfl (Nat.le_of_eq rfl) (pc := 166) (by decide +kernel)
  have g14 : Ld p e below T13 (mkF m 169 #[.val (.int nn), .val (.int fl), .val (.int pa), .val (.int pb), .val (.int pc'), .val (.int pd), .val (.int (1 : Int32)), .val (.ref y0), .val (.ref y1), .val (.ref y2), .val (.ref rc), .val (.ref b0), .val (.ref a4)] [(.int (1 : Int32))]) T13 (mkF m 184 #[.val (.int nn), .val (.int fl), .val (.int pa), .val (.int pb), .val (.int pc'), .val (.int pd), .val (.int (1 : Int32)), .val (.ref y0), .val (.ref y1), .val (.ref y2), .val (.ref rc), .val (.ref b0), .val (.ref a4)] [(.int (0 : Int32)), (.ref rc)]) := goRun K N13 #[] [(169, .iload 6, 2), (171, .if_icmp .eq 5, 3), (176, .iload 6, 2), (178, .ifCond .le 16, 3), (181, .aload 10, 2), (183, .iconst 0, 1)] [.ref 0, .null] (P := ((1 : Int32) = (1 : Int32)) ∧ ((0 : Int32) < (1 : Int32)) ∧ True) (by decide +kernel) rfl ⟨rfl, (by decide), trivial⟩
  obtain ⟨v15, T15, _, N15, ⟨rfl, rfl⟩, g15⟩ := goVi K N13 (a := rc) XR0 (tw hw 161 rfl) (tw hw 162 rfl) (tw hw 164 rfl) (tw hw 163 rfl) (tw hw 35 rfl) (tw hw 165 rfl) (con_gt hw FC AC (j := (0 : Int32)) (i := 0) rfl rfl) (argsL := [(.int (0 : Int32))]) (W := 0) (rest := []) (by decide) (by decide) (by decide) (by decide) (by decide) (L := #[.val (.int nn), .val (.int fl), .val (.int pa), .val (.int pb), .val (.int pc'), .val (.int pd), .val (.int (1 : Int32)), .val (.ref y0), .val (.ref y1), .val (.ref y2), .val (.ref rc), .val (.ref b0), .val (.ref a4)]) rfl pd14 rfl (Nat.le_of_eq rfl) (pc := 184) (by decide +kernel)
  have g16 : Ld p e below T15 (mkF m 187 #[.val (.int nn), .val (.int fl), .val (.int pa), .val (.int pb), .val (.int pc'), .val (.int pd), .val (.int (1 : Int32)), .val (.ref y0), .val (.ref y1), .val (.ref y2), .val (.ref rc), .val (.ref b0), .val (.ref a4)] [(.ref y0)]) T15 (mkF m 233 #[.val (.int nn), .val (.int fl), .val (.int pa), .val (.int pb), .val (.int pc'), .val (.int pd), .val (.int (1 : Int32)), .val (.ref y0), .val (.ref y1), .val (.ref y2), .val (.ref rc), .val (.ref b0), .val (.ref a4)] [(.int (1 : Int32))]) := goRun K N15 #[] [(187, .aload 7, 2), (189, .if_acmp .eq 5, 3), (194, .iload 6, 2), (196, .iconst 1, 1), (197, .if_icmp .le 16, 3), (213, .iload 6, 2), (215, .iconst 2, 1), (216, .if_icmp .le 16, 3), (232, .iconst 1, 1)] [.ref 0, .ref 0, .ref 0] (P := ((.ref y0 : Value) = (.ref y0 : Value)) ∧ (¬ (1 : Int32) < (1 : Int32)) ∧ (¬ (2 : Int32) < (1 : Int32)) ∧ True) (by decide +kernel) rfl ⟨rfl, (by decide), (by decide), trivial⟩
  exact ⟨T15, _, h10, _, _, N15, by decide, by decide, g1.trans (g2.trans (g3.trans (g4.trans (g5.trans (g6.trans (g7.trans (g8.trans (g9.trans (g10.trans (g11.trans (g12.trans (g13.trans (g14.trans (g15.trans g16)))))))))))))), sb1 ▸ finN K N15 hret (Or.inl rfl) (by decide +kernel)⟩
set_option maxHeartbeats 4000000 in
theorem roadA2 (hw : ∀ d ∈ tables_1, d.before a0 Z = true) {ca : Addr} {cl : Cell} {da mo ma mr : Addr} (sf : SF Z ca cl da mo ma mr) (K : Cx Z "com/example/headers_to_descriptors/headerstodescriptors/ReadOnlyItemsCopyOfPinLaw" code maxLocals p m c) (hret : meth.sig.returnType = ret) (O0 : Old Z n0 s.heap) (N : Nw Z n0 h p l e room_1 s m args below meth c T 3 3) (nn fl pa pb pc' pd : Int32) {y0 y1 y2 : Addr} (Y0 : Exa Z h y0 "java/lang/Integer") (Y1 : Exa Z h y1 "java/lang/Integer") (Y2 : Exa Z h y2 "java/lang/Integer") (q1 : ¬ (fl &&& (1 : Int32)) = (0 : Int32)) :
    Ends Z n0 p l e room_1 s m args below meth c T (mkF m 24 #[.val (.int nn), .val (.int fl), .val (.int pa), .val (.int pb), .val (.int pc'), .val (.int pd), .val (.int (2 : Int32)), .val (.ref y0), .val (.ref y1), .val (.ref y2), .unset, .unset, .unset] []) := by
  have g1 : Ld p e below T (mkF m 24 #[.val (.int nn), .val (.int fl), .val (.int pa), .val (.int pb), .val (.int pc'), .val (.int pd), .val (.int (2 : Int32)), .val (.ref y0), .val (.ref y1), .val (.ref y2), .unset, .unset, .unset] []) T (mkF m 30 #[.val (.int nn), .val (.int fl), .val (.int pa), .val (.int pb), .val (.int pc'), .val (.int pd), .val (.int (2 : Int32)), .val (.ref y0), .val (.ref y1), .val (.ref y2), .unset, .unset, .unset] []) := goRun K N #[] [(24, .iload_n 1, 1), (25, .iconst 1, 1), (26, .iand, 1), (27, .ifCond .eq 74, 3)] [.null] (P := (¬ (fl &&& (1 : Int32)) = (0 : Int32)) ∧ True) (by decide +kernel) rfl ⟨q1, trivial⟩
  obtain ⟨T2, h2, a2, ea2, N2, E2, X2, D2, g2⟩ := goNew K N (C := "java/util/ArrayList") (tw hw 7 rfl) (tw hw 8 rfl) (tw hw 9 rfl) (pc := 30) (L := #[.val (.int nn), .val (.int fl), .val (.int pa), .val (.int pb), .val (.int pc'), .val (.int pd), .val (.int (2 : Int32)), .val (.ref y0), .val (.ref y1), .val (.ref y2), .unset, .unset, .unset]) (S := []) (by decide +kernel) (by decide) (by decide)
  have ha2 : n0 ≤ a2 := ea2 ▸ N.size
  have FA : Fld Z h2 a2 "java/util/ArrayList" "elementData" "[Ljava/lang/Object;" .null := D2 (Or.inl (tw hw 32 rfl)) (ty := (.array (.object "java/lang/Object"))) (by decide)
  have FB : Fld Z h2 a2 "java/util/ArrayList" "size" "I" (.int 0) := D2 (Or.inl (tw hw 47 rfl)) (ty := .int) (by decide)
  have FD : Fld Z h2 a2 "java/util/AbstractList" "modCount" "I" (.int 0) := D2 (Or.inl (tw hw 29 rfl)) (ty := .int) (by decide)
  have Y0 := Y0.keep (keep_ext (ws := []) E2)
  have Y1 := Y1.keep (keep_ext (ws := []) E2)
  have Y2 := Y2.keep (keep_ext (ws := []) E2)
  have g3 : Ld p e below T2 (mkF m 33 #[.val (.int nn), .val (.int fl), .val (.int pa), .val (.int pb), .val (.int pc'), .val (.int pd), .val (.int (2 : Int32)), .val (.ref y0), .val (.ref y1), .val (.ref y2), .unset, .unset, .unset] [(.ref a2)]) T2 (mkF m 34 #[.val (.int nn), .val (.int fl), .val (.int pa), .val (.int pb), .val (.int pc'), .val (.int pd), .val (.int (2 : Int32)), .val (.ref y0), .val (.ref y1), .val (.ref y2), .unset, .unset, .unset] [(.ref a2), (.ref a2)]) := goRun K N2 #[] [(33, .dup, 1)] [] (P := True) (by decide +kernel) rfl trivial
  obtain ⟨v4, T4, h4, N4, ⟨rfl, KL, FL⟩, g4⟩ := goSp K N2 (a := a2) (tw hw 10 rfl) (tw hw 11 rfl) (tw hw 9 rfl) (tw hw 12 rfl) (con_al hw sf X2 FA FB FD ha2 (N2.old O0)) rfl (by decide) (argsL := []) (W := 1) (rest := [(.ref a2)]) (by decide) (by decide) (by decide) (by decide) (L := #[.val (.int nn), .val (.int fl), .val (.int pa), .val (.int pb), .val (.int pc'), .val (.int pd), .val (.int (2 : Int32)), .val (.ref y0), .val (.ref y1), .val (.ref y2), .unset, .unset, .unset]) rfl pd4 rfl (Nat.le_of_eq rfl) (pc := 34) (by decide +kernel)
  have Y0 := Y0.keep KL
  have Y1 := Y1.keep KL
  have Y2 := Y2.keep KL
  have g5 : Ld p e below T4 (mkF m 37 #[.val (.int nn), .val (.int fl), .val (.int pa), .val (.int pb), .val (.int pc'), .val (.int pd), .val (.int (2 : Int32)), .val (.ref y0), .val (.ref y1), .val (.ref y2), .unset, .unset, .unset] [(.ref a2)]) T4 (mkF m 48 #[.val (.int nn), .val (.int fl), .val (.int pa), .val (.int pb), .val (.int pc'), .val (.int pd), .val (.int (2 : Int32)), .val (.ref y0), .val (.ref y1), .val (.ref y2), .unset, .val (.ref a2), .unset] [(.ref y0), (.ref a2)]) := goRun K N4 #[] [(37, .astore 11, 2), (39, .iload 6, 2), (41, .ifCond .le 11, 3), (44, .aload 11, 2), (46, .aload 7, 2)] [.null] (P := ((0 : Int32) < (2 : Int32)) ∧ True) (by decide +kernel) rfl ⟨(by decide), trivial⟩
  obtain ⟨v6, T6, h6, N6, ⟨rfl, r0, LR, KA, FL, GL⟩, g6⟩ := goVi K N4 (a := a2) FL.1 (tw hw 89 rfl) (tw hw 90 rfl) (tw hw 92 rfl) (tw hw 91 rfl) (tw hw 9 rfl) (tw hw 93 rfl) (con_adg hw sf FL Y0 ha2 (N4.old O0)) (argsL := [(.ref y0)]) (W := 0) (rest := []) (by decide) (by decide) (by decide) (by decide) (by decide) (L := #[.val (.int nn), .val (.int fl), .val (.int pa), .val (.int pb), .val (.int pc'), .val (.int pd), .val (.int (2 : Int32)), .val (.ref y0), .val (.ref y1), .val (.ref y2), .unset, .val (.ref a2), .unset]) rfl pd5 rfl (Nat.le_of_eq rfl) (pc := 48) (by decide +kernel)
  have hr : n0 ≤ r0 := Nat.le_trans N4.size LR
  have EL : Els Z h6 (.ref y0 :: List.replicate 9 .null) := Els.cons (Y0.keep KA) (Els.rep 9)
  have Y0 := Y0.keep KA
  have Y1 := Y1.keep KA
  have Y2 := Y2.keep KA
  have g7 : Ld p e below T6 (mkF m 51 #[.val (.int nn), .val (.int fl), .val (.int pa), .val (.int pb), .val (.int pc'), .val (.int pd), .val (.int (2 : Int32)), .val (.ref y0), .val (.ref y1), .val (.ref y2), .unset, .val (.ref a2), .unset] [(.int (1 : Int32))]) T6 (mkF m 62 #[.val (.int nn), .val (.int fl), .val (.int pa), .val (.int pb), .val (.int pc'), .val (.int pd), .val (.int (2 : Int32)), .val (.ref y0), .val (.ref y1), .val (.ref y2), .unset, .val (.ref a2), .unset] [(.ref y1), (.ref a2)]) := goRun K N6 #[] [(51, .pop, 1), (52, .iload 6, 2), (54, .iconst 1, 1), (55, .if_icmp .le 11, 3), (58, .aload 11, 2), (60, .aload 8, 2)] [.null] (P := ((1 : Int32) < (2 : Int32)) ∧ True) (by decide +kernel) rfl ⟨(by decide), trivial⟩
  obtain ⟨v8, T8, h8, N8, ⟨rfl, KA, FL, GL⟩, g8⟩ := goVi K N6 (a := a2) FL.1 (tw hw 89 rfl) (tw hw 90 rfl) (tw hw 92 rfl) (tw hw 91 rfl) (tw hw 9 rfl) (tw hw 93 rfl) (con_adp hw FL GL (by simp) Y1 ha2 hr) (argsL := [(.ref y1)]) (W := 0) (rest := []) (by decide) (by decide) (by decide) (by decide) (by decide) (L := #[.val (.int nn), .val (.int fl), .val (.int pa), .val (.int pb), .val (.int pc'), .val (.int pd), .val (.int (2 : Int32)), .val (.ref y0), .val (.ref y1), .val (.ref y2), .unset, .val (.ref a2), .unset]) rfl pd5 rfl (Nat.le_of_eq rfl) (pc := 62) (by decide +kernel)
  have EL : Els Z h8 ((.ref y0 :: List.replicate 9 .null).set 1 (.ref y1)) := Els.set (Y1.keep KA) (EL.keep KA)
  have Y0 := Y0.keep KA
  have Y1 := Y1.keep KA
  have Y2 := Y2.keep KA
  have g9 : Ld p e below T8 (mkF m 65 #[.val (.int nn), .val (.int fl), .val (.int pa), .val (.int pb), .val (.int pc'), .val (.int pd), .val (.int (2 : Int32)), .val (.ref y0), .val (.ref y1), .val (.ref y2), .unset, .val (.ref a2), .unset] [(.int (1 : Int32))]) T8 (mkF m 82 #[.val (.int nn), .val (.int fl), .val (.int pa), .val (.int pb), .val (.int pc'), .val (.int pd), .val (.int (2 : Int32)), .val (.ref y0), .val (.ref y1), .val (.ref y2), .unset, .val (.ref a2), .unset] [(.ref a2)]) := goRun K N8 #[] [(65, .pop, 1), (66, .iload 6, 2), (68, .iconst 2, 1), (69, .if_icmp .le 11, 3), (80, .aload 11, 2)] [.ref 0] (P := (¬ (2 : Int32) < (2 : Int32)) ∧ True) (by decide +kernel) rfl ⟨(by decide), trivial⟩
  obtain ⟨v10, T10, h10, N10, ⟨rc, i0, rfl, KC, LC, LD, XR0, FC, AC⟩, g10⟩ := goS K N8 (tw hw 33 rfl) (tw hw 34 rfl) (tw hw 35 rfl) (tw hw 36 rfl) (con_coA hw sf GL.1 GL.2.1 EL (by simp) (by decide) (by simp) FL) (argsL := [(.ref a2)]) (W := 0) (rest := []) (by decide) (by decide) (by decide) (by decide) (by decide) (L := #[.val (.int nn), .val (.int fl), .val (.int pa), .val (.int pb), .val (.int pc'), .val (.int pd), .val (.int (2 : Int32)), .val (.ref y0), .val (.ref y1), .val (.ref y2), .unset, .val (.ref a2), .unset]) rfl pd11 rfl (Nat.le_of_eq rfl) (pc := 82) (by decide +kernel)
  have n1 : rc ≠ a2 := Ne.symm (Nat.ne_of_lt (Nat.lt_of_lt_of_le FL.1.lt LC))
  have n2 : i0 ≠ a2 := Ne.symm (Nat.ne_of_lt (Nat.lt_of_lt_of_le FL.1.lt LD))
  have n3 : rc ≠ r0 := Ne.symm (Nat.ne_of_lt (Nat.lt_of_lt_of_le GL.1.lt LC))
  have n4 : i0 ≠ r0 := Ne.symm (Nat.ne_of_lt (Nat.lt_of_lt_of_le GL.1.lt LD))
  have FL := FL.keep KC nin0
  have GL := GL.keep KC nin0
  have Y0 := Y0.keep KC
  have Y1 := Y1.keep KC
  have Y2 := Y2.keep KC
  have g11 : Ld p e below T10 (mkF m 85 #[.val (.int nn), .val (.int fl), .val (.int pa), .val (.int pb), .val (.int pc'), .val (.int pd), .val (.int (2 : Int32)), .val (.ref y0), .val (.ref y1), .val (.ref y2), .unset, .val (.ref a2), .unset] [(.ref rc)]) T10 (mkF m 91 #[.val (.int nn), .val (.int fl), .val (.int pa), .val (.int pb), .val (.int pc'), .val (.int pd), .val (.int (2 : Int32)), .val (.ref y0), .val (.ref y1), .val (.ref y2), .val (.ref rc), .val (.ref a2), .unset] [(.int pd), (.ref a2)]) := goRun K N10 #[] [(85, .astore 10, 2), (87, .aload 11, 2), (89, .iload 5, 2)] [] (P := True) (by decide +kernel) rfl trivial
  obtain ⟨v12, T12, h12, N12, ⟨yd, rfl, YD, KV⟩, g12⟩ := goS K N10 (tw hw 0 rfl) (tw hw 1 rfl) (tw hw 2 rfl) (tw hw 3 rfl) (con_vo hw sf pd (N10.old O0)) (argsL := [(.int pd)]) (W := 1) (rest := [(.ref a2)]) (by decide) (by decide) (by decide) (by decide) (by decide) (L := #[.val (.int nn), .val (.int fl), .val (.int pa), .val (.int pb), .val (.int pc'), .val (.int pd), .val (.int (2 : Int32)), .val (.ref y0), .val (.ref y1), .val (.ref y2), .val (.ref rc), .val (.ref a2), .unset]) rfl pd2 rfl (Nat.le_of_eq rfl) (pc := 91) (by decide +kernel)
  have FL := FL.keep KV nin0
  have FC := FC.keep KV nin0
  have XR0 := XR0.keep KV
  have AC := AC.keep KV nin0
  have GL := GL.keep KV nin0
  have Y0 := Y0.keep KV
  have Y1 := Y1.keep KV
  have Y2 := Y2.keep KV
  obtain ⟨v13, T13, h13, N13, ⟨rfl, KA, FL, GL⟩, g13⟩ := goVi K N12 (a := a2) FL.1 (tw hw 89 rfl) (tw hw 90 rfl) (tw hw 92 rfl) (tw hw 91 rfl) (tw hw 9 rfl) (tw hw 93 rfl) (con_adp hw FL GL (by simp) YD ha2 hr) (argsL := [(.ref yd)]) (W := 0) (rest := []) (by decide) (by decide) (by decide) (by decide) (by decide) (L := #[.val (.int nn), .val (.int fl), .val (.int pa), .val (.int pb), .val (.int pc'), .val (.int pd), .val (.int (2 : Int32)), .val (.ref y0), .val (.ref y1), .val (.ref y2), .val (.ref rc), .val (.ref a2), .unset]) rfl pd5 rfl (Nat.le_of_eq rfl) (pc := 94) (by decide +kernel)
  have FC := FC.keep KA (ninS n1 (ninS n3 nin0))
  have XR0 := XR0.keep KA
  have AC : Av Z h13 i0 (.object "java/lang/Object") [.ref y0, .ref y1] := AC.keep KA (ninS n2 (ninS n4 nin0))
  have Y0 := Y0.keep KA
  have Y1 := Y1.keep KA
  have Y2 := Y2.keep KA
  have g14 : Ld p e below T13 (mkF m 97 #[.val (.int nn), .val (.int fl), .val (.int pa), .val (.int pb), .val (.int pc'), .val (.int pd), .val (.int (2 : Int32)), .val (.ref y0), .val (.ref y1), .val (.ref y2), .val (.ref rc), .val (.ref a2), .unset] [(.int (1 : Int32))]) T13 (mkF m 166 #[.val (.int nn), .val (.int fl), .val (.int pa), .val (.int pb), .val (.int pc'), .val (.int pd), .val (.int (2 : Int32)), .val (.ref y0), .val (.ref y1), .val (.ref y2), .val (.ref rc), .val (.ref a2), .unset] [(.ref rc)]) := goRun K N13 #[] [(97, .pop, 1), (98, .goto 66, 3), (164, .aload 10, 2)] [] (P := True) (by decide +kernel) rfl trivial
  obtain ⟨v15, T15, _, N15, ⟨rfl, rfl⟩, g15⟩ := goVi K N13 (a := rc) XR0 (tw hw 116 rfl) (tw hw 117 rfl) (tw hw 119 rfl) (tw hw 118 rfl) (tw hw 35 rfl) (tw hw 120 rfl) (con_sz hw FC AC (k := (2 : Int32)) rfl) (argsL := []) (W := 0) (rest := []) (by decide) (by decide) (by decide) (by decide) (by decide) (L := #[.val (.int nn), .val (.int fl), .val (.int pa), .val (.int pb), .val (.int pc'), .val (.int pd), .val (.int (2 : Int32)), .val (.ref y0), .val (.ref y1), .val (.ref y2), .val (.ref rc), .val (.ref a2), .unset]) rfl pd13 rfl (Nat.le_of_eq rfl) (pc := 166) (by decide +kernel)
  have g16 : Ld p e below T15 (mkF m 169 #[.val (.int nn), .val (.int fl), .val (.int pa), .val (.int pb), .val (.int pc'), .val (.int pd), .val (.int (2 : Int32)), .val (.ref y0), .val (.ref y1), .val (.ref y2), .val (.ref rc), .val (.ref a2), .unset] [(.int (2 : Int32))]) T15 (mkF m 184 #[.val (.int nn), .val (.int fl), .val (.int pa), .val (.int pb), .val (.int pc'), .val (.int pd), .val (.int (2 : Int32)), .val (.ref y0), .val (.ref y1), .val (.ref y2), .val (.ref rc), .val (.ref a2), .unset] [(.int (0 : Int32)), (.ref rc)]) := goRun K N15 #[] [(169, .iload 6, 2), (171, .if_icmp .eq 5, 3), (176, .iload 6, 2), (178, .ifCond .le 16, 3), (181, .aload 10, 2), (183, .iconst 0, 1)] [.ref 0, .null] (P := ((2 : Int32) = (2 : Int32)) ∧ ((0 : Int32) < (2 : Int32)) ∧ True) (by decide +kernel) rfl ⟨rfl, (by decide), trivial⟩
  obtain ⟨v17, T17, _, N17, ⟨rfl, rfl⟩, g17⟩ := goVi K N15 (a := rc) XR0 (tw hw 161 rfl) (tw hw 162 rfl) (tw hw 164 rfl) (tw hw 163 rfl) (tw hw 35 rfl) (tw hw 165 rfl) (con_gt hw FC AC (j := (0 : Int32)) (i := 0) rfl rfl) (argsL := [(.int (0 : Int32))]) (W := 0) (rest := []) (by decide) (by decide) (by decide) (by decide) (by decide) (L := #[.val (.int nn), .val (.int fl), .val (.int pa), .val (.int pb), .val (.int pc'), .val (.int pd), .val (.int (2 : Int32)), .val (.ref y0), .val (.ref y1), .val (.ref y2), .val (.ref rc), .val (.ref a2), .unset]) rfl pd14 rfl (Nat.le_of_eq rfl) (pc := 184) (by decide +kernel)
  have g18 : Ld p e below T17 (mkF m 187 #[.val (.int nn), .val (.int fl), .val (.int pa), .val (.int pb), .val (.int pc'), .val (.int pd), .val (.int (2 : Int32)), .val (.ref y0), .val (.ref y1), .val (.ref y2), .val (.ref rc), .val (.ref a2), .unset] [(.ref y0)]) T17 (mkF m 203 #[.val (.int nn), .val (.int fl), .val (.int pa), .val (.int pb), .val (.int pc'), .val (.int pd), .val (.int (2 : Int32)), .val (.ref y0), .val (.ref y1), .val (.ref y2), .val (.ref rc), .val (.ref a2), .unset] [(.int (1 : Int32)), (.ref rc)]) := goRun K N17 #[] [(187, .aload 7, 2), (189, .if_acmp .eq 5, 3), (194, .iload 6, 2), (196, .iconst 1, 1), (197, .if_icmp .le 16, 3), (200, .aload 10, 2), (202, .iconst 1, 1)] [.ref 0, .null] (P := ((.ref y0 : Value) = (.ref y0 : Value)) ∧ ((1 : Int32) < (2 : Int32)) ∧ True) (by decide +kernel) rfl ⟨rfl, (by decide), trivial⟩
  obtain ⟨v19, T19, _, N19, ⟨rfl, rfl⟩, g19⟩ := goVi K N17 (a := rc) XR0 (tw hw 161 rfl) (tw hw 162 rfl) (tw hw 164 rfl) (tw hw 163 rfl) (tw hw 35 rfl) (tw hw 165 rfl) (con_gt hw FC AC (j := (1 : Int32)) (i := 1) rfl rfl) (argsL := [(.int (1 : Int32))]) (W := 0) (rest := []) (by decide) (by decide) (by decide) (by decide) (by decide) (L := #[.val (.int nn), .val (.int fl), .val (.int pa), .val (.int pb), .val (.int pc'), .val (.int pd), .val (.int (2 : Int32)), .val (.ref y0), .val (.ref y1), .val (.ref y2), .val (.ref rc), .val (.ref a2), .unset]) rfl pd14 rfl (Nat.le_of_eq rfl) (pc := 203) (by decide +kernel)
  have g20 : Ld p e below T19 (mkF m 206 #[.val (.int nn), .val (.int fl), .val (.int pa), .val (.int pb), .val (.int pc'), .val (.int pd), .val (.int (2 : Int32)), .val (.ref y0), .val (.ref y1), .val (.ref y2), .val (.ref rc), .val (.ref a2), .unset] [(.ref y1)]) T19 (mkF m 233 #[.val (.int nn), .val (.int fl), .val (.int pa), .val (.int pb), .val (.int pc'), .val (.int pd), .val (.int (2 : Int32)), .val (.ref y0), .val (.ref y1), .val (.ref y2), .val (.ref rc), .val (.ref a2), .unset] [(.int (1 : Int32))]) := goRun K N19 #[] [(206, .aload 8, 2), (208, .if_acmp .eq 5, 3), (213, .iload 6, 2), (215, .iconst 2, 1), (216, .if_icmp .le 16, 3), (232, .iconst 1, 1)] [.ref 0, .ref 0] (P := ((.ref y1 : Value) = (.ref y1 : Value)) ∧ (¬ (2 : Int32) < (2 : Int32)) ∧ True) (by decide +kernel) rfl ⟨rfl, (by decide), trivial⟩
  exact ⟨T19, _, h13, _, _, N19, by decide, by decide, g1.trans (g2.trans (g3.trans (g4.trans (g5.trans (g6.trans (g7.trans (g8.trans (g9.trans (g10.trans (g11.trans (g12.trans (g13.trans (g14.trans (g15.trans (g16.trans (g17.trans (g18.trans (g19.trans g20)))))))))))))))))), sb1 ▸ finN K N19 hret (Or.inl rfl) (by decide +kernel)⟩
set_option maxHeartbeats 4000000 in
theorem roadB2 (hw : ∀ d ∈ tables_1, d.before a0 Z = true) {ca : Addr} {cl : Cell} {da mo ma mr : Addr} (sf : SF Z ca cl da mo ma mr) (K : Cx Z "com/example/headers_to_descriptors/headerstodescriptors/ReadOnlyItemsCopyOfPinLaw" code maxLocals p m c) (hret : meth.sig.returnType = ret) (O0 : Old Z n0 s.heap) (N : Nw Z n0 h p l e room_1 s m args below meth c T 3 3) (nn fl pa pb pc' pd : Int32) {y0 y1 y2 : Addr} (Y0 : Exa Z h y0 "java/lang/Integer") (Y1 : Exa Z h y1 "java/lang/Integer") (Y2 : Exa Z h y2 "java/lang/Integer") (q1 : (fl &&& (1 : Int32)) = (0 : Int32)) :
    Ends Z n0 p l e room_1 s m args below meth c T (mkF m 24 #[.val (.int nn), .val (.int fl), .val (.int pa), .val (.int pb), .val (.int pc'), .val (.int pd), .val (.int (2 : Int32)), .val (.ref y0), .val (.ref y1), .val (.ref y2), .unset, .unset, .unset] []) := by
  have g1 : Ld p e below T (mkF m 24 #[.val (.int nn), .val (.int fl), .val (.int pa), .val (.int pb), .val (.int pc'), .val (.int pd), .val (.int (2 : Int32)), .val (.ref y0), .val (.ref y1), .val (.ref y2), .unset, .unset, .unset] []) T (mkF m 109 #[.val (.int nn), .val (.int fl), .val (.int pa), .val (.int pb), .val (.int pc'), .val (.int pd), .val (.int (2 : Int32)), .val (.ref y0), .val (.ref y1), .val (.ref y2), .unset, .unset, .unset] [(.ref y2), (.ref y1), (.ref y0), (.int (2 : Int32))]) := goRun K N #[] [(24, .iload_n 1, 1), (25, .iconst 1, 1), (26, .iand, 1), (27, .ifCond .eq 74, 3), (101, .iload 6, 2), (103, .aload 7, 2), (105, .aload 8, 2), (107, .aload 9, 2)] [.ref 0] (P := ((fl &&& (1 : Int32)) = (0 : Int32)) ∧ True) (by decide +kernel) rfl ⟨q1, trivial⟩
  obtain ⟨v2, T2, h2, N2, ⟨b0, rfl, LB, KB, GB⟩, g2⟩ := goS K N (tw hw 121 rfl) (tw hw 122 rfl) (tw hw 123 rfl) (tw hw 124 rfl) (con_pk2 hw Y0 Y1 Y2) (argsL := [(.int (2 : Int32)), (.ref y0), (.ref y1), (.ref y2)]) (W := 0) (rest := []) (by decide) (by decide) (by decide) (by decide) (by decide) (L := #[.val (.int nn), .val (.int fl), .val (.int pa), .val (.int pb), .val (.int pc'), .val (.int pd), .val (.int (2 : Int32)), .val (.ref y0), .val (.ref y1), .val (.ref y2), .unset, .unset, .unset]) rfl pd15 rfl (Nat.le_of_eq rfl) (pc := 109) (by decide +kernel)
  have hb0 : n0 ≤ b0 := Nat.le_trans N.size LB
  have Y0 := Y0.keep KB
  have Y1 := Y1.keep KB
  have Y2 := Y2.keep KB
  have g3 : Ld p e below T2 (mkF m 112 #[.val (.int nn), .val (.int fl), .val (.int pa), .val (.int pb), .val (.int pc'), .val (.int pd), .val (.int (2 : Int32)), .val (.ref y0), .val (.ref y1), .val (.ref y2), .unset, .unset, .unset] [(.ref b0)]) T2 (mkF m 114 #[.val (.int nn), .val (.int fl), .val (.int pa), .val (.int pb), .val (.int pc'), .val (.int pd), .val (.int (2 : Int32)), .val (.ref y0), .val (.ref y1), .val (.ref y2), .unset, .val (.ref b0), .unset] []) := goRun K N2 #[] [(112, .astore 11, 2)] [] (P := True) (by decide +kernel) rfl trivial
  obtain ⟨T4, h4, a4, ea4, N4, E4, X4, D4, g4⟩ := goNew K N2 (C := "com/example/headers_to_descriptors/headerstodescriptors/ReadOnlyItems") (tw hw 126 rfl) (tw hw 73 rfl) (tw hw 35 rfl) (pc := 114) (L := #[.val (.int nn), .val (.int fl), .val (.int pa), .val (.int pb), .val (.int pc'), .val (.int pd), .val (.int (2 : Int32)), .val (.ref y0), .val (.ref y1), .val (.ref y2), .unset, .val (.ref b0), .unset]) (S := []) (by decide +kernel) (by decide) (by decide)
  have ha4 : n0 ≤ a4 := ea4 ▸ N2.size
  have FI0 : Fld Z h4 a4 "com/example/headers_to_descriptors/headerstodescriptors/ReadOnlyItems" "items" "[Ljava/lang/Object;" .null := D4 (Or.inr (tw hw 88 rfl)) (ty := .array (.object "java/lang/Object")) (by decide)
  have FM0 : Fld Z h4 a4 "java/util/AbstractList" "modCount" "I" (.int 0) := D4 (Or.inl (tw hw 86 rfl)) (ty := .int) (by decide)
  have KE := keep_ext (ws := []) E4
  have Y0 := Y0.keep KE
  have Y1 := Y1.keep KE
  have Y2 := Y2.keep KE
  have GB := GB.keep KE nin0
  have g5 : Ld p e below T4 (mkF m 117 #[.val (.int nn), .val (.int fl), .val (.int pa), .val (.int pb), .val (.int pc'), .val (.int pd), .val (.int (2 : Int32)), .val (.ref y0), .val (.ref y1), .val (.ref y2), .unset, .val (.ref b0), .unset] [(.ref a4)]) T4 (mkF m 120 #[.val (.int nn), .val (.int fl), .val (.int pa), .val (.int pb), .val (.int pc'), .val (.int pd), .val (.int (2 : Int32)), .val (.ref y0), .val (.ref y1), .val (.ref y2), .unset, .val (.ref b0), .unset] [(.ref b0), (.ref a4), (.ref a4)]) := goRun K N4 #[] [(117, .dup, 1), (118, .aload 11, 2)] [] (P := True) (by decide +kernel) rfl trivial
  obtain ⟨v6, T6, h6, N6, ⟨rfl, KR, FR⟩, g6⟩ := goSp K N4 (a := a4) (tw hw 127 rfl) (tw hw 82 rfl) (tw hw 35 rfl) (tw hw 83 rfl) (con_ri hw (it := b0) X4 FI0 FM0 ha4) rfl (by decide) (argsL := [(.ref b0)]) (W := 1) (rest := [(.ref a4)]) (by decide) (by decide) (by decide) (by decide) (L := #[.val (.int nn), .val (.int fl), .val (.int pa), .val (.int pb), .val (.int pc'), .val (.int pd), .val (.int (2 : Int32)), .val (.ref y0), .val (.ref y1), .val (.ref y2), .unset, .val (.ref b0), .unset]) rfl pd12 rfl (Nat.le_of_eq rfl) (pc := 120) (by decide +kernel)
  have nb : b0 ≠ a4 := Av.ne_exa GB.1 X4 (tw hw 73 rfl) |>.symm
  have GB := GB.keep KR (ninS nb nin0)
  have Y0 := Y0.keep KR
  have Y1 := Y1.keep KR
  have Y2 := Y2.keep KR
  have XS := X4.keep KR
  have g7 : Ld p e below T6 (mkF m 123 #[.val (.int nn), .val (.int fl), .val (.int pa), .val (.int pb), .val (.int pc'), .val (.int pd), .val (.int (2 : Int32)), .val (.ref y0), .val (.ref y1), .val (.ref y2), .unset, .val (.ref b0), .unset] [(.ref a4)]) T6 (mkF m 127 #[.val (.int nn), .val (.int fl), .val (.int pa), .val (.int pb), .val (.int pc'), .val (.int pd), .val (.int (2 : Int32)), .val (.ref y0), .val (.ref y1), .val (.ref y2), .unset, .val (.ref b0), .val (.ref a4)] [(.ref a4)]) := goRun K N6 #[] [(123, .astore 12, 2), (125, .aload 12, 2)] [] (P := True) (by decide +kernel) rfl trivial
  obtain ⟨v8, T8, h8, N8, ⟨rc, i0, rfl, KC, LC, LD, XR0, FC, AC⟩, g8⟩ := goS K N6 (tw hw 33 rfl) (tw hw 34 rfl) (tw hw 35 rfl) (tw hw 36 rfl) (con_coR hw sf FR GB.1 XS GB.2.1 (Els.cons Y0 (Els.cons Y1 Els.nil)) (by simp)) (argsL := [(.ref a4)]) (W := 0) (rest := []) (by decide) (by decide) (by decide) (by decide) (by decide) (L := #[.val (.int nn), .val (.int fl), .val (.int pa), .val (.int pb), .val (.int pc'), .val (.int pd), .val (.int (2 : Int32)), .val (.ref y0), .val (.ref y1), .val (.ref y2), .unset, .val (.ref b0), .val (.ref a4)]) rfl pd11 rfl (Nat.le_of_eq rfl) (pc := 127) (by decide +kernel)
  have n1 : rc ≠ b0 := Ne.symm (Nat.ne_of_lt (Nat.lt_of_lt_of_le GB.1.lt LC))
  have n2 : i0 ≠ b0 := Ne.symm (Nat.ne_of_lt (Nat.lt_of_lt_of_le GB.1.lt LD))
  have GB := GB.keep KC nin0
  have g9 : Ld p e below T8 (mkF m 130 #[.val (.int nn), .val (.int fl), .val (.int pa), .val (.int pb), .val (.int pc'), .val (.int pd), .val (.int (2 : Int32)), .val (.ref y0), .val (.ref y1), .val (.ref y2), .unset, .val (.ref b0), .val (.ref a4)] [(.ref rc)]) T8 (mkF m 141 #[.val (.int nn), .val (.int fl), .val (.int pa), .val (.int pb), .val (.int pc'), .val (.int pd), .val (.int (2 : Int32)), .val (.ref y0), .val (.ref y1), .val (.ref y2), .val (.ref rc), .val (.ref b0), .val (.ref a4)] [(.null), (.int (0 : Int32)), (.ref b0)]) := goRun K N8 #[] [(130, .astore 10, 2), (132, .iload 6, 2), (134, .ifCond .le 8, 3), (137, .aload 11, 2), (139, .iconst 0, 1), (140, .aconst_null, 1)] [.null] (P := ((0 : Int32) < (2 : Int32)) ∧ True) (by decide +kernel) rfl ⟨(by decide), trivial⟩
  obtain ⟨T10, h10, N10, K10, A10, g10⟩ := avStO K N8 GB.1 GB.2.2 (v := .null) (Or.inl rfl) (j := (0 : Int32)) (i := 0) rfl (by simp) hb0 (pc := 141) (L := #[.val (.int nn), .val (.int fl), .val (.int pa), .val (.int pb), .val (.int pc'), .val (.int pd), .val (.int (2 : Int32)), .val (.ref y0), .val (.ref y1), .val (.ref y2), .val (.ref rc), .val (.ref b0), .val (.ref a4)]) (S := []) (by decide +kernel)
  have GB : Oa Z h10 b0 _ := ⟨A10, GB.2.1.keep K10, GB.2.2.keep K10⟩
  have FC := FC.keep K10 (ninS n1 nin0)
  have XR0 := XR0.keep K10
  have AC := AC.keep K10 (ninS n2 nin0)
  have g11 : Ld p e below T10 (mkF m 142 #[.val (.int nn), .val (.int fl), .val (.int pa), .val (.int pb), .val (.int pc'), .val (.int pd), .val (.int (2 : Int32)), .val (.ref y0), .val (.ref y1), .val (.ref y2), .val (.ref rc), .val (.ref b0), .val (.ref a4)] []) T10 (mkF m 152 #[.val (.int nn), .val (.int fl), .val (.int pa), .val (.int pb), .val (.int pc'), .val (.int pd), .val (.int (2 : Int32)), .val (.ref y0), .val (.ref y1), .val (.ref y2), .val (.ref rc), .val (.ref b0), .val (.ref a4)] [(.null), (.int (1 : Int32)), (.ref b0)]) := goRun K N10 #[] [(142, .iload 6, 2), (144, .iconst 1, 1), (145, .if_icmp .le 8, 3), (148, .aload 11, 2), (150, .iconst 1, 1), (151, .aconst_null, 1)] [.null] (P := ((1 : Int32) < (2 : Int32)) ∧ True) (by decide +kernel) rfl ⟨(by decide), trivial⟩
  obtain ⟨T12, h12, N12, K12, A12, g12⟩ := avStO K N10 GB.1 GB.2.2 (v := .null) (Or.inl rfl) (j := (1 : Int32)) (i := 1) rfl (by simp) hb0 (pc := 152) (L := #[.val (.int nn), .val (.int fl), .val (.int pa), .val (.int pb), .val (.int pc'), .val (.int pd), .val (.int (2 : Int32)), .val (.ref y0), .val (.ref y1), .val (.ref y2), .val (.ref rc), .val (.ref b0), .val (.ref a4)]) (S := []) (by decide +kernel)
  have GB : Oa Z h12 b0 _ := ⟨A12, GB.2.1.keep K12, GB.2.2.keep K12⟩
  have FC := FC.keep K12 (ninS n1 nin0)
  have XR0 := XR0.keep K12
  have AC := AC.keep K12 (ninS n2 nin0)
  have g13 : Ld p e below T12 (mkF m 153 #[.val (.int nn), .val (.int fl), .val (.int pa), .val (.int pb), .val (.int pc'), .val (.int pd), .val (.int (2 : Int32)), .val (.ref y0), .val (.ref y1), .val (.ref y2), .val (.ref rc), .val (.ref b0), .val (.ref a4)] []) T12 (mkF m 164 #[.val (.int nn), .val (.int fl), .val (.int pa), .val (.int pb), .val (.int pc'), .val (.int pd), .val (.int (2 : Int32)), .val (.ref y0), .val (.ref y1), .val (.ref y2), .val (.ref rc), .val (.ref b0), .val (.ref a4)] []) := goRun K N12 #[] [(153, .iload 6, 2), (155, .iconst 2, 1), (156, .if_icmp .le 8, 3)] [.ref 0] (P := (¬ (2 : Int32) < (2 : Int32)) ∧ True) (by decide +kernel) rfl ⟨(by decide), trivial⟩
  have g14 : Ld p e below T12 (mkF m 164 #[.val (.int nn), .val (.int fl), .val (.int pa), .val (.int pb), .val (.int pc'), .val (.int pd), .val (.int (2 : Int32)), .val (.ref y0), .val (.ref y1), .val (.ref y2), .val (.ref rc), .val (.ref b0), .val (.ref a4)] []) T12 (mkF m 166 #[.val (.int nn), .val (.int fl), .val (.int pa), .val (.int pb), .val (.int pc'), .val (.int pd), .val (.int (2 : Int32)), .val (.ref y0), .val (.ref y1), .val (.ref y2), .val (.ref rc), .val (.ref b0), .val (.ref a4)] [(.ref rc)]) := goRun K N12 #[] [(164, .aload 10, 2)] [] (P := True) (by decide +kernel) rfl trivial
  obtain ⟨v15, T15, _, N15, ⟨rfl, rfl⟩, g15⟩ := goVi K N12 (a := rc) XR0 (tw hw 116 rfl) (tw hw 117 rfl) (tw hw 119 rfl) (tw hw 118 rfl) (tw hw 35 rfl) (tw hw 120 rfl) (con_sz hw FC AC (k := (2 : Int32)) rfl) (argsL := []) (W := 0) (rest := []) (by decide) (by decide) (by decide) (by decide) (by decide) (L := #[.val (.int nn), .val (.int fl), .val (.int pa), .val (.int pb), .val (.int pc'), .val (.int pd), .val (.int (2 : Int32)), .val (.ref y0), .val (.ref y1), .val (.ref y2), .val (.ref rc), .val (.ref b0), .val (.ref a4)]) rfl pd13 rfl (Nat.le_of_eq rfl) (pc := 166) (by decide +kernel)
  have g16 : Ld p e below T15 (mkF m 169 #[.val (.int nn), .val (.int fl), .val (.int pa), .val (.int pb), .val (.int pc'), .val (.int pd), .val (.int (2 : Int32)), .val (.ref y0), .val (.ref y1), .val (.ref y2), .val (.ref rc), .val (.ref b0), .val (.ref a4)] [(.int (2 : Int32))]) T15 (mkF m 184 #[.val (.int nn), .val (.int fl), .val (.int pa), .val (.int pb), .val (.int pc'), .val (.int pd), .val (.int (2 : Int32)), .val (.ref y0), .val (.ref y1), .val (.ref y2), .val (.ref rc), .val (.ref b0), .val (.ref a4)] [(.int (0 : Int32)), (.ref rc)]) := goRun K N15 #[] [(169, .iload 6, 2), (171, .if_icmp .eq 5, 3), (176, .iload 6, 2), (178, .ifCond .le 16, 3), (181, .aload 10, 2), (183, .iconst 0, 1)] [.ref 0, .null] (P := ((2 : Int32) = (2 : Int32)) ∧ ((0 : Int32) < (2 : Int32)) ∧ True) (by decide +kernel) rfl ⟨rfl, (by decide), trivial⟩
  obtain ⟨v17, T17, _, N17, ⟨rfl, rfl⟩, g17⟩ := goVi K N15 (a := rc) XR0 (tw hw 161 rfl) (tw hw 162 rfl) (tw hw 164 rfl) (tw hw 163 rfl) (tw hw 35 rfl) (tw hw 165 rfl) (con_gt hw FC AC (j := (0 : Int32)) (i := 0) rfl rfl) (argsL := [(.int (0 : Int32))]) (W := 0) (rest := []) (by decide) (by decide) (by decide) (by decide) (by decide) (L := #[.val (.int nn), .val (.int fl), .val (.int pa), .val (.int pb), .val (.int pc'), .val (.int pd), .val (.int (2 : Int32)), .val (.ref y0), .val (.ref y1), .val (.ref y2), .val (.ref rc), .val (.ref b0), .val (.ref a4)]) rfl pd14 rfl (Nat.le_of_eq rfl) (pc := 184) (by decide +kernel)
  have g18 : Ld p e below T17 (mkF m 187 #[.val (.int nn), .val (.int fl), .val (.int pa), .val (.int pb), .val (.int pc'), .val (.int pd), .val (.int (2 : Int32)), .val (.ref y0), .val (.ref y1), .val (.ref y2), .val (.ref rc), .val (.ref b0), .val (.ref a4)] [(.ref y0)]) T17 (mkF m 203 #[.val (.int nn), .val (.int fl), .val (.int pa), .val (.int pb), .val (.int pc'), .val (.int pd), .val (.int (2 : Int32)), .val (.ref y0), .val (.ref y1), .val (.ref y2), .val (.ref rc), .val (.ref b0), .val (.ref a4)] [(.int (1 : Int32)), (.ref rc)]) := goRun K N17 #[] [(187, .aload 7, 2), (189, .if_acmp .eq 5, 3), (194, .iload 6, 2), (196, .iconst 1, 1), (197, .if_icmp .le 16, 3), (200, .aload 10, 2), (202, .iconst 1, 1)] [.ref 0, .null] (P := ((.ref y0 : Value) = (.ref y0 : Value)) ∧ ((1 : Int32) < (2 : Int32)) ∧ True) (by decide +kernel) rfl ⟨rfl, (by decide), trivial⟩
  obtain ⟨v19, T19, _, N19, ⟨rfl, rfl⟩, g19⟩ := goVi K N17 (a := rc) XR0 (tw hw 161 rfl) (tw hw 162 rfl) (tw hw 164 rfl) (tw hw 163 rfl) (tw hw 35 rfl) (tw hw 165 rfl) (con_gt hw FC AC (j := (1 : Int32)) (i := 1) rfl rfl) (argsL := [(.int (1 : Int32))]) (W := 0) (rest := []) (by decide) (by decide) (by decide) (by decide) (by decide) (L := #[.val (.int nn), .val (.int fl), .val (.int pa), .val (.int pb), .val (.int pc'), .val (.int pd), .val (.int (2 : Int32)), .val (.ref y0), .val (.ref y1), .val (.ref y2), .val (.ref rc), .val (.ref b0), .val (.ref a4)]) rfl pd14 rfl (Nat.le_of_eq rfl) (pc := 203) (by decide +kernel)
  have g20 : Ld p e below T19 (mkF m 206 #[.val (.int nn), .val (.int fl), .val (.int pa), .val (.int pb), .val (.int pc'), .val (.int pd), .val (.int (2 : Int32)), .val (.ref y0), .val (.ref y1), .val (.ref y2), .val (.ref rc), .val (.ref b0), .val (.ref a4)] [(.ref y1)]) T19 (mkF m 233 #[.val (.int nn), .val (.int fl), .val (.int pa), .val (.int pb), .val (.int pc'), .val (.int pd), .val (.int (2 : Int32)), .val (.ref y0), .val (.ref y1), .val (.ref y2), .val (.ref rc), .val (.ref b0), .val (.ref a4)] [(.int (1 : Int32))]) := goRun K N19 #[] [(206, .aload 8, 2), (208, .if_acmp .eq 5, 3), (213, .iload 6, 2), (215, .iconst 2, 1), (216, .if_icmp .le 16, 3), (232, .iconst 1, 1)] [.ref 0, .ref 0] (P := ((.ref y1 : Value) = (.ref y1 : Value)) ∧ (¬ (2 : Int32) < (2 : Int32)) ∧ True) (by decide +kernel) rfl ⟨rfl, (by decide), trivial⟩
  exact ⟨T19, _, h12, _, _, N19, by decide, by decide, g1.trans (g2.trans (g3.trans (g4.trans (g5.trans (g6.trans (g7.trans (g8.trans (g9.trans (g10.trans (g11.trans (g12.trans (g13.trans (g14.trans (g15.trans (g16.trans (g17.trans (g18.trans (g19.trans g20)))))))))))))))))), sb1 ▸ finN K N19 hret (Or.inl rfl) (by decide +kernel)⟩
set_option maxHeartbeats 4000000 in
theorem roadA3 (hw : ∀ d ∈ tables_1, d.before a0 Z = true) {ca : Addr} {cl : Cell} {da mo ma mr : Addr} (sf : SF Z ca cl da mo ma mr) (K : Cx Z "com/example/headers_to_descriptors/headerstodescriptors/ReadOnlyItemsCopyOfPinLaw" code maxLocals p m c) (hret : meth.sig.returnType = ret) (O0 : Old Z n0 s.heap) (N : Nw Z n0 h p l e room_1 s m args below meth c T 3 3) (nn fl pa pb pc' pd : Int32) {y0 y1 y2 : Addr} (Y0 : Exa Z h y0 "java/lang/Integer") (Y1 : Exa Z h y1 "java/lang/Integer") (Y2 : Exa Z h y2 "java/lang/Integer") (q1 : ¬ (fl &&& (1 : Int32)) = (0 : Int32)) :
    Ends Z n0 p l e room_1 s m args below meth c T (mkF m 24 #[.val (.int nn), .val (.int fl), .val (.int pa), .val (.int pb), .val (.int pc'), .val (.int pd), .val (.int (3 : Int32)), .val (.ref y0), .val (.ref y1), .val (.ref y2), .unset, .unset, .unset] []) := by
  have g1 : Ld p e below T (mkF m 24 #[.val (.int nn), .val (.int fl), .val (.int pa), .val (.int pb), .val (.int pc'), .val (.int pd), .val (.int (3 : Int32)), .val (.ref y0), .val (.ref y1), .val (.ref y2), .unset, .unset, .unset] []) T (mkF m 30 #[.val (.int nn), .val (.int fl), .val (.int pa), .val (.int pb), .val (.int pc'), .val (.int pd), .val (.int (3 : Int32)), .val (.ref y0), .val (.ref y1), .val (.ref y2), .unset, .unset, .unset] []) := goRun K N #[] [(24, .iload_n 1, 1), (25, .iconst 1, 1), (26, .iand, 1), (27, .ifCond .eq 74, 3)] [.null] (P := (¬ (fl &&& (1 : Int32)) = (0 : Int32)) ∧ True) (by decide +kernel) rfl ⟨q1, trivial⟩
  obtain ⟨T2, h2, a2, ea2, N2, E2, X2, D2, g2⟩ := goNew K N (C := "java/util/ArrayList") (tw hw 7 rfl) (tw hw 8 rfl) (tw hw 9 rfl) (pc := 30) (L := #[.val (.int nn), .val (.int fl), .val (.int pa), .val (.int pb), .val (.int pc'), .val (.int pd), .val (.int (3 : Int32)), .val (.ref y0), .val (.ref y1), .val (.ref y2), .unset, .unset, .unset]) (S := []) (by decide +kernel) (by decide) (by decide)
  have ha2 : n0 ≤ a2 := ea2 ▸ N.size
  have FA : Fld Z h2 a2 "java/util/ArrayList" "elementData" "[Ljava/lang/Object;" .null := D2 (Or.inl (tw hw 32 rfl)) (ty := (.array (.object "java/lang/Object"))) (by decide)
  have FB : Fld Z h2 a2 "java/util/ArrayList" "size" "I" (.int 0) := D2 (Or.inl (tw hw 47 rfl)) (ty := .int) (by decide)
  have FD : Fld Z h2 a2 "java/util/AbstractList" "modCount" "I" (.int 0) := D2 (Or.inl (tw hw 29 rfl)) (ty := .int) (by decide)
  have Y0 := Y0.keep (keep_ext (ws := []) E2)
  have Y1 := Y1.keep (keep_ext (ws := []) E2)
  have Y2 := Y2.keep (keep_ext (ws := []) E2)
  have g3 : Ld p e below T2 (mkF m 33 #[.val (.int nn), .val (.int fl), .val (.int pa), .val (.int pb), .val (.int pc'), .val (.int pd), .val (.int (3 : Int32)), .val (.ref y0), .val (.ref y1), .val (.ref y2), .unset, .unset, .unset] [(.ref a2)]) T2 (mkF m 34 #[.val (.int nn), .val (.int fl), .val (.int pa), .val (.int pb), .val (.int pc'), .val (.int pd), .val (.int (3 : Int32)), .val (.ref y0), .val (.ref y1), .val (.ref y2), .unset, .unset, .unset] [(.ref a2), (.ref a2)]) := goRun K N2 #[] [(33, .dup, 1)] [] (P := True) (by decide +kernel) rfl trivial
  obtain ⟨v4, T4, h4, N4, ⟨rfl, KL, FL⟩, g4⟩ := goSp K N2 (a := a2) (tw hw 10 rfl) (tw hw 11 rfl) (tw hw 9 rfl) (tw hw 12 rfl) (con_al hw sf X2 FA FB FD ha2 (N2.old O0)) rfl (by decide) (argsL := []) (W := 1) (rest := [(.ref a2)]) (by decide) (by decide) (by decide) (by decide) (L := #[.val (.int nn), .val (.int fl), .val (.int pa), .val (.int pb), .val (.int pc'), .val (.int pd), .val (.int (3 : Int32)), .val (.ref y0), .val (.ref y1), .val (.ref y2), .unset, .unset, .unset]) rfl pd4 rfl (Nat.le_of_eq rfl) (pc := 34) (by decide +kernel)
  have Y0 := Y0.keep KL
  have Y1 := Y1.keep KL
  have Y2 := Y2.keep KL
  have g5 : Ld p e below T4 (mkF m 37 #[.val (.int nn), .val (.int fl), .val (.int pa), .val (.int pb), .val (.int pc'), .val (.int pd), .val (.int (3 : Int32)), .val (.ref y0), .val (.ref y1), .val (.ref y2), .unset, .unset, .unset] [(.ref a2)]) T4 (mkF m 48 #[.val (.int nn), .val (.int fl), .val (.int pa), .val (.int pb), .val (.int pc'), .val (.int pd), .val (.int (3 : Int32)), .val (.ref y0), .val (.ref y1), .val (.ref y2), .unset, .val (.ref a2), .unset] [(.ref y0), (.ref a2)]) := goRun K N4 #[] [(37, .astore 11, 2), (39, .iload 6, 2), (41, .ifCond .le 11, 3), (44, .aload 11, 2), (46, .aload 7, 2)] [.null] (P := ((0 : Int32) < (3 : Int32)) ∧ True) (by decide +kernel) rfl ⟨(by decide), trivial⟩
  obtain ⟨v6, T6, h6, N6, ⟨rfl, r0, LR, KA, FL, GL⟩, g6⟩ := goVi K N4 (a := a2) FL.1 (tw hw 89 rfl) (tw hw 90 rfl) (tw hw 92 rfl) (tw hw 91 rfl) (tw hw 9 rfl) (tw hw 93 rfl) (con_adg hw sf FL Y0 ha2 (N4.old O0)) (argsL := [(.ref y0)]) (W := 0) (rest := []) (by decide) (by decide) (by decide) (by decide) (by decide) (L := #[.val (.int nn), .val (.int fl), .val (.int pa), .val (.int pb), .val (.int pc'), .val (.int pd), .val (.int (3 : Int32)), .val (.ref y0), .val (.ref y1), .val (.ref y2), .unset, .val (.ref a2), .unset]) rfl pd5 rfl (Nat.le_of_eq rfl) (pc := 48) (by decide +kernel)
  have hr : n0 ≤ r0 := Nat.le_trans N4.size LR
  have EL : Els Z h6 (.ref y0 :: List.replicate 9 .null) := Els.cons (Y0.keep KA) (Els.rep 9)
  have Y0 := Y0.keep KA
  have Y1 := Y1.keep KA
  have Y2 := Y2.keep KA
  have g7 : Ld p e below T6 (mkF m 51 #[.val (.int nn), .val (.int fl), .val (.int pa), .val (.int pb), .val (.int pc'), .val (.int pd), .val (.int (3 : Int32)), .val (.ref y0), .val (.ref y1), .val (.ref y2), .unset, .val (.ref a2), .unset] [(.int (1 : Int32))]) T6 (mkF m 62 #[.val (.int nn), .val (.int fl), .val (.int pa), .val (.int pb), .val (.int pc'), .val (.int pd), .val (.int (3 : Int32)), .val (.ref y0), .val (.ref y1), .val (.ref y2), .unset, .val (.ref a2), .unset] [(.ref y1), (.ref a2)]) := goRun K N6 #[] [(51, .pop, 1), (52, .iload 6, 2), (54, .iconst 1, 1), (55, .if_icmp .le 11, 3), (58, .aload 11, 2), (60, .aload 8, 2)] [.null] (P := ((1 : Int32) < (3 : Int32)) ∧ True) (by decide +kernel) rfl ⟨(by decide), trivial⟩
  obtain ⟨v8, T8, h8, N8, ⟨rfl, KA, FL, GL⟩, g8⟩ := goVi K N6 (a := a2) FL.1 (tw hw 89 rfl) (tw hw 90 rfl) (tw hw 92 rfl) (tw hw 91 rfl) (tw hw 9 rfl) (tw hw 93 rfl) (con_adp hw FL GL (by simp) Y1 ha2 hr) (argsL := [(.ref y1)]) (W := 0) (rest := []) (by decide) (by decide) (by decide) (by decide) (by decide) (L := #[.val (.int nn), .val (.int fl), .val (.int pa), .val (.int pb), .val (.int pc'), .val (.int pd), .val (.int (3 : Int32)), .val (.ref y0), .val (.ref y1), .val (.ref y2), .unset, .val (.ref a2), .unset]) rfl pd5 rfl (Nat.le_of_eq rfl) (pc := 62) (by decide +kernel)
  have EL : Els Z h8 ((.ref y0 :: List.replicate 9 .null).set 1 (.ref y1)) := Els.set (Y1.keep KA) (EL.keep KA)
  have Y0 := Y0.keep KA
  have Y1 := Y1.keep KA
  have Y2 := Y2.keep KA
  have g9 : Ld p e below T8 (mkF m 65 #[.val (.int nn), .val (.int fl), .val (.int pa), .val (.int pb), .val (.int pc'), .val (.int pd), .val (.int (3 : Int32)), .val (.ref y0), .val (.ref y1), .val (.ref y2), .unset, .val (.ref a2), .unset] [(.int (1 : Int32))]) T8 (mkF m 76 #[.val (.int nn), .val (.int fl), .val (.int pa), .val (.int pb), .val (.int pc'), .val (.int pd), .val (.int (3 : Int32)), .val (.ref y0), .val (.ref y1), .val (.ref y2), .unset, .val (.ref a2), .unset] [(.ref y2), (.ref a2)]) := goRun K N8 #[] [(65, .pop, 1), (66, .iload 6, 2), (68, .iconst 2, 1), (69, .if_icmp .le 11, 3), (72, .aload 11, 2), (74, .aload 9, 2)] [.null] (P := ((2 : Int32) < (3 : Int32)) ∧ True) (by decide +kernel) rfl ⟨(by decide), trivial⟩
  obtain ⟨v10, T10, h10, N10, ⟨rfl, KA, FL, GL⟩, g10⟩ := goVi K N8 (a := a2) FL.1 (tw hw 89 rfl) (tw hw 90 rfl) (tw hw 92 rfl) (tw hw 91 rfl) (tw hw 9 rfl) (tw hw 93 rfl) (con_adp hw FL GL (by simp) Y2 ha2 hr) (argsL := [(.ref y2)]) (W := 0) (rest := []) (by decide) (by decide) (by decide) (by decide) (by decide) (L := #[.val (.int nn), .val (.int fl), .val (.int pa), .val (.int pb), .val (.int pc'), .val (.int pd), .val (.int (3 : Int32)), .val (.ref y0), .val (.ref y1), .val (.ref y2), .unset, .val (.ref a2), .unset]) rfl pd5 rfl (Nat.le_of_eq rfl) (pc := 76) (by decide +kernel)
  have EL : Els Z h10 (((.ref y0 :: List.replicate 9 .null).set 1 (.ref y1)).set 2 (.ref y2)) := Els.set (Y2.keep KA) (EL.keep KA)
  have Y0 := Y0.keep KA
  have Y1 := Y1.keep KA
  have Y2 := Y2.keep KA
  have g11 : Ld p e below T10 (mkF m 79 #[.val (.int nn), .val (.int fl), .val (.int pa), .val (.int pb), .val (.int pc'), .val (.int pd), .val (.int (3 : Int32)), .val (.ref y0), .val (.ref y1), .val (.ref y2), .unset, .val (.ref a2), .unset] [(.int (1 : Int32))]) T10 (mkF m 82 #[.val (.int nn), .val (.int fl), .val (.int pa), .val (.int pb), .val (.int pc'), .val (.int pd), .val (.int (3 : Int32)), .val (.ref y0), .val (.ref y1), .val (.ref y2), .unset, .val (.ref a2), .unset] [(.ref a2)]) := goRun K N10 #[] [(79, .pop, 1), (80, .aload 11, 2)] [] (P := True) (by decide +kernel) rfl trivial
  obtain ⟨v12, T12, h12, N12, ⟨rc, i0, rfl, KC, LC, LD, XR0, FC, AC⟩, g12⟩ := goS K N10 (tw hw 33 rfl) (tw hw 34 rfl) (tw hw 35 rfl) (tw hw 36 rfl) (con_coA hw sf GL.1 GL.2.1 EL (by simp) (by decide) (by simp) FL) (argsL := [(.ref a2)]) (W := 0) (rest := []) (by decide) (by decide) (by decide) (by decide) (by decide) (L := #[.val (.int nn), .val (.int fl), .val (.int pa), .val (.int pb), .val (.int pc'), .val (.int pd), .val (.int (3 : Int32)), .val (.ref y0), .val (.ref y1), .val (.ref y2), .unset, .val (.ref a2), .unset]) rfl pd11 rfl (Nat.le_of_eq rfl) (pc := 82) (by decide +kernel)
  have n1 : rc ≠ a2 := Ne.symm (Nat.ne_of_lt (Nat.lt_of_lt_of_le FL.1.lt LC))
  have n2 : i0 ≠ a2 := Ne.symm (Nat.ne_of_lt (Nat.lt_of_lt_of_le FL.1.lt LD))
  have n3 : rc ≠ r0 := Ne.symm (Nat.ne_of_lt (Nat.lt_of_lt_of_le GL.1.lt LC))
  have n4 : i0 ≠ r0 := Ne.symm (Nat.ne_of_lt (Nat.lt_of_lt_of_le GL.1.lt LD))
  have FL := FL.keep KC nin0
  have GL := GL.keep KC nin0
  have Y0 := Y0.keep KC
  have Y1 := Y1.keep KC
  have Y2 := Y2.keep KC
  have g13 : Ld p e below T12 (mkF m 85 #[.val (.int nn), .val (.int fl), .val (.int pa), .val (.int pb), .val (.int pc'), .val (.int pd), .val (.int (3 : Int32)), .val (.ref y0), .val (.ref y1), .val (.ref y2), .unset, .val (.ref a2), .unset] [(.ref rc)]) T12 (mkF m 91 #[.val (.int nn), .val (.int fl), .val (.int pa), .val (.int pb), .val (.int pc'), .val (.int pd), .val (.int (3 : Int32)), .val (.ref y0), .val (.ref y1), .val (.ref y2), .val (.ref rc), .val (.ref a2), .unset] [(.int pd), (.ref a2)]) := goRun K N12 #[] [(85, .astore 10, 2), (87, .aload 11, 2), (89, .iload 5, 2)] [] (P := True) (by decide +kernel) rfl trivial
  obtain ⟨v14, T14, h14, N14, ⟨yd, rfl, YD, KV⟩, g14⟩ := goS K N12 (tw hw 0 rfl) (tw hw 1 rfl) (tw hw 2 rfl) (tw hw 3 rfl) (con_vo hw sf pd (N12.old O0)) (argsL := [(.int pd)]) (W := 1) (rest := [(.ref a2)]) (by decide) (by decide) (by decide) (by decide) (by decide) (L := #[.val (.int nn), .val (.int fl), .val (.int pa), .val (.int pb), .val (.int pc'), .val (.int pd), .val (.int (3 : Int32)), .val (.ref y0), .val (.ref y1), .val (.ref y2), .val (.ref rc), .val (.ref a2), .unset]) rfl pd2 rfl (Nat.le_of_eq rfl) (pc := 91) (by decide +kernel)
  have FL := FL.keep KV nin0
  have FC := FC.keep KV nin0
  have XR0 := XR0.keep KV
  have AC := AC.keep KV nin0
  have GL := GL.keep KV nin0
  have Y0 := Y0.keep KV
  have Y1 := Y1.keep KV
  have Y2 := Y2.keep KV
  obtain ⟨v15, T15, h15, N15, ⟨rfl, KA, FL, GL⟩, g15⟩ := goVi K N14 (a := a2) FL.1 (tw hw 89 rfl) (tw hw 90 rfl) (tw hw 92 rfl) (tw hw 91 rfl) (tw hw 9 rfl) (tw hw 93 rfl) (con_adp hw FL GL (by simp) YD ha2 hr) (argsL := [(.ref yd)]) (W := 0) (rest := []) (by decide) (by decide) (by decide) (by decide) (by decide) (L := #[.val (.int nn), .val (.int fl), .val (.int pa), .val (.int pb), .val (.int pc'), .val (.int pd), .val (.int (3 : Int32)), .val (.ref y0), .val (.ref y1), .val (.ref y2), .val (.ref rc), .val (.ref a2), .unset]) rfl pd5 rfl (Nat.le_of_eq rfl) (pc := 94) (by decide +kernel)
  have FC := FC.keep KA (ninS n1 (ninS n3 nin0))
  have XR0 := XR0.keep KA
  have AC : Av Z h15 i0 (.object "java/lang/Object") [.ref y0, .ref y1, .ref y2] := AC.keep KA (ninS n2 (ninS n4 nin0))
  have Y0 := Y0.keep KA
  have Y1 := Y1.keep KA
  have Y2 := Y2.keep KA
  have g16 : Ld p e below T15 (mkF m 97 #[.val (.int nn), .val (.int fl), .val (.int pa), .val (.int pb), .val (.int pc'), .val (.int pd), .val (.int (3 : Int32)), .val (.ref y0), .val (.ref y1), .val (.ref y2), .val (.ref rc), .val (.ref a2), .unset] [(.int (1 : Int32))]) T15 (mkF m 166 #[.val (.int nn), .val (.int fl), .val (.int pa), .val (.int pb), .val (.int pc'), .val (.int pd), .val (.int (3 : Int32)), .val (.ref y0), .val (.ref y1), .val (.ref y2), .val (.ref rc), .val (.ref a2), .unset] [(.ref rc)]) := goRun K N15 #[] [(97, .pop, 1), (98, .goto 66, 3), (164, .aload 10, 2)] [] (P := True) (by decide +kernel) rfl trivial
  obtain ⟨v17, T17, _, N17, ⟨rfl, rfl⟩, g17⟩ := goVi K N15 (a := rc) XR0 (tw hw 116 rfl) (tw hw 117 rfl) (tw hw 119 rfl) (tw hw 118 rfl) (tw hw 35 rfl) (tw hw 120 rfl) (con_sz hw FC AC (k := (3 : Int32)) rfl) (argsL := []) (W := 0) (rest := []) (by decide) (by decide) (by decide) (by decide) (by decide) (L := #[.val (.int nn), .val (.int fl), .val (.int pa), .val (.int pb), .val (.int pc'), .val (.int pd), .val (.int (3 : Int32)), .val (.ref y0), .val (.ref y1), .val (.ref y2), .val (.ref rc), .val (.ref a2), .unset]) rfl pd13 rfl (Nat.le_of_eq rfl) (pc := 166) (by decide +kernel)
  have g18 : Ld p e below T17 (mkF m 169 #[.val (.int nn), .val (.int fl), .val (.int pa), .val (.int pb), .val (.int pc'), .val (.int pd), .val (.int (3 : Int32)), .val (.ref y0), .val (.ref y1), .val (.ref y2), .val (.ref rc), .val (.ref a2), .unset] [(.int (3 : Int32))]) T17 (mkF m 184 #[.val (.int nn), .val (.int fl), .val (.int pa), .val (.int pb), .val (.int pc'), .val (.int pd), .val (.int (3 : Int32)), .val (.ref y0), .val (.ref y1), .val (.ref y2), .val (.ref rc), .val (.ref a2), .unset] [(.int (0 : Int32)), (.ref rc)]) := goRun K N17 #[] [(169, .iload 6, 2), (171, .if_icmp .eq 5, 3), (176, .iload 6, 2), (178, .ifCond .le 16, 3), (181, .aload 10, 2), (183, .iconst 0, 1)] [.ref 0, .null] (P := ((3 : Int32) = (3 : Int32)) ∧ ((0 : Int32) < (3 : Int32)) ∧ True) (by decide +kernel) rfl ⟨rfl, (by decide), trivial⟩
  obtain ⟨v19, T19, _, N19, ⟨rfl, rfl⟩, g19⟩ := goVi K N17 (a := rc) XR0 (tw hw 161 rfl) (tw hw 162 rfl) (tw hw 164 rfl) (tw hw 163 rfl) (tw hw 35 rfl) (tw hw 165 rfl) (con_gt hw FC AC (j := (0 : Int32)) (i := 0) rfl rfl) (argsL := [(.int (0 : Int32))]) (W := 0) (rest := []) (by decide) (by decide) (by decide) (by decide) (by decide) (L := #[.val (.int nn), .val (.int fl), .val (.int pa), .val (.int pb), .val (.int pc'), .val (.int pd), .val (.int (3 : Int32)), .val (.ref y0), .val (.ref y1), .val (.ref y2), .val (.ref rc), .val (.ref a2), .unset]) rfl pd14 rfl (Nat.le_of_eq rfl) (pc := 184) (by decide +kernel)
  have g20 : Ld p e below T19 (mkF m 187 #[.val (.int nn), .val (.int fl), .val (.int pa), .val (.int pb), .val (.int pc'), .val (.int pd), .val (.int (3 : Int32)), .val (.ref y0), .val (.ref y1), .val (.ref y2), .val (.ref rc), .val (.ref a2), .unset] [(.ref y0)]) T19 (mkF m 203 #[.val (.int nn), .val (.int fl), .val (.int pa), .val (.int pb), .val (.int pc'), .val (.int pd), .val (.int (3 : Int32)), .val (.ref y0), .val (.ref y1), .val (.ref y2), .val (.ref rc), .val (.ref a2), .unset] [(.int (1 : Int32)), (.ref rc)]) := goRun K N19 #[] [(187, .aload 7, 2), (189, .if_acmp .eq 5, 3), (194, .iload 6, 2), (196, .iconst 1, 1), (197, .if_icmp .le 16, 3), (200, .aload 10, 2), (202, .iconst 1, 1)] [.ref 0, .null] (P := ((.ref y0 : Value) = (.ref y0 : Value)) ∧ ((1 : Int32) < (3 : Int32)) ∧ True) (by decide +kernel) rfl ⟨rfl, (by decide), trivial⟩
  obtain ⟨v21, T21, _, N21, ⟨rfl, rfl⟩, g21⟩ := goVi K N19 (a := rc) XR0 (tw hw 161 rfl) (tw hw 162 rfl) (tw hw 164 rfl) (tw hw 163 rfl) (tw hw 35 rfl) (tw hw 165 rfl) (con_gt hw FC AC (j := (1 : Int32)) (i := 1) rfl rfl) (argsL := [(.int (1 : Int32))]) (W := 0) (rest := []) (by decide) (by decide) (by decide) (by decide) (by decide) (L := #[.val (.int nn), .val (.int fl), .val (.int pa), .val (.int pb), .val (.int pc'), .val (.int pd), .val (.int (3 : Int32)), .val (.ref y0), .val (.ref y1), .val (.ref y2), .val (.ref rc), .val (.ref a2), .unset]) rfl pd14 rfl (Nat.le_of_eq rfl) (pc := 203) (by decide +kernel)
  have g22 : Ld p e below T21 (mkF m 206 #[.val (.int nn), .val (.int fl), .val (.int pa), .val (.int pb), .val (.int pc'), .val (.int pd), .val (.int (3 : Int32)), .val (.ref y0), .val (.ref y1), .val (.ref y2), .val (.ref rc), .val (.ref a2), .unset] [(.ref y1)]) T21 (mkF m 222 #[.val (.int nn), .val (.int fl), .val (.int pa), .val (.int pb), .val (.int pc'), .val (.int pd), .val (.int (3 : Int32)), .val (.ref y0), .val (.ref y1), .val (.ref y2), .val (.ref rc), .val (.ref a2), .unset] [(.int (2 : Int32)), (.ref rc)]) := goRun K N21 #[] [(206, .aload 8, 2), (208, .if_acmp .eq 5, 3), (213, .iload 6, 2), (215, .iconst 2, 1), (216, .if_icmp .le 16, 3), (219, .aload 10, 2), (221, .iconst 2, 1)] [.ref 0, .null] (P := ((.ref y1 : Value) = (.ref y1 : Value)) ∧ ((2 : Int32) < (3 : Int32)) ∧ True) (by decide +kernel) rfl ⟨rfl, (by decide), trivial⟩
  obtain ⟨v23, T23, _, N23, ⟨rfl, rfl⟩, g23⟩ := goVi K N21 (a := rc) XR0 (tw hw 161 rfl) (tw hw 162 rfl) (tw hw 164 rfl) (tw hw 163 rfl) (tw hw 35 rfl) (tw hw 165 rfl) (con_gt hw FC AC (j := (2 : Int32)) (i := 2) rfl rfl) (argsL := [(.int (2 : Int32))]) (W := 0) (rest := []) (by decide) (by decide) (by decide) (by decide) (by decide) (L := #[.val (.int nn), .val (.int fl), .val (.int pa), .val (.int pb), .val (.int pc'), .val (.int pd), .val (.int (3 : Int32)), .val (.ref y0), .val (.ref y1), .val (.ref y2), .val (.ref rc), .val (.ref a2), .unset]) rfl pd14 rfl (Nat.le_of_eq rfl) (pc := 222) (by decide +kernel)
  have g24 : Ld p e below T23 (mkF m 225 #[.val (.int nn), .val (.int fl), .val (.int pa), .val (.int pb), .val (.int pc'), .val (.int pd), .val (.int (3 : Int32)), .val (.ref y0), .val (.ref y1), .val (.ref y2), .val (.ref rc), .val (.ref a2), .unset] [(.ref y2)]) T23 (mkF m 233 #[.val (.int nn), .val (.int fl), .val (.int pa), .val (.int pb), .val (.int pc'), .val (.int pd), .val (.int (3 : Int32)), .val (.ref y0), .val (.ref y1), .val (.ref y2), .val (.ref rc), .val (.ref a2), .unset] [(.int (1 : Int32))]) := goRun K N23 #[] [(225, .aload 9, 2), (227, .if_acmp .eq 5, 3), (232, .iconst 1, 1)] [.ref 0] (P := ((.ref y2 : Value) = (.ref y2 : Value)) ∧ True) (by decide +kernel) rfl ⟨rfl, trivial⟩
  exact ⟨T23, _, h15, _, _, N23, by decide, by decide, g1.trans (g2.trans (g3.trans (g4.trans (g5.trans (g6.trans (g7.trans (g8.trans (g9.trans (g10.trans (g11.trans (g12.trans (g13.trans (g14.trans (g15.trans (g16.trans (g17.trans (g18.trans (g19.trans (g20.trans (g21.trans (g22.trans (g23.trans g24)))))))))))))))))))))), sb1 ▸ finN K N23 hret (Or.inl rfl) (by decide +kernel)⟩
set_option maxHeartbeats 4000000 in
theorem roadB3 (hw : ∀ d ∈ tables_1, d.before a0 Z = true) {ca : Addr} {cl : Cell} {da mo ma mr : Addr} (sf : SF Z ca cl da mo ma mr) (K : Cx Z "com/example/headers_to_descriptors/headerstodescriptors/ReadOnlyItemsCopyOfPinLaw" code maxLocals p m c) (hret : meth.sig.returnType = ret) (O0 : Old Z n0 s.heap) (N : Nw Z n0 h p l e room_1 s m args below meth c T 3 3) (nn fl pa pb pc' pd : Int32) {y0 y1 y2 : Addr} (Y0 : Exa Z h y0 "java/lang/Integer") (Y1 : Exa Z h y1 "java/lang/Integer") (Y2 : Exa Z h y2 "java/lang/Integer") (q1 : (fl &&& (1 : Int32)) = (0 : Int32)) :
    Ends Z n0 p l e room_1 s m args below meth c T (mkF m 24 #[.val (.int nn), .val (.int fl), .val (.int pa), .val (.int pb), .val (.int pc'), .val (.int pd), .val (.int (3 : Int32)), .val (.ref y0), .val (.ref y1), .val (.ref y2), .unset, .unset, .unset] []) := by
  have g1 : Ld p e below T (mkF m 24 #[.val (.int nn), .val (.int fl), .val (.int pa), .val (.int pb), .val (.int pc'), .val (.int pd), .val (.int (3 : Int32)), .val (.ref y0), .val (.ref y1), .val (.ref y2), .unset, .unset, .unset] []) T (mkF m 109 #[.val (.int nn), .val (.int fl), .val (.int pa), .val (.int pb), .val (.int pc'), .val (.int pd), .val (.int (3 : Int32)), .val (.ref y0), .val (.ref y1), .val (.ref y2), .unset, .unset, .unset] [(.ref y2), (.ref y1), (.ref y0), (.int (3 : Int32))]) := goRun K N #[] [(24, .iload_n 1, 1), (25, .iconst 1, 1), (26, .iand, 1), (27, .ifCond .eq 74, 3), (101, .iload 6, 2), (103, .aload 7, 2), (105, .aload 8, 2), (107, .aload 9, 2)] [.ref 0] (P := ((fl &&& (1 : Int32)) = (0 : Int32)) ∧ True) (by decide +kernel) rfl ⟨q1, trivial⟩
  obtain ⟨v2, T2, h2, N2, ⟨b0, rfl, LB, KB, GB⟩, g2⟩ := goS K N (tw hw 121 rfl) (tw hw 122 rfl) (tw hw 123 rfl) (tw hw 124 rfl) (con_pk3 hw Y0 Y1 Y2) (argsL := [(.int (3 : Int32)), (.ref y0), (.ref y1), (.ref y2)]) (W := 0) (rest := []) (by decide) (by decide) (by decide) (by decide) (by decide) (L := #[.val (.int nn), .val (.int fl), .val (.int pa), .val (.int pb), .val (.int pc'), .val (.int pd), .val (.int (3 : Int32)), .val (.ref y0), .val (.ref y1), .val (.ref y2), .unset, .unset, .unset]) rfl pd15 rfl (Nat.le_of_eq rfl) (pc := 109) (by decide +kernel)
  have hb0 : n0 ≤ b0 := Nat.le_trans N.size LB
  have Y0 := Y0.keep KB
  have Y1 := Y1.keep KB
  have Y2 := Y2.keep KB
  have g3 : Ld p e below T2 (mkF m 112 #[.val (.int nn), .val (.int fl), .val (.int pa), .val (.int pb), .val (.int pc'), .val (.int pd), .val (.int (3 : Int32)), .val (.ref y0), .val (.ref y1), .val (.ref y2), .unset, .unset, .unset] [(.ref b0)]) T2 (mkF m 114 #[.val (.int nn), .val (.int fl), .val (.int pa), .val (.int pb), .val (.int pc'), .val (.int pd), .val (.int (3 : Int32)), .val (.ref y0), .val (.ref y1), .val (.ref y2), .unset, .val (.ref b0), .unset] []) := goRun K N2 #[] [(112, .astore 11, 2)] [] (P := True) (by decide +kernel) rfl trivial
  obtain ⟨T4, h4, a4, ea4, N4, E4, X4, D4, g4⟩ := goNew K N2 (C := "com/example/headers_to_descriptors/headerstodescriptors/ReadOnlyItems") (tw hw 126 rfl) (tw hw 73 rfl) (tw hw 35 rfl) (pc := 114) (L := #[.val (.int nn), .val (.int fl), .val (.int pa), .val (.int pb), .val (.int pc'), .val (.int pd), .val (.int (3 : Int32)), .val (.ref y0), .val (.ref y1), .val (.ref y2), .unset, .val (.ref b0), .unset]) (S := []) (by decide +kernel) (by decide) (by decide)
  have ha4 : n0 ≤ a4 := ea4 ▸ N2.size
  have FI0 : Fld Z h4 a4 "com/example/headers_to_descriptors/headerstodescriptors/ReadOnlyItems" "items" "[Ljava/lang/Object;" .null := D4 (Or.inr (tw hw 88 rfl)) (ty := .array (.object "java/lang/Object")) (by decide)
  have FM0 : Fld Z h4 a4 "java/util/AbstractList" "modCount" "I" (.int 0) := D4 (Or.inl (tw hw 86 rfl)) (ty := .int) (by decide)
  have KE := keep_ext (ws := []) E4
  have Y0 := Y0.keep KE
  have Y1 := Y1.keep KE
  have Y2 := Y2.keep KE
  have GB := GB.keep KE nin0
  have g5 : Ld p e below T4 (mkF m 117 #[.val (.int nn), .val (.int fl), .val (.int pa), .val (.int pb), .val (.int pc'), .val (.int pd), .val (.int (3 : Int32)), .val (.ref y0), .val (.ref y1), .val (.ref y2), .unset, .val (.ref b0), .unset] [(.ref a4)]) T4 (mkF m 120 #[.val (.int nn), .val (.int fl), .val (.int pa), .val (.int pb), .val (.int pc'), .val (.int pd), .val (.int (3 : Int32)), .val (.ref y0), .val (.ref y1), .val (.ref y2), .unset, .val (.ref b0), .unset] [(.ref b0), (.ref a4), (.ref a4)]) := goRun K N4 #[] [(117, .dup, 1), (118, .aload 11, 2)] [] (P := True) (by decide +kernel) rfl trivial
  obtain ⟨v6, T6, h6, N6, ⟨rfl, KR, FR⟩, g6⟩ := goSp K N4 (a := a4) (tw hw 127 rfl) (tw hw 82 rfl) (tw hw 35 rfl) (tw hw 83 rfl) (con_ri hw (it := b0) X4 FI0 FM0 ha4) rfl (by decide) (argsL := [(.ref b0)]) (W := 1) (rest := [(.ref a4)]) (by decide) (by decide) (by decide) (by decide) (L := #[.val (.int nn), .val (.int fl), .val (.int pa), .val (.int pb), .val (.int pc'), .val (.int pd), .val (.int (3 : Int32)), .val (.ref y0), .val (.ref y1), .val (.ref y2), .unset, .val (.ref b0), .unset]) rfl pd12 rfl (Nat.le_of_eq rfl) (pc := 120) (by decide +kernel)
  have nb : b0 ≠ a4 := Av.ne_exa GB.1 X4 (tw hw 73 rfl) |>.symm
  have GB := GB.keep KR (ninS nb nin0)
  have Y0 := Y0.keep KR
  have Y1 := Y1.keep KR
  have Y2 := Y2.keep KR
  have XS := X4.keep KR
  have g7 : Ld p e below T6 (mkF m 123 #[.val (.int nn), .val (.int fl), .val (.int pa), .val (.int pb), .val (.int pc'), .val (.int pd), .val (.int (3 : Int32)), .val (.ref y0), .val (.ref y1), .val (.ref y2), .unset, .val (.ref b0), .unset] [(.ref a4)]) T6 (mkF m 127 #[.val (.int nn), .val (.int fl), .val (.int pa), .val (.int pb), .val (.int pc'), .val (.int pd), .val (.int (3 : Int32)), .val (.ref y0), .val (.ref y1), .val (.ref y2), .unset, .val (.ref b0), .val (.ref a4)] [(.ref a4)]) := goRun K N6 #[] [(123, .astore 12, 2), (125, .aload 12, 2)] [] (P := True) (by decide +kernel) rfl trivial
  obtain ⟨v8, T8, h8, N8, ⟨rc, i0, rfl, KC, LC, LD, XR0, FC, AC⟩, g8⟩ := goS K N6 (tw hw 33 rfl) (tw hw 34 rfl) (tw hw 35 rfl) (tw hw 36 rfl) (con_coR hw sf FR GB.1 XS GB.2.1 (Els.cons Y0 (Els.cons Y1 (Els.cons Y2 Els.nil))) (by simp)) (argsL := [(.ref a4)]) (W := 0) (rest := []) (by decide) (by decide) (by decide) (by decide) (by decide) (L := #[.val (.int nn), .val (.int fl), .val (.int pa), .val (.int pb), .val (.int pc'), .val (.int pd), .val (.int (3 : Int32)), .val (.ref y0), .val (.ref y1), .val (.ref y2), .unset, .val (.ref b0), .val (.ref a4)]) rfl pd11 rfl (Nat.le_of_eq rfl) (pc := 127) (by decide +kernel)
  have n1 : rc ≠ b0 := Ne.symm (Nat.ne_of_lt (Nat.lt_of_lt_of_le GB.1.lt LC))
  have n2 : i0 ≠ b0 := Ne.symm (Nat.ne_of_lt (Nat.lt_of_lt_of_le GB.1.lt LD))
  have GB := GB.keep KC nin0
  have g9 : Ld p e below T8 (mkF m 130 #[.val (.int nn), .val (.int fl), .val (.int pa), .val (.int pb), .val (.int pc'), .val (.int pd), .val (.int (3 : Int32)), .val (.ref y0), .val (.ref y1), .val (.ref y2), .unset, .val (.ref b0), .val (.ref a4)] [(.ref rc)]) T8 (mkF m 141 #[.val (.int nn), .val (.int fl), .val (.int pa), .val (.int pb), .val (.int pc'), .val (.int pd), .val (.int (3 : Int32)), .val (.ref y0), .val (.ref y1), .val (.ref y2), .val (.ref rc), .val (.ref b0), .val (.ref a4)] [(.null), (.int (0 : Int32)), (.ref b0)]) := goRun K N8 #[] [(130, .astore 10, 2), (132, .iload 6, 2), (134, .ifCond .le 8, 3), (137, .aload 11, 2), (139, .iconst 0, 1), (140, .aconst_null, 1)] [.null] (P := ((0 : Int32) < (3 : Int32)) ∧ True) (by decide +kernel) rfl ⟨(by decide), trivial⟩
  obtain ⟨T10, h10, N10, K10, A10, g10⟩ := avStO K N8 GB.1 GB.2.2 (v := .null) (Or.inl rfl) (j := (0 : Int32)) (i := 0) rfl (by simp) hb0 (pc := 141) (L := #[.val (.int nn), .val (.int fl), .val (.int pa), .val (.int pb), .val (.int pc'), .val (.int pd), .val (.int (3 : Int32)), .val (.ref y0), .val (.ref y1), .val (.ref y2), .val (.ref rc), .val (.ref b0), .val (.ref a4)]) (S := []) (by decide +kernel)
  have GB : Oa Z h10 b0 _ := ⟨A10, GB.2.1.keep K10, GB.2.2.keep K10⟩
  have FC := FC.keep K10 (ninS n1 nin0)
  have XR0 := XR0.keep K10
  have AC := AC.keep K10 (ninS n2 nin0)
  have g11 : Ld p e below T10 (mkF m 142 #[.val (.int nn), .val (.int fl), .val (.int pa), .val (.int pb), .val (.int pc'), .val (.int pd), .val (.int (3 : Int32)), .val (.ref y0), .val (.ref y1), .val (.ref y2), .val (.ref rc), .val (.ref b0), .val (.ref a4)] []) T10 (mkF m 152 #[.val (.int nn), .val (.int fl), .val (.int pa), .val (.int pb), .val (.int pc'), .val (.int pd), .val (.int (3 : Int32)), .val (.ref y0), .val (.ref y1), .val (.ref y2), .val (.ref rc), .val (.ref b0), .val (.ref a4)] [(.null), (.int (1 : Int32)), (.ref b0)]) := goRun K N10 #[] [(142, .iload 6, 2), (144, .iconst 1, 1), (145, .if_icmp .le 8, 3), (148, .aload 11, 2), (150, .iconst 1, 1), (151, .aconst_null, 1)] [.null] (P := ((1 : Int32) < (3 : Int32)) ∧ True) (by decide +kernel) rfl ⟨(by decide), trivial⟩
  obtain ⟨T12, h12, N12, K12, A12, g12⟩ := avStO K N10 GB.1 GB.2.2 (v := .null) (Or.inl rfl) (j := (1 : Int32)) (i := 1) rfl (by simp) hb0 (pc := 152) (L := #[.val (.int nn), .val (.int fl), .val (.int pa), .val (.int pb), .val (.int pc'), .val (.int pd), .val (.int (3 : Int32)), .val (.ref y0), .val (.ref y1), .val (.ref y2), .val (.ref rc), .val (.ref b0), .val (.ref a4)]) (S := []) (by decide +kernel)
  have GB : Oa Z h12 b0 _ := ⟨A12, GB.2.1.keep K12, GB.2.2.keep K12⟩
  have FC := FC.keep K12 (ninS n1 nin0)
  have XR0 := XR0.keep K12
  have AC := AC.keep K12 (ninS n2 nin0)
  have g13 : Ld p e below T12 (mkF m 153 #[.val (.int nn), .val (.int fl), .val (.int pa), .val (.int pb), .val (.int pc'), .val (.int pd), .val (.int (3 : Int32)), .val (.ref y0), .val (.ref y1), .val (.ref y2), .val (.ref rc), .val (.ref b0), .val (.ref a4)] []) T12 (mkF m 163 #[.val (.int nn), .val (.int fl), .val (.int pa), .val (.int pb), .val (.int pc'), .val (.int pd), .val (.int (3 : Int32)), .val (.ref y0), .val (.ref y1), .val (.ref y2), .val (.ref rc), .val (.ref b0), .val (.ref a4)] [(.null), (.int (2 : Int32)), (.ref b0)]) := goRun K N12 #[] [(153, .iload 6, 2), (155, .iconst 2, 1), (156, .if_icmp .le 8, 3), (159, .aload 11, 2), (161, .iconst 2, 1), (162, .aconst_null, 1)] [.null] (P := ((2 : Int32) < (3 : Int32)) ∧ True) (by decide +kernel) rfl ⟨(by decide), trivial⟩
  obtain ⟨T14, h14, N14, K14, A14, g14⟩ := avStO K N12 GB.1 GB.2.2 (v := .null) (Or.inl rfl) (j := (2 : Int32)) (i := 2) rfl (by simp) hb0 (pc := 163) (L := #[.val (.int nn), .val (.int fl), .val (.int pa), .val (.int pb), .val (.int pc'), .val (.int pd), .val (.int (3 : Int32)), .val (.ref y0), .val (.ref y1), .val (.ref y2), .val (.ref rc), .val (.ref b0), .val (.ref a4)]) (S := []) (by decide +kernel)
  have GB : Oa Z h14 b0 _ := ⟨A14, GB.2.1.keep K14, GB.2.2.keep K14⟩
  have FC := FC.keep K14 (ninS n1 nin0)
  have XR0 := XR0.keep K14
  have AC := AC.keep K14 (ninS n2 nin0)
  have g15 : Ld p e below T14 (mkF m 164 #[.val (.int nn), .val (.int fl), .val (.int pa), .val (.int pb), .val (.int pc'), .val (.int pd), .val (.int (3 : Int32)), .val (.ref y0), .val (.ref y1), .val (.ref y2), .val (.ref rc), .val (.ref b0), .val (.ref a4)] []) T14 (mkF m 166 #[.val (.int nn), .val (.int fl), .val (.int pa), .val (.int pb), .val (.int pc'), .val (.int pd), .val (.int (3 : Int32)), .val (.ref y0), .val (.ref y1), .val (.ref y2), .val (.ref rc), .val (.ref b0), .val (.ref a4)] [(.ref rc)]) := goRun K N14 #[] [(164, .aload 10, 2)] [] (P := True) (by decide +kernel) rfl trivial
  obtain ⟨v16, T16, _, N16, ⟨rfl, rfl⟩, g16⟩ := goVi K N14 (a := rc) XR0 (tw hw 116 rfl) (tw hw 117 rfl) (tw hw 119 rfl) (tw hw 118 rfl) (tw hw 35 rfl) (tw hw 120 rfl) (con_sz hw FC AC (k := (3 : Int32)) rfl) (argsL := []) (W := 0) (rest := []) (by decide) (by decide) (by decide) (by decide) (by decide) (L := #[.val (.int nn), .val (.int fl), .val (.int pa), .val (.int pb), .val (.int pc'), .val (.int pd), .val (.int (3 : Int32)), .val (.ref y0), .val (.ref y1), .val (.ref y2), .val (.ref rc), .val (.ref b0), .val (.ref a4)]) rfl pd13 rfl (Nat.le_of_eq rfl) (pc := 166) (by decide +kernel)
  have g17 : Ld p e below T16 (mkF m 169 #[.val (.int nn), .val (.int fl), .val (.int pa), .val (.int pb), .val (.int pc'), .val (.int pd), .val (.int (3 : Int32)), .val (.ref y0), .val (.ref y1), .val (.ref y2), .val (.ref rc), .val (.ref b0), .val (.ref a4)] [(.int (3 : Int32))]) T16 (mkF m 184 #[.val (.int nn), .val (.int fl), .val (.int pa), .val (.int pb), .val (.int pc'), .val (.int pd), .val (.int (3 : Int32)), .val (.ref y0), .val (.ref y1), .val (.ref y2), .val (.ref rc), .val (.ref b0), .val (.ref a4)] [(.int (0 : Int32)), (.ref rc)]) := goRun K N16 #[] [(169, .iload 6, 2), (171, .if_icmp .eq 5, 3), (176, .iload 6, 2), (178, .ifCond .le 16, 3), (181, .aload 10, 2), (183, .iconst 0, 1)] [.ref 0, .null] (P := ((3 : Int32) = (3 : Int32)) ∧ ((0 : Int32) < (3 : Int32)) ∧ True) (by decide +kernel) rfl ⟨rfl, (by decide), trivial⟩
  obtain ⟨v18, T18, _, N18, ⟨rfl, rfl⟩, g18⟩ := goVi K N16 (a := rc) XR0 (tw hw 161 rfl) (tw hw 162 rfl) (tw hw 164 rfl) (tw hw 163 rfl) (tw hw 35 rfl) (tw hw 165 rfl) (con_gt hw FC AC (j := (0 : Int32)) (i := 0) rfl rfl) (argsL := [(.int (0 : Int32))]) (W := 0) (rest := []) (by decide) (by decide) (by decide) (by decide) (by decide) (L := #[.val (.int nn), .val (.int fl), .val (.int pa), .val (.int pb), .val (.int pc'), .val (.int pd), .val (.int (3 : Int32)), .val (.ref y0), .val (.ref y1), .val (.ref y2), .val (.ref rc), .val (.ref b0), .val (.ref a4)]) rfl pd14 rfl (Nat.le_of_eq rfl) (pc := 184) (by decide +kernel)
  have g19 : Ld p e below T18 (mkF m 187 #[.val (.int nn), .val (.int fl), .val (.int pa), .val (.int pb), .val (.int pc'), .val (.int pd), .val (.int (3 : Int32)), .val (.ref y0), .val (.ref y1), .val (.ref y2), .val (.ref rc), .val (.ref b0), .val (.ref a4)] [(.ref y0)]) T18 (mkF m 203 #[.val (.int nn), .val (.int fl), .val (.int pa), .val (.int pb), .val (.int pc'), .val (.int pd), .val (.int (3 : Int32)), .val (.ref y0), .val (.ref y1), .val (.ref y2), .val (.ref rc), .val (.ref b0), .val (.ref a4)] [(.int (1 : Int32)), (.ref rc)]) := goRun K N18 #[] [(187, .aload 7, 2), (189, .if_acmp .eq 5, 3), (194, .iload 6, 2), (196, .iconst 1, 1), (197, .if_icmp .le 16, 3), (200, .aload 10, 2), (202, .iconst 1, 1)] [.ref 0, .null] (P := ((.ref y0 : Value) = (.ref y0 : Value)) ∧ ((1 : Int32) < (3 : Int32)) ∧ True) (by decide +kernel) rfl ⟨rfl, (by decide), trivial⟩
  obtain ⟨v20, T20, _, N20, ⟨rfl, rfl⟩, g20⟩ := goVi K N18 (a := rc) XR0 (tw hw 161 rfl) (tw hw 162 rfl) (tw hw 164 rfl) (tw hw 163 rfl) (tw hw 35 rfl) (tw hw 165 rfl) (con_gt hw FC AC (j := (1 : Int32)) (i := 1) rfl rfl) (argsL := [(.int (1 : Int32))]) (W := 0) (rest := []) (by decide) (by decide) (by decide) (by decide) (by decide) (L := #[.val (.int nn), .val (.int fl), .val (.int pa), .val (.int pb), .val (.int pc'), .val (.int pd), .val (.int (3 : Int32)), .val (.ref y0), .val (.ref y1), .val (.ref y2), .val (.ref rc), .val (.ref b0), .val (.ref a4)]) rfl pd14 rfl (Nat.le_of_eq rfl) (pc := 203) (by decide +kernel)
  have g21 : Ld p e below T20 (mkF m 206 #[.val (.int nn), .val (.int fl), .val (.int pa), .val (.int pb), .val (.int pc'), .val (.int pd), .val (.int (3 : Int32)), .val (.ref y0), .val (.ref y1), .val (.ref y2), .val (.ref rc), .val (.ref b0), .val (.ref a4)] [(.ref y1)]) T20 (mkF m 222 #[.val (.int nn), .val (.int fl), .val (.int pa), .val (.int pb), .val (.int pc'), .val (.int pd), .val (.int (3 : Int32)), .val (.ref y0), .val (.ref y1), .val (.ref y2), .val (.ref rc), .val (.ref b0), .val (.ref a4)] [(.int (2 : Int32)), (.ref rc)]) := goRun K N20 #[] [(206, .aload 8, 2), (208, .if_acmp .eq 5, 3), (213, .iload 6, 2), (215, .iconst 2, 1), (216, .if_icmp .le 16, 3), (219, .aload 10, 2), (221, .iconst 2, 1)] [.ref 0, .null] (P := ((.ref y1 : Value) = (.ref y1 : Value)) ∧ ((2 : Int32) < (3 : Int32)) ∧ True) (by decide +kernel) rfl ⟨rfl, (by decide), trivial⟩
  obtain ⟨v22, T22, _, N22, ⟨rfl, rfl⟩, g22⟩ := goVi K N20 (a := rc) XR0 (tw hw 161 rfl) (tw hw 162 rfl) (tw hw 164 rfl) (tw hw 163 rfl) (tw hw 35 rfl) (tw hw 165 rfl) (con_gt hw FC AC (j := (2 : Int32)) (i := 2) rfl rfl) (argsL := [(.int (2 : Int32))]) (W := 0) (rest := []) (by decide) (by decide) (by decide) (by decide) (by decide) (L := #[.val (.int nn), .val (.int fl), .val (.int pa), .val (.int pb), .val (.int pc'), .val (.int pd), .val (.int (3 : Int32)), .val (.ref y0), .val (.ref y1), .val (.ref y2), .val (.ref rc), .val (.ref b0), .val (.ref a4)]) rfl pd14 rfl (Nat.le_of_eq rfl) (pc := 222) (by decide +kernel)
  have g23 : Ld p e below T22 (mkF m 225 #[.val (.int nn), .val (.int fl), .val (.int pa), .val (.int pb), .val (.int pc'), .val (.int pd), .val (.int (3 : Int32)), .val (.ref y0), .val (.ref y1), .val (.ref y2), .val (.ref rc), .val (.ref b0), .val (.ref a4)] [(.ref y2)]) T22 (mkF m 233 #[.val (.int nn), .val (.int fl), .val (.int pa), .val (.int pb), .val (.int pc'), .val (.int pd), .val (.int (3 : Int32)), .val (.ref y0), .val (.ref y1), .val (.ref y2), .val (.ref rc), .val (.ref b0), .val (.ref a4)] [(.int (1 : Int32))]) := goRun K N22 #[] [(225, .aload 9, 2), (227, .if_acmp .eq 5, 3), (232, .iconst 1, 1)] [.ref 0] (P := ((.ref y2 : Value) = (.ref y2 : Value)) ∧ True) (by decide +kernel) rfl ⟨rfl, trivial⟩
  exact ⟨T22, _, h14, _, _, N22, by decide, by decide, g1.trans (g2.trans (g3.trans (g4.trans (g5.trans (g6.trans (g7.trans (g8.trans (g9.trans (g10.trans (g11.trans (g12.trans (g13.trans (g14.trans (g15.trans (g16.trans (g17.trans (g18.trans (g19.trans (g20.trans (g21.trans (g22.trans g23))))))))))))))))))))), sb1 ▸ finN K N22 hret (Or.inl rfl) (by decide +kernel)⟩
set_option maxHeartbeats 4000000 in
theorem start0 (hw : ∀ d ∈ tables_1, d.before a0 Z = true) {ca : Addr} {cl : Cell} {da mo ma mr : Addr} (sf : SF Z ca cl da mo ma mr) (K : Cx Z "com/example/headers_to_descriptors/headerstodescriptors/ReadOnlyItemsCopyOfPinLaw" code maxLocals p m c) (hret : meth.sig.returnType = ret) (O0 : Old Z n0 s.heap) (N : Nw Z n0 h p l e room_1 s m args below meth c T 0 0) (nn fl pa pb pc' pd : Int32) :
    Ends Z n0 p l e room_1 s m args below meth c T (mkF m 5 #[.val (.int nn), .val (.int fl), .val (.int pa), .val (.int pb), .val (.int pc'), .val (.int pd), .val (.int (0 : Int32)), .unset, .unset, .unset, .unset, .unset, .unset] []) := by
  have g1 : Ld p e below T (mkF m 5 #[.val (.int nn), .val (.int fl), .val (.int pa), .val (.int pb), .val (.int pc'), .val (.int pd), .val (.int (0 : Int32)), .unset, .unset, .unset, .unset, .unset, .unset] []) T (mkF m 6 #[.val (.int nn), .val (.int fl), .val (.int pa), .val (.int pb), .val (.int pc'), .val (.int pd), .val (.int (0 : Int32)), .unset, .unset, .unset, .unset, .unset, .unset] [(.int pa)]) := goRun K N #[] [(5, .iload_n 2, 1)] [] (P := True) (by decide +kernel) rfl trivial
  obtain ⟨v2, T2, h2, N2, ⟨y0, rfl, Y0, KV⟩, g2⟩ := goS K N (tw hw 0 rfl) (tw hw 1 rfl) (tw hw 2 rfl) (tw hw 3 rfl) (con_vo hw sf pa (N.old O0)) (argsL := [(.int pa)]) (W := 0) (rest := []) (by decide) (by decide) (by decide) (by decide) (by decide) (L := #[.val (.int nn), .val (.int fl), .val (.int pa), .val (.int pb), .val (.int pc'), .val (.int pd), .val (.int (0 : Int32)), .unset, .unset, .unset, .unset, .unset, .unset]) rfl pd2 rfl (Nat.le_of_eq rfl) (pc := 6) (by decide +kernel)
  have g3 : Ld p e below T2 (mkF m 9 #[.val (.int nn), .val (.int fl), .val (.int pa), .val (.int pb), .val (.int pc'), .val (.int pd), .val (.int (0 : Int32)), .unset, .unset, .unset, .unset, .unset, .unset] [(.ref y0)]) T2 (mkF m 12 #[.val (.int nn), .val (.int fl), .val (.int pa), .val (.int pb), .val (.int pc'), .val (.int pd), .val (.int (0 : Int32)), .val (.ref y0), .unset, .unset, .unset, .unset, .unset] [(.int pb)]) := goRun K N2 #[] [(9, .astore 7, 2), (11, .iload_n 3, 1)] [] (P := True) (by decide +kernel) rfl trivial
  obtain ⟨v4, T4, h4, N4, ⟨y1, rfl, Y1, KV⟩, g4⟩ := goS K N2 (tw hw 0 rfl) (tw hw 1 rfl) (tw hw 2 rfl) (tw hw 3 rfl) (con_vo hw sf pb (N2.old O0)) (argsL := [(.int pb)]) (W := 0) (rest := []) (by decide) (by decide) (by decide) (by decide) (by decide) (L := #[.val (.int nn), .val (.int fl), .val (.int pa), .val (.int pb), .val (.int pc'), .val (.int pd), .val (.int (0 : Int32)), .val (.ref y0), .unset, .unset, .unset, .unset, .unset]) rfl pd2 rfl (Nat.le_of_eq rfl) (pc := 12) (by decide +kernel)
  have Y0 := Y0.keep KV
  have g5 : Ld p e below T4 (mkF m 15 #[.val (.int nn), .val (.int fl), .val (.int pa), .val (.int pb), .val (.int pc'), .val (.int pd), .val (.int (0 : Int32)), .val (.ref y0), .unset, .unset, .unset, .unset, .unset] [(.ref y1)]) T4 (mkF m 19 #[.val (.int nn), .val (.int fl), .val (.int pa), .val (.int pb), .val (.int pc'), .val (.int pd), .val (.int (0 : Int32)), .val (.ref y0), .val (.ref y1), .unset, .unset, .unset, .unset] [(.int pc')]) := goRun K N4 #[] [(15, .astore 8, 2), (17, .iload 4, 2)] [] (P := True) (by decide +kernel) rfl trivial
  obtain ⟨v6, T6, h6, N6, ⟨y2, rfl, Y2, KV⟩, g6⟩ := goS K N4 (tw hw 0 rfl) (tw hw 1 rfl) (tw hw 2 rfl) (tw hw 3 rfl) (con_vo hw sf pc' (N4.old O0)) (argsL := [(.int pc')]) (W := 0) (rest := []) (by decide) (by decide) (by decide) (by decide) (by decide) (L := #[.val (.int nn), .val (.int fl), .val (.int pa), .val (.int pb), .val (.int pc'), .val (.int pd), .val (.int (0 : Int32)), .val (.ref y0), .val (.ref y1), .unset, .unset, .unset, .unset]) rfl pd2 rfl (Nat.le_of_eq rfl) (pc := 19) (by decide +kernel)
  have Y0 := Y0.keep KV
  have Y1 := Y1.keep KV
  have g7 : Ld p e below T6 (mkF m 22 #[.val (.int nn), .val (.int fl), .val (.int pa), .val (.int pb), .val (.int pc'), .val (.int pd), .val (.int (0 : Int32)), .val (.ref y0), .val (.ref y1), .unset, .unset, .unset, .unset] [(.ref y2)]) T6 (mkF m 24 #[.val (.int nn), .val (.int fl), .val (.int pa), .val (.int pb), .val (.int pc'), .val (.int pd), .val (.int (0 : Int32)), .val (.ref y0), .val (.ref y1), .val (.ref y2), .unset, .unset, .unset] []) := goRun K N6 #[] [(22, .astore 9, 2)] [] (P := True) (by decide +kernel) rfl trivial
  by_cases q1 : (fl &&& (1 : Int32)) = (0 : Int32)
  · exact Ends.pre (g1.trans (g2.trans (g3.trans (g4.trans (g5.trans (g6.trans g7)))))) (roadB0 hw sf K hret O0 N6 nn fl pa pb pc' pd Y0 Y1 Y2 q1)
  · exact Ends.pre (g1.trans (g2.trans (g3.trans (g4.trans (g5.trans (g6.trans g7)))))) (roadA0 hw sf K hret O0 N6 nn fl pa pb pc' pd Y0 Y1 Y2 q1)
set_option maxHeartbeats 4000000 in
theorem start1 (hw : ∀ d ∈ tables_1, d.before a0 Z = true) {ca : Addr} {cl : Cell} {da mo ma mr : Addr} (sf : SF Z ca cl da mo ma mr) (K : Cx Z "com/example/headers_to_descriptors/headerstodescriptors/ReadOnlyItemsCopyOfPinLaw" code maxLocals p m c) (hret : meth.sig.returnType = ret) (O0 : Old Z n0 s.heap) (N : Nw Z n0 h p l e room_1 s m args below meth c T 0 0) (nn fl pa pb pc' pd : Int32) :
    Ends Z n0 p l e room_1 s m args below meth c T (mkF m 5 #[.val (.int nn), .val (.int fl), .val (.int pa), .val (.int pb), .val (.int pc'), .val (.int pd), .val (.int (1 : Int32)), .unset, .unset, .unset, .unset, .unset, .unset] []) := by
  have g1 : Ld p e below T (mkF m 5 #[.val (.int nn), .val (.int fl), .val (.int pa), .val (.int pb), .val (.int pc'), .val (.int pd), .val (.int (1 : Int32)), .unset, .unset, .unset, .unset, .unset, .unset] []) T (mkF m 6 #[.val (.int nn), .val (.int fl), .val (.int pa), .val (.int pb), .val (.int pc'), .val (.int pd), .val (.int (1 : Int32)), .unset, .unset, .unset, .unset, .unset, .unset] [(.int pa)]) := goRun K N #[] [(5, .iload_n 2, 1)] [] (P := True) (by decide +kernel) rfl trivial
  obtain ⟨v2, T2, h2, N2, ⟨y0, rfl, Y0, KV⟩, g2⟩ := goS K N (tw hw 0 rfl) (tw hw 1 rfl) (tw hw 2 rfl) (tw hw 3 rfl) (con_vo hw sf pa (N.old O0)) (argsL := [(.int pa)]) (W := 0) (rest := []) (by decide) (by decide) (by decide) (by decide) (by decide) (L := #[.val (.int nn), .val (.int fl), .val (.int pa), .val (.int pb), .val (.int pc'), .val (.int pd), .val (.int (1 : Int32)), .unset, .unset, .unset, .unset, .unset, .unset]) rfl pd2 rfl (Nat.le_of_eq rfl) (pc := 6) (by decide +kernel)
  have g3 : Ld p e below T2 (mkF m 9 #[.val (.int nn), .val (.int fl), .val (.int pa), .val (.int pb), .val (.int pc'), .val (.int pd), .val (.int (1 : Int32)), .unset, .unset, .unset, .unset, .unset, .unset] [(.ref y0)]) T2 (mkF m 12 #[.val (.int nn), .val (.int fl), .val (.int pa), .val (.int pb), .val (.int pc'), .val (.int pd), .val (.int (1 : Int32)), .val (.ref y0), .unset, .unset, .unset, .unset, .unset] [(.int pb)]) := goRun K N2 #[] [(9, .astore 7, 2), (11, .iload_n 3, 1)] [] (P := True) (by decide +kernel) rfl trivial
  obtain ⟨v4, T4, h4, N4, ⟨y1, rfl, Y1, KV⟩, g4⟩ := goS K N2 (tw hw 0 rfl) (tw hw 1 rfl) (tw hw 2 rfl) (tw hw 3 rfl) (con_vo hw sf pb (N2.old O0)) (argsL := [(.int pb)]) (W := 0) (rest := []) (by decide) (by decide) (by decide) (by decide) (by decide) (L := #[.val (.int nn), .val (.int fl), .val (.int pa), .val (.int pb), .val (.int pc'), .val (.int pd), .val (.int (1 : Int32)), .val (.ref y0), .unset, .unset, .unset, .unset, .unset]) rfl pd2 rfl (Nat.le_of_eq rfl) (pc := 12) (by decide +kernel)
  have Y0 := Y0.keep KV
  have g5 : Ld p e below T4 (mkF m 15 #[.val (.int nn), .val (.int fl), .val (.int pa), .val (.int pb), .val (.int pc'), .val (.int pd), .val (.int (1 : Int32)), .val (.ref y0), .unset, .unset, .unset, .unset, .unset] [(.ref y1)]) T4 (mkF m 19 #[.val (.int nn), .val (.int fl), .val (.int pa), .val (.int pb), .val (.int pc'), .val (.int pd), .val (.int (1 : Int32)), .val (.ref y0), .val (.ref y1), .unset, .unset, .unset, .unset] [(.int pc')]) := goRun K N4 #[] [(15, .astore 8, 2), (17, .iload 4, 2)] [] (P := True) (by decide +kernel) rfl trivial
  obtain ⟨v6, T6, h6, N6, ⟨y2, rfl, Y2, KV⟩, g6⟩ := goS K N4 (tw hw 0 rfl) (tw hw 1 rfl) (tw hw 2 rfl) (tw hw 3 rfl) (con_vo hw sf pc' (N4.old O0)) (argsL := [(.int pc')]) (W := 0) (rest := []) (by decide) (by decide) (by decide) (by decide) (by decide) (L := #[.val (.int nn), .val (.int fl), .val (.int pa), .val (.int pb), .val (.int pc'), .val (.int pd), .val (.int (1 : Int32)), .val (.ref y0), .val (.ref y1), .unset, .unset, .unset, .unset]) rfl pd2 rfl (Nat.le_of_eq rfl) (pc := 19) (by decide +kernel)
  have Y0 := Y0.keep KV
  have Y1 := Y1.keep KV
  have g7 : Ld p e below T6 (mkF m 22 #[.val (.int nn), .val (.int fl), .val (.int pa), .val (.int pb), .val (.int pc'), .val (.int pd), .val (.int (1 : Int32)), .val (.ref y0), .val (.ref y1), .unset, .unset, .unset, .unset] [(.ref y2)]) T6 (mkF m 24 #[.val (.int nn), .val (.int fl), .val (.int pa), .val (.int pb), .val (.int pc'), .val (.int pd), .val (.int (1 : Int32)), .val (.ref y0), .val (.ref y1), .val (.ref y2), .unset, .unset, .unset] []) := goRun K N6 #[] [(22, .astore 9, 2)] [] (P := True) (by decide +kernel) rfl trivial
  by_cases q1 : (fl &&& (1 : Int32)) = (0 : Int32)
  · exact Ends.pre (g1.trans (g2.trans (g3.trans (g4.trans (g5.trans (g6.trans g7)))))) (roadB1 hw sf K hret O0 N6 nn fl pa pb pc' pd Y0 Y1 Y2 q1)
  · exact Ends.pre (g1.trans (g2.trans (g3.trans (g4.trans (g5.trans (g6.trans g7)))))) (roadA1 hw sf K hret O0 N6 nn fl pa pb pc' pd Y0 Y1 Y2 q1)
set_option maxHeartbeats 4000000 in
theorem start2 (hw : ∀ d ∈ tables_1, d.before a0 Z = true) {ca : Addr} {cl : Cell} {da mo ma mr : Addr} (sf : SF Z ca cl da mo ma mr) (K : Cx Z "com/example/headers_to_descriptors/headerstodescriptors/ReadOnlyItemsCopyOfPinLaw" code maxLocals p m c) (hret : meth.sig.returnType = ret) (O0 : Old Z n0 s.heap) (N : Nw Z n0 h p l e room_1 s m args below meth c T 0 0) (nn fl pa pb pc' pd : Int32) :
    Ends Z n0 p l e room_1 s m args below meth c T (mkF m 5 #[.val (.int nn), .val (.int fl), .val (.int pa), .val (.int pb), .val (.int pc'), .val (.int pd), .val (.int (2 : Int32)), .unset, .unset, .unset, .unset, .unset, .unset] []) := by
  have g1 : Ld p e below T (mkF m 5 #[.val (.int nn), .val (.int fl), .val (.int pa), .val (.int pb), .val (.int pc'), .val (.int pd), .val (.int (2 : Int32)), .unset, .unset, .unset, .unset, .unset, .unset] []) T (mkF m 6 #[.val (.int nn), .val (.int fl), .val (.int pa), .val (.int pb), .val (.int pc'), .val (.int pd), .val (.int (2 : Int32)), .unset, .unset, .unset, .unset, .unset, .unset] [(.int pa)]) := goRun K N #[] [(5, .iload_n 2, 1)] [] (P := True) (by decide +kernel) rfl trivial
  obtain ⟨v2, T2, h2, N2, ⟨y0, rfl, Y0, KV⟩, g2⟩ := goS K N (tw hw 0 rfl) (tw hw 1 rfl) (tw hw 2 rfl) (tw hw 3 rfl) (con_vo hw sf pa (N.old O0)) (argsL := [(.int pa)]) (W := 0) (rest := []) (by decide) (by decide) (by decide) (by decide) (by decide) (L := #[.val (.int nn), .val (.int fl), .val (.int pa), .val (.int pb), .val (.int pc'), .val (.int pd), .val (.int (2 : Int32)), .unset, .unset, .unset, .unset, .unset, .unset]) rfl pd2 rfl (Nat.le_of_eq rfl) (pc := 6) (by decide +kernel)
  have g3 : Ld p e below T2 (mkF m 9 #[.val (.int nn), .val (.int fl), .val (.int pa), .val (.int pb), .val (.int pc'), .val (.int pd), .val (.int (2 : Int32)), .unset, .unset, .unset, .unset, .unset, .unset] [(.ref y0)]) T2 (mkF m 12 #[.val (.int nn), .val (.int fl), .val (.int pa), .val (.int pb), .val (.int pc'), .val (.int pd), .val (.int (2 : Int32)), .val (.ref y0), .unset, .unset, .unset, .unset, .unset] [(.int pb)]) := goRun K N2 #[] [(9, .astore 7, 2), (11, .iload_n 3, 1)] [] (P := True) (by decide +kernel) rfl trivial
  obtain ⟨v4, T4, h4, N4, ⟨y1, rfl, Y1, KV⟩, g4⟩ := goS K N2 (tw hw 0 rfl) (tw hw 1 rfl) (tw hw 2 rfl) (tw hw 3 rfl) (con_vo hw sf pb (N2.old O0)) (argsL := [(.int pb)]) (W := 0) (rest := []) (by decide) (by decide) (by decide) (by decide) (by decide) (L := #[.val (.int nn), .val (.int fl), .val (.int pa), .val (.int pb), .val (.int pc'), .val (.int pd), .val (.int (2 : Int32)), .val (.ref y0), .unset, .unset, .unset, .unset, .unset]) rfl pd2 rfl (Nat.le_of_eq rfl) (pc := 12) (by decide +kernel)
  have Y0 := Y0.keep KV
  have g5 : Ld p e below T4 (mkF m 15 #[.val (.int nn), .val (.int fl), .val (.int pa), .val (.int pb), .val (.int pc'), .val (.int pd), .val (.int (2 : Int32)), .val (.ref y0), .unset, .unset, .unset, .unset, .unset] [(.ref y1)]) T4 (mkF m 19 #[.val (.int nn), .val (.int fl), .val (.int pa), .val (.int pb), .val (.int pc'), .val (.int pd), .val (.int (2 : Int32)), .val (.ref y0), .val (.ref y1), .unset, .unset, .unset, .unset] [(.int pc')]) := goRun K N4 #[] [(15, .astore 8, 2), (17, .iload 4, 2)] [] (P := True) (by decide +kernel) rfl trivial
  obtain ⟨v6, T6, h6, N6, ⟨y2, rfl, Y2, KV⟩, g6⟩ := goS K N4 (tw hw 0 rfl) (tw hw 1 rfl) (tw hw 2 rfl) (tw hw 3 rfl) (con_vo hw sf pc' (N4.old O0)) (argsL := [(.int pc')]) (W := 0) (rest := []) (by decide) (by decide) (by decide) (by decide) (by decide) (L := #[.val (.int nn), .val (.int fl), .val (.int pa), .val (.int pb), .val (.int pc'), .val (.int pd), .val (.int (2 : Int32)), .val (.ref y0), .val (.ref y1), .unset, .unset, .unset, .unset]) rfl pd2 rfl (Nat.le_of_eq rfl) (pc := 19) (by decide +kernel)
  have Y0 := Y0.keep KV
  have Y1 := Y1.keep KV
  have g7 : Ld p e below T6 (mkF m 22 #[.val (.int nn), .val (.int fl), .val (.int pa), .val (.int pb), .val (.int pc'), .val (.int pd), .val (.int (2 : Int32)), .val (.ref y0), .val (.ref y1), .unset, .unset, .unset, .unset] [(.ref y2)]) T6 (mkF m 24 #[.val (.int nn), .val (.int fl), .val (.int pa), .val (.int pb), .val (.int pc'), .val (.int pd), .val (.int (2 : Int32)), .val (.ref y0), .val (.ref y1), .val (.ref y2), .unset, .unset, .unset] []) := goRun K N6 #[] [(22, .astore 9, 2)] [] (P := True) (by decide +kernel) rfl trivial
  by_cases q1 : (fl &&& (1 : Int32)) = (0 : Int32)
  · exact Ends.pre (g1.trans (g2.trans (g3.trans (g4.trans (g5.trans (g6.trans g7)))))) (roadB2 hw sf K hret O0 N6 nn fl pa pb pc' pd Y0 Y1 Y2 q1)
  · exact Ends.pre (g1.trans (g2.trans (g3.trans (g4.trans (g5.trans (g6.trans g7)))))) (roadA2 hw sf K hret O0 N6 nn fl pa pb pc' pd Y0 Y1 Y2 q1)
set_option maxHeartbeats 4000000 in
theorem start3 (hw : ∀ d ∈ tables_1, d.before a0 Z = true) {ca : Addr} {cl : Cell} {da mo ma mr : Addr} (sf : SF Z ca cl da mo ma mr) (K : Cx Z "com/example/headers_to_descriptors/headerstodescriptors/ReadOnlyItemsCopyOfPinLaw" code maxLocals p m c) (hret : meth.sig.returnType = ret) (O0 : Old Z n0 s.heap) (N : Nw Z n0 h p l e room_1 s m args below meth c T 0 0) (nn fl pa pb pc' pd : Int32) :
    Ends Z n0 p l e room_1 s m args below meth c T (mkF m 5 #[.val (.int nn), .val (.int fl), .val (.int pa), .val (.int pb), .val (.int pc'), .val (.int pd), .val (.int (3 : Int32)), .unset, .unset, .unset, .unset, .unset, .unset] []) := by
  have g1 : Ld p e below T (mkF m 5 #[.val (.int nn), .val (.int fl), .val (.int pa), .val (.int pb), .val (.int pc'), .val (.int pd), .val (.int (3 : Int32)), .unset, .unset, .unset, .unset, .unset, .unset] []) T (mkF m 6 #[.val (.int nn), .val (.int fl), .val (.int pa), .val (.int pb), .val (.int pc'), .val (.int pd), .val (.int (3 : Int32)), .unset, .unset, .unset, .unset, .unset, .unset] [(.int pa)]) := goRun K N #[] [(5, .iload_n 2, 1)] [] (P := True) (by decide +kernel) rfl trivial
  obtain ⟨v2, T2, h2, N2, ⟨y0, rfl, Y0, KV⟩, g2⟩ := goS K N (tw hw 0 rfl) (tw hw 1 rfl) (tw hw 2 rfl) (tw hw 3 rfl) (con_vo hw sf pa (N.old O0)) (argsL := [(.int pa)]) (W := 0) (rest := []) (by decide) (by decide) (by decide) (by decide) (by decide) (L := #[.val (.int nn), .val (.int fl), .val (.int pa), .val (.int pb), .val (.int pc'), .val (.int pd), .val (.int (3 : Int32)), .unset, .unset, .unset, .unset, .unset, .unset]) rfl pd2 rfl (Nat.le_of_eq rfl) (pc := 6) (by decide +kernel)
  have g3 : Ld p e below T2 (mkF m 9 #[.val (.int nn), .val (.int fl), .val (.int pa), .val (.int pb), .val (.int pc'), .val (.int pd), .val (.int (3 : Int32)), .unset, .unset, .unset, .unset, .unset, .unset] [(.ref y0)]) T2 (mkF m 12 #[.val (.int nn), .val (.int fl), .val (.int pa), .val (.int pb), .val (.int pc'), .val (.int pd), .val (.int (3 : Int32)), .val (.ref y0), .unset, .unset, .unset, .unset, .unset] [(.int pb)]) := goRun K N2 #[] [(9, .astore 7, 2), (11, .iload_n 3, 1)] [] (P := True) (by decide +kernel) rfl trivial
  obtain ⟨v4, T4, h4, N4, ⟨y1, rfl, Y1, KV⟩, g4⟩ := goS K N2 (tw hw 0 rfl) (tw hw 1 rfl) (tw hw 2 rfl) (tw hw 3 rfl) (con_vo hw sf pb (N2.old O0)) (argsL := [(.int pb)]) (W := 0) (rest := []) (by decide) (by decide) (by decide) (by decide) (by decide) (L := #[.val (.int nn), .val (.int fl), .val (.int pa), .val (.int pb), .val (.int pc'), .val (.int pd), .val (.int (3 : Int32)), .val (.ref y0), .unset, .unset, .unset, .unset, .unset]) rfl pd2 rfl (Nat.le_of_eq rfl) (pc := 12) (by decide +kernel)
  have Y0 := Y0.keep KV
  have g5 : Ld p e below T4 (mkF m 15 #[.val (.int nn), .val (.int fl), .val (.int pa), .val (.int pb), .val (.int pc'), .val (.int pd), .val (.int (3 : Int32)), .val (.ref y0), .unset, .unset, .unset, .unset, .unset] [(.ref y1)]) T4 (mkF m 19 #[.val (.int nn), .val (.int fl), .val (.int pa), .val (.int pb), .val (.int pc'), .val (.int pd), .val (.int (3 : Int32)), .val (.ref y0), .val (.ref y1), .unset, .unset, .unset, .unset] [(.int pc')]) := goRun K N4 #[] [(15, .astore 8, 2), (17, .iload 4, 2)] [] (P := True) (by decide +kernel) rfl trivial
  obtain ⟨v6, T6, h6, N6, ⟨y2, rfl, Y2, KV⟩, g6⟩ := goS K N4 (tw hw 0 rfl) (tw hw 1 rfl) (tw hw 2 rfl) (tw hw 3 rfl) (con_vo hw sf pc' (N4.old O0)) (argsL := [(.int pc')]) (W := 0) (rest := []) (by decide) (by decide) (by decide) (by decide) (by decide) (L := #[.val (.int nn), .val (.int fl), .val (.int pa), .val (.int pb), .val (.int pc'), .val (.int pd), .val (.int (3 : Int32)), .val (.ref y0), .val (.ref y1), .unset, .unset, .unset, .unset]) rfl pd2 rfl (Nat.le_of_eq rfl) (pc := 19) (by decide +kernel)
  have Y0 := Y0.keep KV
  have Y1 := Y1.keep KV
  have g7 : Ld p e below T6 (mkF m 22 #[.val (.int nn), .val (.int fl), .val (.int pa), .val (.int pb), .val (.int pc'), .val (.int pd), .val (.int (3 : Int32)), .val (.ref y0), .val (.ref y1), .unset, .unset, .unset, .unset] [(.ref y2)]) T6 (mkF m 24 #[.val (.int nn), .val (.int fl), .val (.int pa), .val (.int pb), .val (.int pc'), .val (.int pd), .val (.int (3 : Int32)), .val (.ref y0), .val (.ref y1), .val (.ref y2), .unset, .unset, .unset] []) := goRun K N6 #[] [(22, .astore 9, 2)] [] (P := True) (by decide +kernel) rfl trivial
  by_cases q1 : (fl &&& (1 : Int32)) = (0 : Int32)
  · exact Ends.pre (g1.trans (g2.trans (g3.trans (g4.trans (g5.trans (g6.trans g7)))))) (roadB3 hw sf K hret O0 N6 nn fl pa pb pc' pd Y0 Y1 Y2 q1)
  · exact Ends.pre (g1.trans (g2.trans (g3.trans (g4.trans (g5.trans (g6.trans g7)))))) (roadA3 hw sf K hret O0 N6 nn fl pa pb pc' pd Y0 Y1 Y2 q1)
set_option maxHeartbeats 4000000 in
theorem con_law (hw : ∀ d ∈ tables_1, d.before a0 Z = true) {ca : Addr} {cl : Cell} {da mo ma mr : Addr} (sf : SF Z ca cl da mo ma mr) (nn fl pa pb pc' pd : Int32) (O : Old Z n0 h) (ws : List Jvm.Cond) : Con l Z n0 x code maxLocals ret ws room_1 #[.int nn, .int fl, .int pa, .int pb, .int pc', .int pd] h (fun v _ => v = some (.int 1)) := by
  refine Con.ofH (plainFor_of_name pn0) (L0 := #[.val (.int nn), .val (.int fl), .val (.int pa), .val (.int pb), .val (.int pc'), .val (.int pd), .unset, .unset, .unset, .unset, .unset, .unset, .unset]) (fun m => by first | (simp [entryFrame, mkF, argsToLocals, Value.category, maxLocals]; done) | rfl) ?_
  intro p e s m below meth c T K hret hnm N hs
  have K : Cx Z "com/example/headers_to_descriptors/headerstodescriptors/ReadOnlyItemsCopyOfPinLaw" code maxLocals p m c := K
  have O0 : Old Z n0 s.heap := by rw [hs]; exact O
  have fin : Ends Z n0 p l e room_1 s m #[.int nn, .int fl, .int pa, .int pb, .int pc', .int pd] below meth c T (mkF m 0 #[.val (.int nn), .val (.int fl), .val (.int pa), .val (.int pb), .val (.int pc'), .val (.int pd), .unset, .unset, .unset, .unset, .unset, .unset, .unset] []) := by
    rcases and3 nn with e3 | e3 | e3 | e3
    · have g1 : Ld p e below T (mkF m 0 #[.val (.int nn), .val (.int fl), .val (.int pa), .val (.int pb), .val (.int pc'), .val (.int pd), .unset, .unset, .unset, .unset, .unset, .unset, .unset] []) T (mkF m 5 #[.val (.int nn), .val (.int fl), .val (.int pa), .val (.int pb), .val (.int pc'), .val (.int pd), .val (.int (nn &&& (3 : Int32))), .unset, .unset, .unset, .unset, .unset, .unset] []) := goRun K N #[] [(0, .iload_n 0, 1), (1, .iconst 3, 1), (2, .iand, 1), (3, .istore 6, 2)] [] (P := True) (by decide +kernel) rfl trivial
      rw [e3] at g1
      exact Ends.pre (g1) (start0 hw sf K hret O0 N nn fl pa pb pc' pd)
    · have g1 : Ld p e below T (mkF m 0 #[.val (.int nn), .val (.int fl), .val (.int pa), .val (.int pb), .val (.int pc'), .val (.int pd), .unset, .unset, .unset, .unset, .unset, .unset, .unset] []) T (mkF m 5 #[.val (.int nn), .val (.int fl), .val (.int pa), .val (.int pb), .val (.int pc'), .val (.int pd), .val (.int (nn &&& (3 : Int32))), .unset, .unset, .unset, .unset, .unset, .unset] []) := goRun K N #[] [(0, .iload_n 0, 1), (1, .iconst 3, 1), (2, .iand, 1), (3, .istore 6, 2)] [] (P := True) (by decide +kernel) rfl trivial
      rw [e3] at g1
      exact Ends.pre (g1) (start1 hw sf K hret O0 N nn fl pa pb pc' pd)
    · have g1 : Ld p e below T (mkF m 0 #[.val (.int nn), .val (.int fl), .val (.int pa), .val (.int pb), .val (.int pc'), .val (.int pd), .unset, .unset, .unset, .unset, .unset, .unset, .unset] []) T (mkF m 5 #[.val (.int nn), .val (.int fl), .val (.int pa), .val (.int pb), .val (.int pc'), .val (.int pd), .val (.int (nn &&& (3 : Int32))), .unset, .unset, .unset, .unset, .unset, .unset] []) := goRun K N #[] [(0, .iload_n 0, 1), (1, .iconst 3, 1), (2, .iand, 1), (3, .istore 6, 2)] [] (P := True) (by decide +kernel) rfl trivial
      rw [e3] at g1
      exact Ends.pre (g1) (start2 hw sf K hret O0 N nn fl pa pb pc' pd)
    · have g1 : Ld p e below T (mkF m 0 #[.val (.int nn), .val (.int fl), .val (.int pa), .val (.int pb), .val (.int pc'), .val (.int pd), .unset, .unset, .unset, .unset, .unset, .unset, .unset] []) T (mkF m 5 #[.val (.int nn), .val (.int fl), .val (.int pa), .val (.int pb), .val (.int pc'), .val (.int pd), .val (.int (nn &&& (3 : Int32))), .unset, .unset, .unset, .unset, .unset, .unset] []) := goRun K N #[] [(0, .iload_n 0, 1), (1, .iconst 3, 1), (2, .iand, 1), (3, .istore 6, 2)] [] (P := True) (by decide +kernel) rfl trivial
      rw [e3] at g1
      exact Ends.pre (g1) (start3 hw sf K hret O0 N nn fl pa pb pc' pd)
  obtain ⟨T', g', h', k, n, a1, a2, a3, a5, a6⟩ := fin
  exact ⟨_, T', g', h', k, n, a1, a2, a3, fun q => (nomatch q), rfl, a5, a6⟩
theorem own_int {args : Array Value} {first s : State} {o : Option Outcome} {idx : List Nat} {t : Term} {k : Int32} (h : (Jvm.Cond.eq t (.int k)).value args first o s idx = some true) : t.eval args first o idx s = some (.int k) := by
  simp only [Cond.value, Term.eval] at h
  cases ht : t.eval args first o idx s with
  | none => simp [ht] at h
  | some x => cases x <;> simp [ht] at h ⊢; exact h
set_option maxRecDepth 65536 in
set_option maxHeartbeats 4000000 in
theorem comes_1 {Post : Tables → Env → Array Value → State → Outcome → State → Prop} (hpost : ∀ tb e args s v u, (limb_1_1.after args s (.returned v) u = true ∧ limb_1_2.after args s (.returned v) u = true ∧ True) → FrameEnd s (.returned v) u (Jvm.fieldLocs frame_1_writes args s ++ Jvm.arrayLocs frame_1_arrays args s ++ Jvm.staticLocs frame_1_statics s) 24 128 → Post tb e args s (.returned v) u) :
    ArmFor flags0 classFile x code maxLocals ret World_1 tables_1 room_1 Calls_1 rest_1 Pre_1 Post := by
  intro l hfl _ _ p e ha hc hk s m args below hf hA hF happ hP
  obtain ⟨hcalls, hrest, hpre⟩ := hP
  obtain ⟨-, -, -, hnamed, -, -, -, hat⟩ := (Spec.applies_iff hf).mp happ
  obtain ⟨hg, hn⟩ := and_e (Cond.before_iff.mp (show (Jvm.Cond.and given_1 narrow_1).before args s = true from hpre))
  obtain ⟨hcnt, u0⟩ := and_e hg
  obtain ⟨k0, u1⟩ := and_e u0
  obtain ⟨k1, u2⟩ := and_e u1
  obtain ⟨k2, u3⟩ := and_e u2
  obtain ⟨k3, u4⟩ := and_e u3
  obtain ⟨k4, u5⟩ := and_e u4
  have k5 := u5
  obtain ⟨w0, w1, w2, w3, w4, w5, rfl⟩ : ∃ w0 w1 w2 w3 w4 w5 : Value, args = #[w0, w1, w2, w3, w4, w5] := by
    have hs : args.size = 6 := by simpa [Cond.value, given_1] using hcnt
    obtain ⟨L⟩ := args
    match L, hs with
    | [w0, w1, w2, w3, w4, w5], _ => exact ⟨w0, w1, w2, w3, w4, w5, rfl⟩
  have hw := fun d (hd : d ∈ tables_1) => atoms_spec (ws := Jvm.Cond.code x code maxLocals ret :: tables_1) hat d (List.mem_cons_of_mem _ hd)
  obtain ⟨i0, ei0⟩ := is_v k0
  obtain rfl : w0 = (.int i0) := Option.some.inj ei0
  obtain ⟨i1, ei1⟩ := is_v k1
  obtain rfl : w1 = (.int i1) := Option.some.inj ei1
  obtain ⟨i2, ei2⟩ := is_v k2
  obtain rfl : w2 = (.int i2) := Option.some.inj ei2
  obtain ⟨i3, ei3⟩ := is_v k3
  obtain rfl : w3 = (.int i3) := Option.some.inj ei3
  obtain ⟨i4, ei4⟩ := is_v k4
  obtain rfl : w4 = (.int i4) := Option.some.inj ei4
  obtain ⟨i5, ei5⟩ := is_v k5
  obtain rfl : w5 = (.int i5) := Option.some.inj ei5
  obtain ⟨hsets, hown0⟩ := atoms_of _ (rest_1_c_eq ▸ (show rest_1_c.before _ s = true from hrest))
  have e1 := own_int (Cond.before_iff.mp (hsets _ (List.mem_of_getElem? (i := 3) rfl)))
  have S1 : Sta s s.heap "java/lang/Integer$IntegerCache" "high" "I" (.int 127) := Sta.start e1 (Or.inl (hsets _ (List.mem_of_getElem? (i := 1) rfl)))
  obtain ⟨ca, eca⟩ := exa_v (Cond.before_iff.mp (hsets _ (List.mem_of_getElem? (i := 5) rfl)))
  have S2 : Sta s s.heap "java/lang/Integer$IntegerCache" "cache" "[Ljava/lang/Integer;" (.ref ca) := Sta.start eca (Or.inr ⟨(tw hw 5 rfl), (hsets _ (List.mem_of_getElem? (i := 2) rfl))⟩)
  obtain ⟨cl, AC⟩ := Arr.start eca (Cond.before_iff.mp (hsets _ (List.mem_of_getElem? (i := 4) rfl)))
  obtain ⟨l1, l2⟩ := len_ok (own_int (Cond.before_iff.mp (hsets _ (List.mem_of_getElem? (i := 6) rfl)))) eca AC
  have S3 : Bxs s ca cl "java/lang/Integer" "I" 256 (fun j => .int (j - 128)) := Bxs.start (fun _ => eca) AC l1 l2 (by decide) (Cond.before_iff.mp (hsets _ (List.mem_of_getElem? (i := 7) rfl))) (fun X j nn h => eqv_i (Term.sub_int (idx_at nn) (Term.int_eval (128))) h)
  obtain ⟨da, eda⟩ := exa_v (Cond.before_iff.mp (hsets _ (List.mem_of_getElem? (i := 15) rfl)))
  have S4 : Sta s s.heap "java/util/ArrayList" "DEFAULTCAPACITY_EMPTY_ELEMENTDATA" "[Ljava/lang/Object;" (.ref da) := Sta.start eda (Or.inr ⟨(tw hw 9 rfl), (hsets _ (List.mem_of_getElem? (i := 10) rfl))⟩)
  obtain ⟨cd, AD⟩ := Arr.start eda (Cond.before_iff.mp (hsets _ (List.mem_of_getElem? (i := 14) rfl)))
  obtain ⟨d1, d2⟩ := len_ok (own_int (Cond.before_iff.mp (hsets _ (List.mem_of_getElem? (i := 16) rfl)))) eda AD
  have S5 : Av s s.heap da (.object "java/lang/Object") [] := ⟨cd, AD, by
    have z := len_toInt d1
    rw [d2] at z
    have z2 : cd.slots.size = 0 := by have e0 : (0 : Int32).toInt = 0 := rfl; omega
    rw [Array.size_eq_zero_iff.mp z2], by decide⟩
  have S6 := Exa.start eda (Cond.before_iff.mp (hsets _ (List.mem_of_getElem? (i := 15) rfl)))
  obtain ⟨⟨c1, k1', mo, u1, u2', u3'⟩, ⟨c2, k2', ma, v1, v2, v3⟩, ⟨c3, k3', mr, t1, t2, t3⟩, -⟩ := hcalls
  have sf : SF s ca cl da mo ma mr := ⟨S1, S2, S3, S4, S5, S6, ⟨c1, k1', u1, u2', u3'.1⟩, ⟨c2, k2', v1, v2, v3.1⟩, ⟨c3, k3', t1, t2, t3.1⟩⟩
  obtain ⟨n, o, h1, h2, h3, _, L, rfl, ⟨_, N, rfl⟩, hq⟩ := (con_law (l := l) (Z := s) (n0 := s.heap.size) (h := s.heap) hw sf i0 i1 i2 i3 i4 i5 (Old.start s) tables_1) (Nat.le_refl _) p e ha hc hk s m _ below hf ((Spec.applies_iff_loose hf).mp happ).1 ⟨rfl, State.Warmed39.refl s, rfl⟩ trivial
  refine ⟨n, _, h1, h2, h3, hpost _ _ _ _ _ _ ⟨Cond.after_iff.mpr rfl, Cond.after_iff.mpr (eq_i res_at (Term.int_eval (1)) rfl), trivial⟩ ⟨hq.1, hq.2.1, (hq.2.2.sift fun y hy => Or.inr (N y hy)).mono (by decide) (by decide)⟩⟩
theorem main_1_1 : Claimed_1_1 := comes_1 fun _ _ _ _ _ _ h hF => ⟨h.1, hF⟩
theorem main_1_2 : Claimed_1_2 := comes_1 fun _ _ _ _ _ _ h hF => ⟨h.2.1, hF⟩
end Jvm.Pilot.@@N@@
namespace Jvm.Pilot.@@N@@
open Jvm Jvm.ClassFile Sem Op Lib Jvm.Free Jvm.Stand Jvm.Pilot.@@N@@.Jvm.D
/-! MADE BY PROGRAM (witnessworld.py) out of the Statement's table words and the real class files: 29 classes; the members and pool entries that the words name. The judged class is class 1, her method 2. -/
namespace start1
open Jvm.ClassFile
def u (s : String) : CpInfo := .utf8 (stringToUtf16 s)
/-- a pool by its gaps: so many unusable entries, then the entry; so many at the end -/
def gap : Nat → List CpInfo → List CpInfo
  | 0, r => r
  | n + 1, r => .unusable :: gap n r
def poolList (es : List (Nat × CpInfo)) (last : Nat) : List CpInfo := es.foldr (fun e r => gap e.1 (e.2 :: r)) (gap last [])
def pool (es : List (Nat × CpInfo)) (last : Nat) : Array CpInfo := ⟨poolList es last⟩
def fileOf (pool : Array CpInfo) (this : Nat) (attrs : Array Attribute := #[]) (ms : Array MethodInfo := #[]) (fl : Nat := 33) (sup : Nat := 0) (ifs : Array Nat := #[]) (fds : Array FieldInfo := #[]) : ClassFile where
  minorVersion := 0
  majorVersion := 65
  constantPool := pool
  accessFlags := fl
  thisClass := this
  superClass := sup
  interfaces := ifs
  fields := fds
  methods := ms
  attributes := attrs
def plain (name : String) (sup : Option ClassId) : Class where
  name := name
  kind := .ordinary
  loader := none
  accessFlags := 33
  super := sup
  interfaces := #[]
  cf := none
  fields := #[]
  methods := #[]
  instanceTypes := #[]
  staticTypes := #[]
  resolved := #[]
  callSites := []
  init := .initialized
  statics := none
  mirror := none

def pool0 : Array CpInfo := pool [(5, u "<init>"), (0, u "()V"), (1, .class_ 10), (1, u "java/lang/Object"), (0, u "getClass"), (0, u "()Ljava/lang/Class;"), (83, u "clone"), (0, u "()Ljava/lang/Object;")] 26

def k0c0 : Code := { maxStack := 0, maxLocals := 1, code := object_method_1_code, exceptionTable := #[], attributes := #[] }
def k0m0 : Method := { name := "<init>", desc := "()V", sig := { parameters := [], returnType := none }, accessFlags := 1, code := some k0c0 }
def k0m1 : Method := { name := "getClass", desc := "()Ljava/lang/Class;", sig := { parameters := [], returnType := some (.object "java/lang/Class") }, accessFlags := 273, code := none }
def k0m2 : Method := { name := "clone", desc := "()Ljava/lang/Object;", sig := { parameters := [], returnType := some (.object "java/lang/Object") }, accessFlags := 260, code := none }
/-- java/lang/Object -/
def k0 : Class := { plain "java/lang/Object" none with
  accessFlags := 33
  interfaces := #[]
  cf := some (fileOf pool0 8 #[] #[{ accessFlags := 1, nameIndex := 5, descriptorIndex := 6, attributes := #[] }, { accessFlags := 273, nameIndex := 11, descriptorIndex := 12, attributes := #[] }, { accessFlags := 260, nameIndex := 96, descriptorIndex := 97, attributes := #[] }] 33 0 #[] #[])
  fields := #[]
  methods := #[k0m0, k0m1, k0m2]
  instanceTypes := #[]
  staticTypes := #[]
  resolved := Array.replicate 124 none
  statics := none }

def pool1 : Array CpInfo := pool [(2, .class_ 4), (0, .nameAndType 5 6), (0, u "java/lang/Object"), (0, u "<init>"), (0, u "()V"), (0, .methodref 8 9), (0, .class_ 10), (0, .nameAndType 11 12), (0, u "java/lang/Integer"), (0, u "valueOf"), (0, u "(I)Ljava/lang/Integer;"), (0, .class_ 14), (0, u "java/util/ArrayList"), (0, .methodref 13 3), (0, .methodref 13 17), (0, .nameAndType 18 19), (0, u "add"), (0, u "(Ljava/lang/Object;)Z"), (0, .methodref 21 22), (0, .class_ 23), (0, .nameAndType 24 25), (0, u "com/example/headers_to_descriptors/headerstodescriptors/ReadOnlyItems"), (0, u "copyOf"), (0, u "(Ljava/util/List;)Lcom/example/headers_to_descriptors/headerstodescriptors/ReadOnlyItems;"), (0, .methodref 27 28), (0, .class_ 29), (0, .nameAndType 30 31), (0, u "com/example/headers_to_descriptors/headerstodescriptors/ReadOnlyItemsCopyOfPinLaw"), (0, u "pick"), (0, u "(ILjava/lang/Object;Ljava/lang/Object;Ljava/lang/Object;)[Ljava/lang/Object;"), (0, .methodref 21 33), (0, .nameAndType 5 34), (0, u "([Ljava/lang/Object;)V"), (0, .methodref 21 36), (0, .nameAndType 37 38), (0, u "size"), (0, u "()I"), (0, .methodref 21 40), (0, .nameAndType 41 42), (0, u "get"), (0, u "(I)Ljava/lang/Object;"), (3, u "law"), (0, u "(IIIIII)Z")] 4

def k1m0 : Method := { name := "<init>", desc := "()V", sig := { parameters := [], returnType := none }, accessFlags := 1, code := none }
def k1c1 : Code := { maxStack := 4, maxLocals := 4, code := method_2_code, exceptionTable := #[], attributes := #[] }
def k1m1 : Method := { name := "pick", desc := "(ILjava/lang/Object;Ljava/lang/Object;Ljava/lang/Object;)[Ljava/lang/Object;", sig := { parameters := [.int, (.object "java/lang/Object"), (.object "java/lang/Object"), (.object "java/lang/Object")], returnType := some (.array (.object "java/lang/Object")) }, accessFlags := 10, code := some k1c1 }
def k1c2 : Code := { maxStack := 4, maxLocals := 13, code := code, exceptionTable := #[], attributes := #[] }
def k1m2 : Method := { name := "law", desc := "(IIIIII)Z", sig := { parameters := [.int, .int, .int, .int, .int, .int], returnType := some .boolean }, accessFlags := 9, code := some k1c2 }
/-- com/example/headers_to_descriptors/headerstodescriptors/ReadOnlyItemsCopyOfPinLaw -/
def k1 : Class := { plain "com/example/headers_to_descriptors/headerstodescriptors/ReadOnlyItemsCopyOfPinLaw" (some 0) with
  accessFlags := 49
  interfaces := #[]
  cf := some (fileOf pool1 27 #[] #[{ accessFlags := 1, nameIndex := 5, descriptorIndex := 6, attributes := #[] }, { accessFlags := 10, nameIndex := 30, descriptorIndex := 31, attributes := #[] }, { accessFlags := 9, nameIndex := 46, descriptorIndex := 47, attributes := #[] }] 49 2 #[] #[])
  fields := #[]
  methods := #[k1m0, k1m1, k1m2]
  instanceTypes := #[]
  staticTypes := #[]
  resolved := Array.replicate 52 none
  statics := none }

def pool2 : Array CpInfo := pool [(1, .class_ 2), (0, u "java/io/Serializable"), (0, .class_ 4), (0, u "java/lang/Object")] 2

/-- java/io/Serializable -/
def k2 : Class := { plain "java/io/Serializable" (some 0) with
  accessFlags := 1537
  interfaces := #[]
  cf := some (fileOf pool2 1 #[] #[] 1537 3 #[] #[])
  fields := #[]
  methods := #[]
  instanceTypes := #[]
  staticTypes := #[]
  resolved := Array.replicate 7 none
  statics := none }

def pool3 : Array CpInfo := pool [(1, .methodref 2 3), (0, .class_ 4), (0, .nameAndType 5 6), (0, u "java/lang/Object"), (0, u "<init>"), (0, u "()V"), (1, .class_ 10), (1, u "java/lang/Number"), (2, .class_ 14), (0, u "java/io/Serializable"), (0, u "serialVersionUID"), (0, u "J")] 20

def k3c0 : Code := { maxStack := 1, maxLocals := 1, code := jdk_18_method_1_code, exceptionTable := #[], attributes := #[] }
def k3m0 : Method := { name := "<init>", desc := "()V", sig := { parameters := [], returnType := none }, accessFlags := 1, code := some k3c0 }
/-- java/lang/Number -/
def k3 : Class := { plain "java/lang/Number" (some 0) with
  accessFlags := 1057
  interfaces := #[2]
  cf := some (fileOf pool3 8 #[] #[{ accessFlags := 1, nameIndex := 5, descriptorIndex := 6, attributes := #[] }] 1057 2 #[13] #[{ accessFlags := 26, nameIndex := 15, descriptorIndex := 16, attributes := #[] }])
  fields := #[{ name := "serialVersionUID", type := .long, accessFlags := 26, slot := 0, constantValue := 0 }]
  methods := #[k3m0]
  instanceTypes := #[]
  staticTypes := #[.long]
  resolved := Array.replicate 37 none
  statics := none }

def pool4 : Array CpInfo := pool [(1, .class_ 2), (0, u "java/lang/Comparable"), (0, .class_ 4), (0, u "java/lang/Object")] 7

/-- java/lang/Comparable -/
def k4 : Class := { plain "java/lang/Comparable" (some 0) with
  accessFlags := 1537
  interfaces := #[]
  cf := some (fileOf pool4 1 #[] #[] 1537 3 #[] #[])
  fields := #[]
  methods := #[]
  instanceTypes := #[]
  staticTypes := #[]
  resolved := Array.replicate 12 none
  statics := none }

def pool5 : Array CpInfo := pool [(1, .class_ 2), (0, u "java/lang/constant/Constable"), (0, .class_ 4), (0, u "java/lang/Object")] 6

/-- java/lang/constant/Constable -/
def k5 : Class := { plain "java/lang/constant/Constable" (some 0) with
  accessFlags := 1537
  interfaces := #[]
  cf := some (fileOf pool5 1 #[] #[] 1537 3 #[] #[])
  fields := #[]
  methods := #[]
  instanceTypes := #[]
  staticTypes := #[]
  resolved := Array.replicate 11 none
  statics := none }

def pool6 : Array CpInfo := pool [(1, .class_ 2), (0, u "java/lang/constant/ConstantDesc"), (0, .class_ 4), (0, u "java/lang/Object")] 32

/-- java/lang/constant/ConstantDesc -/
def k6 : Class := { plain "java/lang/constant/ConstantDesc" (some 0) with
  accessFlags := 1537
  interfaces := #[]
  cf := some (fileOf pool6 1 #[] #[] 1537 3 #[] #[])
  fields := #[]
  methods := #[]
  instanceTypes := #[]
  staticTypes := #[]
  resolved := Array.replicate 37 none
  statics := none }

def pool7 : Array CpInfo := pool [(1, .class_ 2), (0, u "java/lang/Integer"), (16, u "digits"), (0, u "[C"), (46, u "<init>"), (17, u "DigitOnes"), (0, u "[B"), (2, u "DigitTens"), (10, .nameAndType 67 101), (0, u "()V"), (85, u "valueOf"), (0, u "(I)Ljava/lang/Integer;"), (0, .class_ 190), (0, u "java/lang/Integer$IntegerCache"), (0, .fieldref 189 192), (0, .nameAndType 193 194), (0, u "high"), (0, u "I"), (0, .fieldref 189 196), (0, .nameAndType 197 198), (0, u "cache"), (0, u "[Ljava/lang/Integer;"), (0, .methodref 1 200), (0, .nameAndType 67 201), (0, u "(I)V"), (0, .methodref 203 100), (0, .class_ 204), (0, u "java/lang/Number"), (0, .fieldref 1 206), (0, .nameAndType 207 194), (0, u "value"), (94, u "TYPE"), (0, u "Ljava/lang/Class;"), (0, .class_ 305), (0, u "java/lang/Comparable"), (0, .class_ 307), (0, u "java/lang/constant/Constable"), (0, .class_ 309), (0, u "java/lang/constant/ConstantDesc"), (0, u "MIN_VALUE"), (1, u "MAX_VALUE"), (3, u "SIZE"), (1, u "BYTES"), (1, u "serialVersionUID"), (0, u "J")] 131

def k7c0 : Code := { maxStack := 3, maxLocals := 1, code := jdk_33_method_22_code, exceptionTable := #[], attributes := #[] }
def k7m0 : Method := { name := "valueOf", desc := "(I)Ljava/lang/Integer;", sig := { parameters := [.int], returnType := some (.object "java/lang/Integer") }, accessFlags := 9, code := some k7c0 }
def k7c1 : Code := { maxStack := 2, maxLocals := 2, code := jdk_33_method_23_code, exceptionTable := #[], attributes := #[] }
def k7m1 : Method := { name := "<init>", desc := "(I)V", sig := { parameters := [.int], returnType := none }, accessFlags := 1, code := some k7c1 }
/-- java/lang/Integer -/
def k7 : Class := { plain "java/lang/Integer" (some 3) with
  accessFlags := 49
  interfaces := #[4, 5, 6]
  cf := some (fileOf pool7 1 #[.nestMembers #[189]] #[{ accessFlags := 9, nameIndex := 187, descriptorIndex := 188, attributes := #[] }, { accessFlags := 1, nameIndex := 67, descriptorIndex := 201, attributes := #[] }] 49 203 #[304, 306, 308] #[{ accessFlags := 25, nameIndex := 310, descriptorIndex := 194, attributes := #[] }, { accessFlags := 25, nameIndex := 312, descriptorIndex := 194, attributes := #[] }, { accessFlags := 25, nameIndex := 302, descriptorIndex := 303, attributes := #[] }, { accessFlags := 24, nameIndex := 19, descriptorIndex := 20, attributes := #[] }, { accessFlags := 24, nameIndex := 89, descriptorIndex := 86, attributes := #[] }, { accessFlags := 24, nameIndex := 85, descriptorIndex := 86, attributes := #[] }, { accessFlags := 18, nameIndex := 207, descriptorIndex := 194, attributes := #[] }, { accessFlags := 25, nameIndex := 316, descriptorIndex := 194, attributes := #[] }, { accessFlags := 25, nameIndex := 318, descriptorIndex := 194, attributes := #[] }, { accessFlags := 26, nameIndex := 320, descriptorIndex := 321, attributes := #[] }])
  fields := #[{ name := "MIN_VALUE", type := .int, accessFlags := 25, slot := 0, constantValue := 0 }, { name := "MAX_VALUE", type := .int, accessFlags := 25, slot := 1, constantValue := 0 }, { name := "TYPE", type := (.object "java/lang/Class"), accessFlags := 25, slot := 2, constantValue := 0 }, { name := "digits", type := (.array .char), accessFlags := 24, slot := 3, constantValue := 0 }, { name := "DigitTens", type := (.array .byte), accessFlags := 24, slot := 4, constantValue := 0 }, { name := "DigitOnes", type := (.array .byte), accessFlags := 24, slot := 5, constantValue := 0 }, { name := "value", type := .int, accessFlags := 18, slot := 0, constantValue := 0 }, { name := "SIZE", type := .int, accessFlags := 25, slot := 6, constantValue := 0 }, { name := "BYTES", type := .int, accessFlags := 25, slot := 7, constantValue := 0 }, { name := "serialVersionUID", type := .long, accessFlags := 26, slot := 8, constantValue := 0 }]
  methods := #[k7m0, k7m1]
  instanceTypes := #[.int]
  staticTypes := #[.int, .int, (.object "java/lang/Class"), (.array .char), (.array .byte), (.array .byte), .int, .int, .long]
  resolved := Array.replicate 453 none
  statics := none }

def pool8 : Array CpInfo := pool [(2, .class_ 4), (1, u "java/lang/Object"), (0, u "<init>"), (0, u "()V"), (0, .class_ 8), (0, u "java/lang/Integer"), (7, .class_ 18), (1, u "java/lang/Integer$IntegerCache"), (0, u "$assertionsDisabled"), (0, u "Z"), (26, u "high"), (0, u "I"), (8, u "archivedCache"), (0, u "[Ljava/lang/Integer;"), (12, u "cache"), (0, u "low")] 27

def k8m0 : Method := { name := "<init>", desc := "()V", sig := { parameters := [], returnType := none }, accessFlags := 2, code := none }
/-- java/lang/Integer$IntegerCache -/
def k8 : Class := { plain "java/lang/Integer$IntegerCache" (some 0) with
  accessFlags := 48
  interfaces := #[]
  cf := some (fileOf pool8 16 #[.nestHost 7] #[{ accessFlags := 2, nameIndex := 5, descriptorIndex := 6, attributes := #[] }] 48 2 #[] #[{ accessFlags := 24, nameIndex := 72, descriptorIndex := 48, attributes := #[] }, { accessFlags := 24, nameIndex := 47, descriptorIndex := 48, attributes := #[] }, { accessFlags := 24, nameIndex := 71, descriptorIndex := 58, attributes := #[] }, { accessFlags := 8, nameIndex := 57, descriptorIndex := 58, attributes := #[] }, { accessFlags := 4120, nameIndex := 19, descriptorIndex := 20, attributes := #[] }])
  fields := #[{ name := "low", type := .int, accessFlags := 24, slot := 0, constantValue := 0 }, { name := "high", type := .int, accessFlags := 24, slot := 1, constantValue := 0 }, { name := "cache", type := (.array (.object "java/lang/Integer")), accessFlags := 24, slot := 2, constantValue := 0 }, { name := "archivedCache", type := (.array (.object "java/lang/Integer")), accessFlags := 8, slot := 3, constantValue := 0 }, { name := "$assertionsDisabled", type := .boolean, accessFlags := 4120, slot := 4, constantValue := 0 }]
  methods := #[k8m0]
  instanceTypes := #[]
  staticTypes := #[.int, .int, (.array (.object "java/lang/Integer")), (.array (.object "java/lang/Integer")), .boolean]
  resolved := Array.replicate 100 none
  statics := some 0 }

def pool9 : Array CpInfo := pool [(8, .class_ 10), (1, u "java/lang/Iterable"), (24, .class_ 36), (0, u "java/lang/Object")] 25

/-- java/lang/Iterable -/
def k9 : Class := { plain "java/lang/Iterable" (some 0) with
  accessFlags := 1537
  interfaces := #[]
  cf := some (fileOf pool9 8 #[] #[] 1537 35 #[] #[])
  fields := #[]
  methods := #[]
  instanceTypes := #[]
  staticTypes := #[]
  resolved := Array.replicate 62 none
  statics := none }

def pool10 : Array CpInfo := pool [(10, .class_ 12), (1, u "java/util/Collection"), (47, .class_ 61), (0, u "java/lang/Object"), (0, .class_ 63), (0, u "java/lang/Iterable")] 51

/-- java/util/Collection -/
def k10 : Class := { plain "java/util/Collection" (some 0) with
  accessFlags := 1537
  interfaces := #[9]
  cf := some (fileOf pool10 10 #[] #[] 1537 60 #[62] #[])
  fields := #[]
  methods := #[]
  instanceTypes := #[]
  staticTypes := #[]
  resolved := Array.replicate 115 none
  statics := none }

def pool11 : Array CpInfo := pool [(1, .methodref 2 3), (0, .class_ 4), (0, .nameAndType 5 6), (0, u "java/lang/Object"), (0, u "<init>"), (0, u "()V"), (1, .class_ 10), (1, u "java/util/AbstractCollection"), (66, .class_ 78), (0, u "java/util/Collection")] 81

def k11c0 : Code := { maxStack := 1, maxLocals := 1, code := jdk_22_method_1_code, exceptionTable := #[], attributes := #[] }
def k11m0 : Method := { name := "<init>", desc := "()V", sig := { parameters := [], returnType := none }, accessFlags := 4, code := some k11c0 }
/-- java/util/AbstractCollection -/
def k11 : Class := { plain "java/util/AbstractCollection" (some 0) with
  accessFlags := 1057
  interfaces := #[10]
  cf := some (fileOf pool11 8 #[] #[{ accessFlags := 4, nameIndex := 5, descriptorIndex := 6, attributes := #[] }] 1057 2 #[77] #[])
  fields := #[]
  methods := #[k11m0]
  instanceTypes := #[]
  staticTypes := #[]
  resolved := Array.replicate 160 none
  statics := none }

def pool12 : Array CpInfo := pool [(8, .class_ 10), (1, u "java/util/SequencedCollection"), (15, .class_ 27), (0, u "java/lang/Object"), (0, .class_ 29), (0, u "java/util/Collection")] 27

/-- java/util/SequencedCollection -/
def k12 : Class := { plain "java/util/SequencedCollection" (some 0) with
  accessFlags := 1537
  interfaces := #[10]
  cf := some (fileOf pool12 8 #[] #[] 1537 26 #[28] #[])
  fields := #[]
  methods := #[]
  instanceTypes := #[]
  staticTypes := #[]
  resolved := Array.replicate 57 none
  statics := none }

def pool13 : Array CpInfo := pool [(8, .class_ 10), (1, u "java/util/List"), (23, u "toArray"), (0, u "()[Ljava/lang/Object;"), (67, .class_ 104), (0, u "java/lang/Object"), (15, .class_ 121), (0, u "java/util/SequencedCollection")] 129

def k13m0 : Method := { name := "toArray", desc := "()[Ljava/lang/Object;", sig := { parameters := [], returnType := some (.array (.object "java/lang/Object")) }, accessFlags := 1025, code := none }
/-- java/util/List -/
def k13 : Class := { plain "java/util/List" (some 0) with
  accessFlags := 1537
  interfaces := #[12]
  cf := some (fileOf pool13 8 #[] #[{ accessFlags := 1025, nameIndex := 34, descriptorIndex := 35, attributes := #[] }] 1537 103 #[120] #[])
  fields := #[]
  methods := #[k13m0]
  instanceTypes := #[]
  staticTypes := #[]
  resolved := Array.replicate 251 none
  statics := none }

def pool14 : Array CpInfo := pool [(1, .methodref 2 3), (0, .class_ 4), (0, .nameAndType 5 6), (0, u "java/util/AbstractCollection"), (0, u "<init>"), (0, u "()V"), (0, .fieldref 8 9), (0, .class_ 10), (0, .nameAndType 11 12), (0, u "java/util/AbstractList"), (0, u "modCount"), (0, u "I"), (64, .class_ 78), (0, u "java/util/AbstractList$Itr"), (3, .class_ 83), (0, u "java/util/AbstractList$ListItr"), (9, .class_ 94), (0, u "java/util/AbstractList$RandomAccessSubList"), (3, .class_ 99), (0, u "java/util/AbstractList$SubList"), (33, .class_ 134), (0, u "java/util/List"), (73, .class_ 209), (0, u "java/util/AbstractList$SubList$1"), (0, .class_ 211), (0, u "java/util/AbstractList$RandomAccessSpliterator")] 6

def k14c0 : Code := { maxStack := 2, maxLocals := 1, code := jdk_39_method_1_code, exceptionTable := #[], attributes := #[] }
def k14m0 : Method := { name := "<init>", desc := "()V", sig := { parameters := [], returnType := none }, accessFlags := 4, code := some k14c0 }
/-- java/util/AbstractList -/
def k14 : Class := { plain "java/util/AbstractList" (some 11) with
  accessFlags := 1057
  interfaces := #[13]
  cf := some (fileOf pool14 8 #[.nestMembers #[93, 98, 208, 210, 82, 77]] #[{ accessFlags := 4, nameIndex := 5, descriptorIndex := 6, attributes := #[] }] 1057 2 #[133] #[{ accessFlags := 132, nameIndex := 11, descriptorIndex := 12, attributes := #[] }])
  fields := #[{ name := "modCount", type := .int, accessFlags := 132, slot := 0, constantValue := 0 }]
  methods := #[k14m0]
  instanceTypes := #[.int]
  staticTypes := #[]
  resolved := Array.replicate 218 none
  statics := none }

def pool15 : Array CpInfo := pool [(1, .class_ 2), (0, u "java/util/RandomAccess"), (0, .class_ 4), (0, u "java/lang/Object")] 2

/-- java/util/RandomAccess -/
def k15 : Class := { plain "java/util/RandomAccess" (some 0) with
  accessFlags := 1537
  interfaces := #[]
  cf := some (fileOf pool15 1 #[] #[] 1537 3 #[] #[])
  fields := #[]
  methods := #[]
  instanceTypes := #[]
  staticTypes := #[]
  resolved := Array.replicate 7 none
  statics := none }

def pool16 : Array CpInfo := pool [(1, .class_ 2), (0, u "java/lang/Cloneable"), (0, .class_ 4), (0, u "java/lang/Object")] 2

/-- java/lang/Cloneable -/
def k16 : Class := { plain "java/lang/Cloneable" (some 0) with
  accessFlags := 1537
  interfaces := #[]
  cf := some (fileOf pool16 1 #[] #[] 1537 3 #[] #[])
  fields := #[]
  methods := #[]
  instanceTypes := #[]
  staticTypes := #[]
  resolved := Array.replicate 7 none
  statics := none }

def pool17 : Array CpInfo := pool [(1, .methodref 2 3), (0, .class_ 4), (0, .nameAndType 5 6), (0, u "java/util/AbstractList"), (0, u "<init>"), (0, u "()V"), (0, .class_ 8), (0, u "java/lang/Object"), (0, .fieldref 10 11), (0, .class_ 12), (0, .nameAndType 13 14), (0, u "java/util/ArrayList"), (0, u "elementData"), (0, u "[Ljava/lang/Object;"), (2, u "EMPTY_ELEMENTDATA"), (21, .fieldref 10 40), (0, .nameAndType 41 14), (0, u "DEFAULTCAPACITY_EMPTY_ELEMENTDATA"), (4, u "toArray"), (0, u "()[Ljava/lang/Object;"), (0, .fieldref 10 49), (0, .nameAndType 50 51), (0, u "size"), (0, u "I"), (6, .class_ 60), (1, u "java/util/Arrays"), (0, u "copyOf"), (1, .fieldref 10 64), (0, .nameAndType 65 51), (0, u "modCount"), (0, .methodref 58 67), (0, .nameAndType 61 68), (0, u "([Ljava/lang/Object;I)[Ljava/lang/Object;"), (0, .methodref 10 70), (0, .nameAndType 71 72), (0, u "grow"), (0, u "(I)[Ljava/lang/Object;"), (6, .methodref 80 81), (0, .class_ 82), (0, .nameAndType 83 84), (0, u "java/lang/Math"), (0, u "max"), (0, u "(II)I"), (11, u "(Ljava/lang/Object;)Z"), (32, .methodref 10 130), (0, .nameAndType 71 47), (0, .methodref 10 132), (0, .nameAndType 133 134), (0, u "add"), (0, u "(Ljava/lang/Object;[Ljava/lang/Object;I)V"), (13, .class_ 149), (0, u "java/util/List"), (112, .class_ 263), (0, u "java/util/ArrayList$ListItr"), (3, .class_ 268), (0, u "java/util/ArrayList$Itr"), (7, .class_ 277), (0, u "java/util/ArrayList$SubList"), (12, .class_ 291), (0, u "java/util/ArrayList$ArrayListSpliterator"), (37, .class_ 330), (0, u "java/util/RandomAccess"), (0, .class_ 332), (0, u "java/lang/Cloneable"), (0, .class_ 334), (0, u "java/io/Serializable"), (0, u "serialVersionUID"), (0, u "J"), (3, u "DEFAULT_CAPACITY"), (159, .class_ 501), (0, u "java/util/ArrayList$SubList$2"), (0, .class_ 503), (0, u "java/util/ArrayList$SubList$1")] 5

def k17c0 : Code := { maxStack := 2, maxLocals := 1, code := jdk_38_method_2_code, exceptionTable := #[], attributes := #[] }
def k17m0 : Method := { name := "<init>", desc := "()V", sig := { parameters := [], returnType := none }, accessFlags := 1, code := some k17c0 }
def k17c1 : Code := { maxStack := 4, maxLocals := 4, code := jdk_38_method_6_code, exceptionTable := #[], attributes := #[] }
def k17m1 : Method := { name := "grow", desc := "(I)[Ljava/lang/Object;", sig := { parameters := [.int], returnType := some (.array (.object "java/lang/Object")) }, accessFlags := 2, code := some k17c1 }
def k17c2 : Code := { maxStack := 3, maxLocals := 1, code := jdk_38_method_7_code, exceptionTable := #[], attributes := #[] }
def k17m2 : Method := { name := "grow", desc := "()[Ljava/lang/Object;", sig := { parameters := [], returnType := some (.array (.object "java/lang/Object")) }, accessFlags := 2, code := some k17c2 }
def k17c3 : Code := { maxStack := 2, maxLocals := 1, code := jdk_38_method_16_code, exceptionTable := #[], attributes := #[] }
def k17m3 : Method := { name := "toArray", desc := "()[Ljava/lang/Object;", sig := { parameters := [], returnType := some (.array (.object "java/lang/Object")) }, accessFlags := 1, code := some k17c3 }
def k17c4 : Code := { maxStack := 3, maxLocals := 4, code := jdk_38_method_24_code, exceptionTable := #[], attributes := #[] }
def k17m4 : Method := { name := "add", desc := "(Ljava/lang/Object;[Ljava/lang/Object;I)V", sig := { parameters := [(.object "java/lang/Object"), (.array (.object "java/lang/Object")), .int], returnType := none }, accessFlags := 2, code := some k17c4 }
def k17c5 : Code := { maxStack := 4, maxLocals := 2, code := jdk_38_method_25_code, exceptionTable := #[], attributes := #[] }
def k17m5 : Method := { name := "add", desc := "(Ljava/lang/Object;)Z", sig := { parameters := [(.object "java/lang/Object")], returnType := some .boolean }, accessFlags := 1, code := some k17c5 }
/-- java/util/ArrayList -/
def k17 : Class := { plain "java/util/ArrayList" (some 14) with
  accessFlags := 33
  interfaces := #[13, 15, 16, 2]
  cf := some (fileOf pool17 10 #[.nestMembers #[290, 276, 500, 502, 262, 267]] #[{ accessFlags := 1, nameIndex := 5, descriptorIndex := 6, attributes := #[] }, { accessFlags := 2, nameIndex := 71, descriptorIndex := 72, attributes := #[] }, { accessFlags := 2, nameIndex := 71, descriptorIndex := 47, attributes := #[] }, { accessFlags := 1, nameIndex := 46, descriptorIndex := 47, attributes := #[] }, { accessFlags := 2, nameIndex := 133, descriptorIndex := 134, attributes := #[] }, { accessFlags := 1, nameIndex := 133, descriptorIndex := 96, attributes := #[] }] 33 2 #[148, 329, 331, 333] #[{ accessFlags := 26, nameIndex := 335, descriptorIndex := 336, attributes := #[] }, { accessFlags := 26, nameIndex := 340, descriptorIndex := 51, attributes := #[] }, { accessFlags := 26, nameIndex := 17, descriptorIndex := 14, attributes := #[] }, { accessFlags := 26, nameIndex := 41, descriptorIndex := 14, attributes := #[] }, { accessFlags := 128, nameIndex := 13, descriptorIndex := 14, attributes := #[] }, { accessFlags := 2, nameIndex := 50, descriptorIndex := 51, attributes := #[] }])
  fields := #[{ name := "serialVersionUID", type := .long, accessFlags := 26, slot := 0, constantValue := 0 }, { name := "DEFAULT_CAPACITY", type := .int, accessFlags := 26, slot := 1, constantValue := 0 }, { name := "EMPTY_ELEMENTDATA", type := (.array (.object "java/lang/Object")), accessFlags := 26, slot := 2, constantValue := 0 }, { name := "DEFAULTCAPACITY_EMPTY_ELEMENTDATA", type := (.array (.object "java/lang/Object")), accessFlags := 26, slot := 3, constantValue := 0 }, { name := "elementData", type := (.array (.object "java/lang/Object")), accessFlags := 128, slot := 1, constantValue := 0 }, { name := "size", type := .int, accessFlags := 2, slot := 2, constantValue := 0 }]
  methods := #[k17m0, k17m1, k17m2, k17m3, k17m4, k17m5]
  instanceTypes := #[.int, (.array (.object "java/lang/Object")), .int]
  staticTypes := #[.long, .int, (.array (.object "java/lang/Object")), (.array (.object "java/lang/Object"))]
  resolved := Array.replicate 509 none
  mirror := some 3
  statics := some 1 }

def pool18 : Array CpInfo := pool [(1, .methodref 2 3), (0, .class_ 4), (0, .nameAndType 5 6), (0, u "java/util/AbstractList"), (0, u "<init>"), (0, u "()V"), (0, .fieldref 8 9), (0, .class_ 10), (0, .nameAndType 11 12), (0, u "com/example/headers_to_descriptors/headerstodescriptors/ReadOnlyItems"), (0, u "items"), (0, u "[Ljava/lang/Object;"), (0, .interfaceMethodref 14 15), (0, .class_ 16), (0, .nameAndType 17 18), (0, u "java/util/List"), (0, u "toArray"), (0, u "()[Ljava/lang/Object;"), (0, .interfaceMethodref 14 20), (0, .nameAndType 21 22), (0, u "getClass"), (0, u "()Ljava/lang/Class;"), (0, .class_ 24), (0, u "java/util/ArrayList"), (0, .class_ 12), (0, .methodref 27 28), (0, .class_ 29), (0, .nameAndType 30 31), (0, u "java/util/Arrays"), (0, u "copyOf"), (0, u "([Ljava/lang/Object;ILjava/lang/Class;)[Ljava/lang/Object;"), (0, .methodref 8 33), (0, .nameAndType 5 34), (0, u "([Ljava/lang/Object;)V"), (0, .methodref 25 36), (0, .nameAndType 37 38), (0, u "clone"), (0, u "()Ljava/lang/Object;"), (0, .class_ 40), (0, u "java/util/RandomAccess"), (2, u "(Ljava/util/List;)Lcom/example/headers_to_descriptors/headerstodescriptors/ReadOnlyItems;"), (3, u "get"), (0, u "(I)Ljava/lang/Object;"), (0, u "size"), (0, u "()I")] 3

def k18c0 : Code := { maxStack := 2, maxLocals := 2, code := prog_7_method_1_code, exceptionTable := #[], attributes := #[] }
def k18m0 : Method := { name := "<init>", desc := "([Ljava/lang/Object;)V", sig := { parameters := [(.array (.object "java/lang/Object"))], returnType := none }, accessFlags := 0, code := some k18c0 }
def k18c1 : Code := { maxStack := 5, maxLocals := 2, code := prog_7_method_2_code, exceptionTable := #[], attributes := #[] }
def k18m1 : Method := { name := "copyOf", desc := "(Ljava/util/List;)Lcom/example/headers_to_descriptors/headerstodescriptors/ReadOnlyItems;", sig := { parameters := [(.object "java/util/List")], returnType := some (.object "com/example/headers_to_descriptors/headerstodescriptors/ReadOnlyItems") }, accessFlags := 8, code := some k18c1 }
def k18c2 : Code := { maxStack := 2, maxLocals := 2, code := prog_7_method_3_code, exceptionTable := #[], attributes := #[] }
def k18m2 : Method := { name := "get", desc := "(I)Ljava/lang/Object;", sig := { parameters := [.int], returnType := some (.object "java/lang/Object") }, accessFlags := 1, code := some k18c2 }
def k18c3 : Code := { maxStack := 1, maxLocals := 1, code := prog_7_method_4_code, exceptionTable := #[], attributes := #[] }
def k18m3 : Method := { name := "size", desc := "()I", sig := { parameters := [], returnType := some .int }, accessFlags := 1, code := some k18c3 }
def k18c4 : Code := { maxStack := 1, maxLocals := 1, code := prog_7_method_5_code, exceptionTable := #[], attributes := #[] }
def k18m4 : Method := { name := "toArray", desc := "()[Ljava/lang/Object;", sig := { parameters := [], returnType := some (.array (.object "java/lang/Object")) }, accessFlags := 1, code := some k18c4 }
/-- com/example/headers_to_descriptors/headerstodescriptors/ReadOnlyItems -/
def k18 : Class := { plain "com/example/headers_to_descriptors/headerstodescriptors/ReadOnlyItems" (some 14) with
  accessFlags := 32
  interfaces := #[15]
  cf := some (fileOf pool18 8 #[] #[{ accessFlags := 0, nameIndex := 5, descriptorIndex := 34, attributes := #[] }, { accessFlags := 8, nameIndex := 30, descriptorIndex := 43, attributes := #[] }, { accessFlags := 1, nameIndex := 47, descriptorIndex := 48, attributes := #[] }, { accessFlags := 1, nameIndex := 49, descriptorIndex := 50, attributes := #[] }, { accessFlags := 1, nameIndex := 17, descriptorIndex := 18, attributes := #[] }] 32 2 #[39] #[{ accessFlags := 18, nameIndex := 11, descriptorIndex := 12, attributes := #[] }])
  fields := #[{ name := "items", type := (.array (.object "java/lang/Object")), accessFlags := 18, slot := 1, constantValue := 0 }]
  methods := #[k18m0, k18m1, k18m2, k18m3, k18m4]
  instanceTypes := #[.int, (.array (.object "java/lang/Object"))]
  staticTypes := #[]
  resolved := Array.replicate 54 none
  mirror := some 4
  statics := none }

def pool19 : Array CpInfo := pool [(2, .class_ 4), (1, u "java/lang/Object"), (0, u "<init>"), (0, u "()V"), (7, .class_ 16), (1, u "java/util/Arrays"), (57, .class_ 76), (1, u "java/util/Arrays$NaturalOrder"), (9, .methodref 2 87), (0, .nameAndType 88 89), (0, u "getClass"), (0, u "()Ljava/lang/Class;"), (20, .class_ 111), (0, u "[Ljava/lang/Object;"), (1, .class_ 115), (1, u "java/util/Arrays$LegacyMergeSort"), (1, u "Z"), (32, .methodref 151 152), (0, .class_ 153), (0, .nameAndType 154 155), (0, u "java/lang/System"), (0, u "arraycopy"), (0, u "(Ljava/lang/Object;ILjava/lang/Object;II)V"), (144, .methodref 14 301), (0, .nameAndType 302 303), (0, u "copyOf"), (0, u "([Ljava/lang/Object;ILjava/lang/Class;)[Ljava/lang/Object;"), (0, .methodref 305 306), (0, .class_ 307), (0, .nameAndType 308 309), (0, u "java/lang/Math"), (0, u "min"), (0, u "(II)I"), (65, .class_ 376), (0, u "java/util/Arrays$ArrayList"), (68, u "$assertionsDisabled"), (269, u "MIN_ARRAY_SORT_GRAN"), (0, u "I"), (2, u "INSERTIONSORT_THRESHOLD"), (140, u "([Ljava/lang/Object;I)[Ljava/lang/Object;"), (114, .class_ 976), (0, u "java/util/Arrays$ArrayItr")] 52

def k19m0 : Method := { name := "<init>", desc := "()V", sig := { parameters := [], returnType := none }, accessFlags := 2, code := none }
def k19c1 : Code := { maxStack := 3, maxLocals := 2, code := jdk_65_method_119_code, exceptionTable := #[], attributes := #[] }
def k19m1 : Method := { name := "copyOf", desc := "([Ljava/lang/Object;I)[Ljava/lang/Object;", sig := { parameters := [(.array (.object "java/lang/Object")), .int], returnType := some (.array (.object "java/lang/Object")) }, accessFlags := 9, code := some k19c1 }
def k19c2 : Code := { maxStack := 6, maxLocals := 4, code := jdk_65_method_120_code, exceptionTable := #[], attributes := #[] }
def k19m2 : Method := { name := "copyOf", desc := "([Ljava/lang/Object;ILjava/lang/Class;)[Ljava/lang/Object;", sig := { parameters := [(.array (.object "java/lang/Object")), .int, (.object "java/lang/Class")], returnType := some (.array (.object "java/lang/Object")) }, accessFlags := 9, code := some k19c2 }
/-- java/util/Arrays -/
def k19 : Class := { plain "java/util/Arrays" (some 0) with
  accessFlags := 49
  interfaces := #[]
  cf := some (fileOf pool19 14 #[.nestMembers #[975, 375, 113, 74]] #[{ accessFlags := 2, nameIndex := 5, descriptorIndex := 6, attributes := #[] }, { accessFlags := 9, nameIndex := 302, descriptorIndex := 860, attributes := #[] }, { accessFlags := 9, nameIndex := 302, descriptorIndex := 303, attributes := #[] }] 49 2 #[] #[{ accessFlags := 26, nameIndex := 715, descriptorIndex := 716, attributes := #[] }, { accessFlags := 26, nameIndex := 719, descriptorIndex := 716, attributes := #[] }, { accessFlags := 4120, nameIndex := 445, descriptorIndex := 117, attributes := #[] }])
  fields := #[{ name := "MIN_ARRAY_SORT_GRAN", type := .int, accessFlags := 26, slot := 0, constantValue := 0 }, { name := "INSERTIONSORT_THRESHOLD", type := .int, accessFlags := 26, slot := 1, constantValue := 0 }, { name := "$assertionsDisabled", type := .boolean, accessFlags := 4120, slot := 2, constantValue := 0 }]
  methods := #[k19m0, k19m1, k19m2]
  instanceTypes := #[]
  staticTypes := #[.int, .int, .boolean]
  resolved := Array.replicate 1029 none
  statics := none }

def pool20 : Array CpInfo := pool [(1, .class_ 2), (0, u "java/lang/Math"), (1, .class_ 6), (1, u "java/lang/Object"), (0, u "<init>"), (0, u "()V"), (89, .class_ 100), (1, u "java/lang/Math$RandomNumberGeneratorHolder"), (71, u "negativeZeroFloatBits"), (0, u "J"), (2, u "negativeZeroDoubleBits"), (21, u "max"), (2, u "min"), (43, u "$assertionsDisabled"), (0, u "Z"), (88, u "(II)I"), (2, u "twoToTheDoubleScaleDown"), (0, u "D"), (4, u "twoToTheDoubleScaleUp"), (9, u "E"), (3, u "PI"), (2, u "TAU"), (2, u "DEGREES_TO_RADIANS"), (0, u "RADIANS_TO_DEGREES")] 94

def k20m0 : Method := { name := "<init>", desc := "()V", sig := { parameters := [], returnType := none }, accessFlags := 2, code := none }
def k20c1 : Code := { maxStack := 2, maxLocals := 2, code := jdk_29_method_65_code, exceptionTable := #[], attributes := #[] }
def k20m1 : Method := { name := "max", desc := "(II)I", sig := { parameters := [.int, .int], returnType := some .int }, accessFlags := 9, code := some k20c1 }
def k20c2 : Code := { maxStack := 2, maxLocals := 2, code := jdk_29_method_69_code, exceptionTable := #[], attributes := #[] }
def k20m2 : Method := { name := "min", desc := "(II)I", sig := { parameters := [.int, .int], returnType := some .int }, accessFlags := 9, code := some k20c2 }
/-- java/lang/Math -/
def k20 : Class := { plain "java/lang/Math" (some 0) with
  accessFlags := 49
  interfaces := #[]
  cf := some (fileOf pool20 1 #[.nestMembers #[98]] #[{ accessFlags := 2, nameIndex := 7, descriptorIndex := 8, attributes := #[] }, { accessFlags := 9, nameIndex := 198, descriptorIndex := 335, attributes := #[] }, { accessFlags := 9, nameIndex := 201, descriptorIndex := 335, attributes := #[] }] 49 4 #[] #[{ accessFlags := 25, nameIndex := 354, descriptorIndex := 339, attributes := #[] }, { accessFlags := 25, nameIndex := 358, descriptorIndex := 339, attributes := #[] }, { accessFlags := 25, nameIndex := 361, descriptorIndex := 339, attributes := #[] }, { accessFlags := 26, nameIndex := 364, descriptorIndex := 339, attributes := #[] }, { accessFlags := 26, nameIndex := 365, descriptorIndex := 339, attributes := #[] }, { accessFlags := 26, nameIndex := 172, descriptorIndex := 173, attributes := #[] }, { accessFlags := 26, nameIndex := 176, descriptorIndex := 173, attributes := #[] }, { accessFlags := 8, nameIndex := 344, descriptorIndex := 339, attributes := #[] }, { accessFlags := 8, nameIndex := 338, descriptorIndex := 339, attributes := #[] }, { accessFlags := 4120, nameIndex := 245, descriptorIndex := 246, attributes := #[] }])
  fields := #[{ name := "E", type := .double, accessFlags := 25, slot := 0, constantValue := 0 }, { name := "PI", type := .double, accessFlags := 25, slot := 1, constantValue := 0 }, { name := "TAU", type := .double, accessFlags := 25, slot := 2, constantValue := 0 }, { name := "DEGREES_TO_RADIANS", type := .double, accessFlags := 26, slot := 3, constantValue := 0 }, { name := "RADIANS_TO_DEGREES", type := .double, accessFlags := 26, slot := 4, constantValue := 0 }, { name := "negativeZeroFloatBits", type := .long, accessFlags := 26, slot := 5, constantValue := 0 }, { name := "negativeZeroDoubleBits", type := .long, accessFlags := 26, slot := 6, constantValue := 0 }, { name := "twoToTheDoubleScaleUp", type := .double, accessFlags := 8, slot := 7, constantValue := 0 }, { name := "twoToTheDoubleScaleDown", type := .double, accessFlags := 8, slot := 8, constantValue := 0 }, { name := "$assertionsDisabled", type := .boolean, accessFlags := 4120, slot := 9, constantValue := 0 }]
  methods := #[k20m0, k20m1, k20m2]
  instanceTypes := #[]
  staticTypes := #[.double, .double, .double, .double, .double, .long, .long, .double, .double, .boolean]
  resolved := Array.replicate 460 none
  statics := none }

def pool21 : Array CpInfo := pool [(2, .class_ 4), (1, u "java/lang/Object"), (0, u "<init>"), (0, u "()V"), (1, .class_ 10), (1, u "java/lang/System"), (0, u "allowSecurityManager"), (0, u "I"), (16, u "cons"), (0, u "Ljava/io/Console;"), (77, .class_ 110), (1, u "java/lang/System$CallersHolder"), (43, u "initialErrStream"), (0, u "Ljava/io/PrintStream;"), (19, u "security"), (0, u "Ljava/lang/SecurityManager;"), (31, .class_ 209), (0, u "java/lang/System$1"), (7, u "props"), (0, u "Ljava/util/Properties;"), (2, u "lineSeparator"), (0, u "Ljava/lang/String;"), (96, .class_ 321), (1, u "java/lang/System$LoggerFinder"), (5, .class_ 328), (0, u "java/lang/System$Logger"), (67, u "err"), (2, u "out"), (91, u "notSupportedJnuEncoding"), (15, u "in"), (17, u "initialIn"), (0, u "Ljava/io/InputStream;"), (35, u "bootLayer"), (0, u "Ljava/lang/ModuleLayer;"), (99, .class_ 664), (0, u "java/lang/System$2"), (9, u "NEVER"), (2, u "MAYBE"), (49, u "arraycopy"), (0, u "(Ljava/lang/Object;ILjava/lang/Object;II)V"), (72, .class_ 802), (0, u "java/lang/System$Logger$Level")] 31

def k21m0 : Method := { name := "<init>", desc := "()V", sig := { parameters := [], returnType := none }, accessFlags := 2, code := none }
def k21m1 : Method := { name := "arraycopy", desc := "(Ljava/lang/Object;ILjava/lang/Object;II)V", sig := { parameters := [(.object "java/lang/Object"), .int, (.object "java/lang/Object"), .int, .int], returnType := none }, accessFlags := 265, code := none }
/-- java/lang/System -/
def k21 : Class := { plain "java/lang/System" (some 0) with
  accessFlags := 49
  interfaces := #[]
  cf := some (fileOf pool21 8 #[.nestMembers #[319, 327, 801, 108, 663, 208]] #[{ accessFlags := 2, nameIndex := 5, descriptorIndex := 6, attributes := #[] }, { accessFlags := 265, nameIndex := 727, descriptorIndex := 728, attributes := #[] }] 49 2 #[] #[{ accessFlags := 25, nameIndex := 507, descriptorIndex := 526, attributes := #[] }, { accessFlags := 25, nameIndex := 399, descriptorIndex := 155, attributes := #[] }, { accessFlags := 25, nameIndex := 396, descriptorIndex := 155, attributes := #[] }, { accessFlags := 10, nameIndex := 525, descriptorIndex := 526, attributes := #[] }, { accessFlags := 26, nameIndex := 674, descriptorIndex := 12, attributes := #[] }, { accessFlags := 26, nameIndex := 677, descriptorIndex := 12, attributes := #[] }, { accessFlags := 10, nameIndex := 11, descriptorIndex := 12, attributes := #[] }, { accessFlags := 74, nameIndex := 175, descriptorIndex := 176, attributes := #[] }, { accessFlags := 10, nameIndex := 491, descriptorIndex := 222, attributes := #[] }, { accessFlags := 74, nameIndex := 29, descriptorIndex := 30, attributes := #[] }, { accessFlags := 74, nameIndex := 154, descriptorIndex := 155, attributes := #[] }, { accessFlags := 10, nameIndex := 217, descriptorIndex := 218, attributes := #[] }, { accessFlags := 10, nameIndex := 221, descriptorIndex := 222, attributes := #[] }, { accessFlags := 8, nameIndex := 562, descriptorIndex := 563, attributes := #[] }])
  fields := #[{ name := "in", type := (.object "java/io/InputStream"), accessFlags := 25, slot := 0, constantValue := 0 }, { name := "out", type := (.object "java/io/PrintStream"), accessFlags := 25, slot := 1, constantValue := 0 }, { name := "err", type := (.object "java/io/PrintStream"), accessFlags := 25, slot := 2, constantValue := 0 }, { name := "initialIn", type := (.object "java/io/InputStream"), accessFlags := 10, slot := 3, constantValue := 0 }, { name := "NEVER", type := .int, accessFlags := 26, slot := 4, constantValue := 0 }, { name := "MAYBE", type := .int, accessFlags := 26, slot := 5, constantValue := 0 }, { name := "allowSecurityManager", type := .int, accessFlags := 10, slot := 6, constantValue := 0 }, { name := "security", type := (.object "java/lang/SecurityManager"), accessFlags := 74, slot := 7, constantValue := 0 }, { name := "notSupportedJnuEncoding", type := (.object "java/lang/String"), accessFlags := 10, slot := 8, constantValue := 0 }, { name := "cons", type := (.object "java/io/Console"), accessFlags := 74, slot := 9, constantValue := 0 }, { name := "initialErrStream", type := (.object "java/io/PrintStream"), accessFlags := 74, slot := 10, constantValue := 0 }, { name := "props", type := (.object "java/util/Properties"), accessFlags := 10, slot := 11, constantValue := 0 }, { name := "lineSeparator", type := (.object "java/lang/String"), accessFlags := 10, slot := 12, constantValue := 0 }, { name := "bootLayer", type := (.object "java/lang/ModuleLayer"), accessFlags := 8, slot := 13, constantValue := 0 }]
  methods := #[k21m0, k21m1]
  instanceTypes := #[]
  staticTypes := #[(.object "java/io/InputStream"), (.object "java/io/PrintStream"), (.object "java/io/PrintStream"), (.object "java/io/InputStream"), .int, .int, .int, (.object "java/lang/SecurityManager"), (.object "java/lang/String"), (.object "java/io/Console"), (.object "java/io/PrintStream"), (.object "java/util/Properties"), (.object "java/lang/String"), (.object "java/lang/ModuleLayer")]
  resolved := Array.replicate 834 none
  statics := none }

def pool22 : Array CpInfo := pool [(1, u "java/lang/Class"), (0, .class_ 1), (0, u "java/lang/Object"), (0, .class_ 3)] 0

/-- java/lang/Class -/
def k22 : Class := { plain "java/lang/Class" (some 0) with
  accessFlags := 49
  interfaces := #[]
  cf := some (fileOf pool22 2 #[] #[] 49 4 #[] #[])
  fields := #[]
  methods := #[]
  instanceTypes := #[]
  staticTypes := #[]
  resolved := Array.replicate 5 none
  statics := none }

/-- the primitive byte -/
def k23 : Class := { plain "byte" none with kind := .primitive 'B', accessFlags := 0x411 }
/-- [B -/
def k24 : Class := { plain "[B" (some 0) with kind := .array 23 .byte, interfaces := #[16, 2], accessFlags := 1041 }

/-- the primitive int -/
def k25 : Class := { plain "int" none with kind := .primitive 'I', accessFlags := 0x411 }
/-- [I -/
def k26 : Class := { plain "[I" (some 0) with kind := .array 25 .int, interfaces := #[16, 2], accessFlags := 1041 }

/-- [Ljava/lang/Integer; -/
def k27 : Class := { plain "[Ljava/lang/Integer;" (some 0) with kind := .array 7 (.object "java/lang/Integer"), interfaces := #[16, 2], accessFlags := 1041 }

/-- [Ljava/lang/Object; -/
def k28 : Class := { plain "[Ljava/lang/Object;" (some 0) with kind := .array 0 (.object "java/lang/Object"), interfaces := #[16, 2], accessFlags := 1041, mirror := some 2 }

def heap : Heap := #[{ cls := 8, slots := #[.int 0, .int 127, .ref 5, .null, .int 0], vm := .statics 8 },
  { cls := 17, slots := #[.long 0, .int 0, .ref 262, .ref 263], vm := .statics 17 },
  { cls := 22, slots := #[], vm := .mirror 28 },
  { cls := 22, slots := #[], vm := .mirror 17 },
  { cls := 22, slots := #[], vm := .mirror 18 },
  { cls := 27, slots := #[.ref 6, .ref 7, .ref 8, .ref 9, .ref 10, .ref 11, .ref 12, .ref 13, .ref 14, .ref 15, .ref 16, .ref 17, .ref 18, .ref 19, .ref 20, .ref 21, .ref 22, .ref 23, .ref 24, .ref 25, .ref 26, .ref 27, .ref 28, .ref 29, .ref 30, .ref 31, .ref 32, .ref 33, .ref 34, .ref 35, .ref 36, .ref 37, .ref 38, .ref 39, .ref 40, .ref 41, .ref 42, .ref 43, .ref 44, .ref 45, .ref 46, .ref 47, .ref 48, .ref 49, .ref 50, .ref 51, .ref 52, .ref 53, .ref 54, .ref 55, .ref 56, .ref 57, .ref 58, .ref 59, .ref 60, .ref 61, .ref 62, .ref 63, .ref 64, .ref 65, .ref 66, .ref 67, .ref 68, .ref 69, .ref 70, .ref 71, .ref 72, .ref 73, .ref 74, .ref 75, .ref 76, .ref 77, .ref 78, .ref 79, .ref 80, .ref 81, .ref 82, .ref 83, .ref 84, .ref 85, .ref 86, .ref 87, .ref 88, .ref 89, .ref 90, .ref 91, .ref 92, .ref 93, .ref 94, .ref 95, .ref 96, .ref 97, .ref 98, .ref 99, .ref 100, .ref 101, .ref 102, .ref 103, .ref 104, .ref 105, .ref 106, .ref 107, .ref 108, .ref 109, .ref 110, .ref 111, .ref 112, .ref 113, .ref 114, .ref 115, .ref 116, .ref 117, .ref 118, .ref 119, .ref 120, .ref 121, .ref 122, .ref 123, .ref 124, .ref 125, .ref 126, .ref 127, .ref 128, .ref 129, .ref 130, .ref 131, .ref 132, .ref 133, .ref 134, .ref 135, .ref 136, .ref 137, .ref 138, .ref 139, .ref 140, .ref 141, .ref 142, .ref 143, .ref 144, .ref 145, .ref 146, .ref 147, .ref 148, .ref 149, .ref 150, .ref 151, .ref 152, .ref 153, .ref 154, .ref 155, .ref 156, .ref 157, .ref 158, .ref 159, .ref 160, .ref 161, .ref 162, .ref 163, .ref 164, .ref 165, .ref 166, .ref 167, .ref 168, .ref 169, .ref 170, .ref 171, .ref 172, .ref 173, .ref 174, .ref 175, .ref 176, .ref 177, .ref 178, .ref 179, .ref 180, .ref 181, .ref 182, .ref 183, .ref 184, .ref 185, .ref 186, .ref 187, .ref 188, .ref 189, .ref 190, .ref 191, .ref 192, .ref 193, .ref 194, .ref 195, .ref 196, .ref 197, .ref 198, .ref 199, .ref 200, .ref 201, .ref 202, .ref 203, .ref 204, .ref 205, .ref 206, .ref 207, .ref 208, .ref 209, .ref 210, .ref 211, .ref 212, .ref 213, .ref 214, .ref 215, .ref 216, .ref 217, .ref 218, .ref 219, .ref 220, .ref 221, .ref 222, .ref 223, .ref 224, .ref 225, .ref 226, .ref 227, .ref 228, .ref 229, .ref 230, .ref 231, .ref 232, .ref 233, .ref 234, .ref 235, .ref 236, .ref 237, .ref 238, .ref 239, .ref 240, .ref 241, .ref 242, .ref 243, .ref 244, .ref 245, .ref 246, .ref 247, .ref 248, .ref 249, .ref 250, .ref 251, .ref 252, .ref 253, .ref 254, .ref 255, .ref 256, .ref 257, .ref 258, .ref 259, .ref 260, .ref 261], vm := .none },
  { cls := 7, slots := #[.int (-128)], vm := .none },
  { cls := 7, slots := #[.int (-127)], vm := .none },
  { cls := 7, slots := #[.int (-126)], vm := .none },
  { cls := 7, slots := #[.int (-125)], vm := .none },
  { cls := 7, slots := #[.int (-124)], vm := .none },
  { cls := 7, slots := #[.int (-123)], vm := .none },
  { cls := 7, slots := #[.int (-122)], vm := .none },
  { cls := 7, slots := #[.int (-121)], vm := .none },
  { cls := 7, slots := #[.int (-120)], vm := .none },
  { cls := 7, slots := #[.int (-119)], vm := .none },
  { cls := 7, slots := #[.int (-118)], vm := .none },
  { cls := 7, slots := #[.int (-117)], vm := .none },
  { cls := 7, slots := #[.int (-116)], vm := .none },
  { cls := 7, slots := #[.int (-115)], vm := .none },
  { cls := 7, slots := #[.int (-114)], vm := .none },
  { cls := 7, slots := #[.int (-113)], vm := .none },
  { cls := 7, slots := #[.int (-112)], vm := .none },
  { cls := 7, slots := #[.int (-111)], vm := .none },
  { cls := 7, slots := #[.int (-110)], vm := .none },
  { cls := 7, slots := #[.int (-109)], vm := .none },
  { cls := 7, slots := #[.int (-108)], vm := .none },
  { cls := 7, slots := #[.int (-107)], vm := .none },
  { cls := 7, slots := #[.int (-106)], vm := .none },
  { cls := 7, slots := #[.int (-105)], vm := .none },
  { cls := 7, slots := #[.int (-104)], vm := .none },
  { cls := 7, slots := #[.int (-103)], vm := .none },
  { cls := 7, slots := #[.int (-102)], vm := .none },
  { cls := 7, slots := #[.int (-101)], vm := .none },
  { cls := 7, slots := #[.int (-100)], vm := .none },
  { cls := 7, slots := #[.int (-99)], vm := .none },
  { cls := 7, slots := #[.int (-98)], vm := .none },
  { cls := 7, slots := #[.int (-97)], vm := .none },
  { cls := 7, slots := #[.int (-96)], vm := .none },
  { cls := 7, slots := #[.int (-95)], vm := .none },
  { cls := 7, slots := #[.int (-94)], vm := .none },
  { cls := 7, slots := #[.int (-93)], vm := .none },
  { cls := 7, slots := #[.int (-92)], vm := .none },
  { cls := 7, slots := #[.int (-91)], vm := .none },
  { cls := 7, slots := #[.int (-90)], vm := .none },
  { cls := 7, slots := #[.int (-89)], vm := .none },
  { cls := 7, slots := #[.int (-88)], vm := .none },
  { cls := 7, slots := #[.int (-87)], vm := .none },
  { cls := 7, slots := #[.int (-86)], vm := .none },
  { cls := 7, slots := #[.int (-85)], vm := .none },
  { cls := 7, slots := #[.int (-84)], vm := .none },
  { cls := 7, slots := #[.int (-83)], vm := .none },
  { cls := 7, slots := #[.int (-82)], vm := .none },
  { cls := 7, slots := #[.int (-81)], vm := .none },
  { cls := 7, slots := #[.int (-80)], vm := .none },
  { cls := 7, slots := #[.int (-79)], vm := .none },
  { cls := 7, slots := #[.int (-78)], vm := .none },
  { cls := 7, slots := #[.int (-77)], vm := .none },
  { cls := 7, slots := #[.int (-76)], vm := .none },
  { cls := 7, slots := #[.int (-75)], vm := .none },
  { cls := 7, slots := #[.int (-74)], vm := .none },
  { cls := 7, slots := #[.int (-73)], vm := .none },
  { cls := 7, slots := #[.int (-72)], vm := .none },
  { cls := 7, slots := #[.int (-71)], vm := .none },
  { cls := 7, slots := #[.int (-70)], vm := .none },
  { cls := 7, slots := #[.int (-69)], vm := .none },
  { cls := 7, slots := #[.int (-68)], vm := .none },
  { cls := 7, slots := #[.int (-67)], vm := .none },
  { cls := 7, slots := #[.int (-66)], vm := .none },
  { cls := 7, slots := #[.int (-65)], vm := .none },
  { cls := 7, slots := #[.int (-64)], vm := .none },
  { cls := 7, slots := #[.int (-63)], vm := .none },
  { cls := 7, slots := #[.int (-62)], vm := .none },
  { cls := 7, slots := #[.int (-61)], vm := .none },
  { cls := 7, slots := #[.int (-60)], vm := .none },
  { cls := 7, slots := #[.int (-59)], vm := .none },
  { cls := 7, slots := #[.int (-58)], vm := .none },
  { cls := 7, slots := #[.int (-57)], vm := .none },
  { cls := 7, slots := #[.int (-56)], vm := .none },
  { cls := 7, slots := #[.int (-55)], vm := .none },
  { cls := 7, slots := #[.int (-54)], vm := .none },
  { cls := 7, slots := #[.int (-53)], vm := .none },
  { cls := 7, slots := #[.int (-52)], vm := .none },
  { cls := 7, slots := #[.int (-51)], vm := .none },
  { cls := 7, slots := #[.int (-50)], vm := .none },
  { cls := 7, slots := #[.int (-49)], vm := .none },
  { cls := 7, slots := #[.int (-48)], vm := .none },
  { cls := 7, slots := #[.int (-47)], vm := .none },
  { cls := 7, slots := #[.int (-46)], vm := .none },
  { cls := 7, slots := #[.int (-45)], vm := .none },
  { cls := 7, slots := #[.int (-44)], vm := .none },
  { cls := 7, slots := #[.int (-43)], vm := .none },
  { cls := 7, slots := #[.int (-42)], vm := .none },
  { cls := 7, slots := #[.int (-41)], vm := .none },
  { cls := 7, slots := #[.int (-40)], vm := .none },
  { cls := 7, slots := #[.int (-39)], vm := .none },
  { cls := 7, slots := #[.int (-38)], vm := .none },
  { cls := 7, slots := #[.int (-37)], vm := .none },
  { cls := 7, slots := #[.int (-36)], vm := .none },
  { cls := 7, slots := #[.int (-35)], vm := .none },
  { cls := 7, slots := #[.int (-34)], vm := .none },
  { cls := 7, slots := #[.int (-33)], vm := .none },
  { cls := 7, slots := #[.int (-32)], vm := .none },
  { cls := 7, slots := #[.int (-31)], vm := .none },
  { cls := 7, slots := #[.int (-30)], vm := .none },
  { cls := 7, slots := #[.int (-29)], vm := .none },
  { cls := 7, slots := #[.int (-28)], vm := .none },
  { cls := 7, slots := #[.int (-27)], vm := .none },
  { cls := 7, slots := #[.int (-26)], vm := .none },
  { cls := 7, slots := #[.int (-25)], vm := .none },
  { cls := 7, slots := #[.int (-24)], vm := .none },
  { cls := 7, slots := #[.int (-23)], vm := .none },
  { cls := 7, slots := #[.int (-22)], vm := .none },
  { cls := 7, slots := #[.int (-21)], vm := .none },
  { cls := 7, slots := #[.int (-20)], vm := .none },
  { cls := 7, slots := #[.int (-19)], vm := .none },
  { cls := 7, slots := #[.int (-18)], vm := .none },
  { cls := 7, slots := #[.int (-17)], vm := .none },
  { cls := 7, slots := #[.int (-16)], vm := .none },
  { cls := 7, slots := #[.int (-15)], vm := .none },
  { cls := 7, slots := #[.int (-14)], vm := .none },
  { cls := 7, slots := #[.int (-13)], vm := .none },
  { cls := 7, slots := #[.int (-12)], vm := .none },
  { cls := 7, slots := #[.int (-11)], vm := .none },
  { cls := 7, slots := #[.int (-10)], vm := .none },
  { cls := 7, slots := #[.int (-9)], vm := .none },
  { cls := 7, slots := #[.int (-8)], vm := .none },
  { cls := 7, slots := #[.int (-7)], vm := .none },
  { cls := 7, slots := #[.int (-6)], vm := .none },
  { cls := 7, slots := #[.int (-5)], vm := .none },
  { cls := 7, slots := #[.int (-4)], vm := .none },
  { cls := 7, slots := #[.int (-3)], vm := .none },
  { cls := 7, slots := #[.int (-2)], vm := .none },
  { cls := 7, slots := #[.int (-1)], vm := .none },
  { cls := 7, slots := #[.int 0], vm := .none },
  { cls := 7, slots := #[.int 1], vm := .none },
  { cls := 7, slots := #[.int 2], vm := .none },
  { cls := 7, slots := #[.int 3], vm := .none },
  { cls := 7, slots := #[.int 4], vm := .none },
  { cls := 7, slots := #[.int 5], vm := .none },
  { cls := 7, slots := #[.int 6], vm := .none },
  { cls := 7, slots := #[.int 7], vm := .none },
  { cls := 7, slots := #[.int 8], vm := .none },
  { cls := 7, slots := #[.int 9], vm := .none },
  { cls := 7, slots := #[.int 10], vm := .none },
  { cls := 7, slots := #[.int 11], vm := .none },
  { cls := 7, slots := #[.int 12], vm := .none },
  { cls := 7, slots := #[.int 13], vm := .none },
  { cls := 7, slots := #[.int 14], vm := .none },
  { cls := 7, slots := #[.int 15], vm := .none },
  { cls := 7, slots := #[.int 16], vm := .none },
  { cls := 7, slots := #[.int 17], vm := .none },
  { cls := 7, slots := #[.int 18], vm := .none },
  { cls := 7, slots := #[.int 19], vm := .none },
  { cls := 7, slots := #[.int 20], vm := .none },
  { cls := 7, slots := #[.int 21], vm := .none },
  { cls := 7, slots := #[.int 22], vm := .none },
  { cls := 7, slots := #[.int 23], vm := .none },
  { cls := 7, slots := #[.int 24], vm := .none },
  { cls := 7, slots := #[.int 25], vm := .none },
  { cls := 7, slots := #[.int 26], vm := .none },
  { cls := 7, slots := #[.int 27], vm := .none },
  { cls := 7, slots := #[.int 28], vm := .none },
  { cls := 7, slots := #[.int 29], vm := .none },
  { cls := 7, slots := #[.int 30], vm := .none },
  { cls := 7, slots := #[.int 31], vm := .none },
  { cls := 7, slots := #[.int 32], vm := .none },
  { cls := 7, slots := #[.int 33], vm := .none },
  { cls := 7, slots := #[.int 34], vm := .none },
  { cls := 7, slots := #[.int 35], vm := .none },
  { cls := 7, slots := #[.int 36], vm := .none },
  { cls := 7, slots := #[.int 37], vm := .none },
  { cls := 7, slots := #[.int 38], vm := .none },
  { cls := 7, slots := #[.int 39], vm := .none },
  { cls := 7, slots := #[.int 40], vm := .none },
  { cls := 7, slots := #[.int 41], vm := .none },
  { cls := 7, slots := #[.int 42], vm := .none },
  { cls := 7, slots := #[.int 43], vm := .none },
  { cls := 7, slots := #[.int 44], vm := .none },
  { cls := 7, slots := #[.int 45], vm := .none },
  { cls := 7, slots := #[.int 46], vm := .none },
  { cls := 7, slots := #[.int 47], vm := .none },
  { cls := 7, slots := #[.int 48], vm := .none },
  { cls := 7, slots := #[.int 49], vm := .none },
  { cls := 7, slots := #[.int 50], vm := .none },
  { cls := 7, slots := #[.int 51], vm := .none },
  { cls := 7, slots := #[.int 52], vm := .none },
  { cls := 7, slots := #[.int 53], vm := .none },
  { cls := 7, slots := #[.int 54], vm := .none },
  { cls := 7, slots := #[.int 55], vm := .none },
  { cls := 7, slots := #[.int 56], vm := .none },
  { cls := 7, slots := #[.int 57], vm := .none },
  { cls := 7, slots := #[.int 58], vm := .none },
  { cls := 7, slots := #[.int 59], vm := .none },
  { cls := 7, slots := #[.int 60], vm := .none },
  { cls := 7, slots := #[.int 61], vm := .none },
  { cls := 7, slots := #[.int 62], vm := .none },
  { cls := 7, slots := #[.int 63], vm := .none },
  { cls := 7, slots := #[.int 64], vm := .none },
  { cls := 7, slots := #[.int 65], vm := .none },
  { cls := 7, slots := #[.int 66], vm := .none },
  { cls := 7, slots := #[.int 67], vm := .none },
  { cls := 7, slots := #[.int 68], vm := .none },
  { cls := 7, slots := #[.int 69], vm := .none },
  { cls := 7, slots := #[.int 70], vm := .none },
  { cls := 7, slots := #[.int 71], vm := .none },
  { cls := 7, slots := #[.int 72], vm := .none },
  { cls := 7, slots := #[.int 73], vm := .none },
  { cls := 7, slots := #[.int 74], vm := .none },
  { cls := 7, slots := #[.int 75], vm := .none },
  { cls := 7, slots := #[.int 76], vm := .none },
  { cls := 7, slots := #[.int 77], vm := .none },
  { cls := 7, slots := #[.int 78], vm := .none },
  { cls := 7, slots := #[.int 79], vm := .none },
  { cls := 7, slots := #[.int 80], vm := .none },
  { cls := 7, slots := #[.int 81], vm := .none },
  { cls := 7, slots := #[.int 82], vm := .none },
  { cls := 7, slots := #[.int 83], vm := .none },
  { cls := 7, slots := #[.int 84], vm := .none },
  { cls := 7, slots := #[.int 85], vm := .none },
  { cls := 7, slots := #[.int 86], vm := .none },
  { cls := 7, slots := #[.int 87], vm := .none },
  { cls := 7, slots := #[.int 88], vm := .none },
  { cls := 7, slots := #[.int 89], vm := .none },
  { cls := 7, slots := #[.int 90], vm := .none },
  { cls := 7, slots := #[.int 91], vm := .none },
  { cls := 7, slots := #[.int 92], vm := .none },
  { cls := 7, slots := #[.int 93], vm := .none },
  { cls := 7, slots := #[.int 94], vm := .none },
  { cls := 7, slots := #[.int 95], vm := .none },
  { cls := 7, slots := #[.int 96], vm := .none },
  { cls := 7, slots := #[.int 97], vm := .none },
  { cls := 7, slots := #[.int 98], vm := .none },
  { cls := 7, slots := #[.int 99], vm := .none },
  { cls := 7, slots := #[.int 100], vm := .none },
  { cls := 7, slots := #[.int 101], vm := .none },
  { cls := 7, slots := #[.int 102], vm := .none },
  { cls := 7, slots := #[.int 103], vm := .none },
  { cls := 7, slots := #[.int 104], vm := .none },
  { cls := 7, slots := #[.int 105], vm := .none },
  { cls := 7, slots := #[.int 106], vm := .none },
  { cls := 7, slots := #[.int 107], vm := .none },
  { cls := 7, slots := #[.int 108], vm := .none },
  { cls := 7, slots := #[.int 109], vm := .none },
  { cls := 7, slots := #[.int 110], vm := .none },
  { cls := 7, slots := #[.int 111], vm := .none },
  { cls := 7, slots := #[.int 112], vm := .none },
  { cls := 7, slots := #[.int 113], vm := .none },
  { cls := 7, slots := #[.int 114], vm := .none },
  { cls := 7, slots := #[.int 115], vm := .none },
  { cls := 7, slots := #[.int 116], vm := .none },
  { cls := 7, slots := #[.int 117], vm := .none },
  { cls := 7, slots := #[.int 118], vm := .none },
  { cls := 7, slots := #[.int 119], vm := .none },
  { cls := 7, slots := #[.int 120], vm := .none },
  { cls := 7, slots := #[.int 121], vm := .none },
  { cls := 7, slots := #[.int 122], vm := .none },
  { cls := 7, slots := #[.int 123], vm := .none },
  { cls := 7, slots := #[.int 124], vm := .none },
  { cls := 7, slots := #[.int 125], vm := .none },
  { cls := 7, slots := #[.int 126], vm := .none },
  { cls := 7, slots := #[.int 127], vm := .none },
  { cls := 28, slots := #[], vm := .none },
  { cls := 28, slots := #[], vm := .none }]
def classes : Array Class := #[k0, k1, k2, k3, k4, k5, k6, k7, k8, k9, k10, k11, k12, k13, k14, k15, k16, k17, k18, k19, k20, k21, k22, k23, k24, k25, k26, k27, k28]
def interned : List (Array UInt16 × Addr) := []
def slotsUsed : Nat := 521
def theMethod : MethodId := ⟨1, 2⟩
def args0 : Array Value := #[.int 2, .int 1, .int 5, .int 1000, .int 7, .int 8]
def aboutOver (below : List Frame) : State where
  vm := { classes := classes, interned := interned.toArray }
  heap := heap
  slotsUsed := slotsUsed
  threads := #[{ frames := .invoking theMethod args0 :: below }]
def below0 : List Frame := [.native { method := ⟨0, 0⟩, args := #[] }]
def about1 : State := aboutOver below0
def p0 : Program := .bare "" "" ""
def e0 : Env := launch0.env 0 0 0
theorem w_frames : about1.frames = Frame.invoking theMethod args0 :: below0 := rfl
set_option maxRecDepth 65536 in
theorem w_args : argsFit about1.vm theMethod args0 = true := by decide +kernel
set_option maxRecDepth 65536 in
theorem w_heap : heapFits about1 = true := by decide +kernel
set_option maxRecDepth 65536 in
theorem w_runnable : about1.curStatus? = some .runnable := by decide +kernel
set_option maxRecDepth 65536 in
theorem w_alone : about1.alone = true := by decide +kernel
set_option maxRecDepth 65536 in
theorem w_named : about1.methodNamed? x = some theMethod := by decide +kernel
set_option maxRecDepth 65536 in
theorem w_hears : about1.hears theMethod below0 = true := by decide +kernel
set_option maxRecDepth 65536 in
theorem w_ripe : about1.ripe theMethod args0 below0 = true := by decide +kernel
theorem w_running : about1.status = .running := rfl
set_option maxRecDepth 65536 in
theorem w_room : about1.hasRoom e0.platform room_1 = true :=
  launch0.hasRoom_least _ room_1 (by decide +kernel) (by decide +kernel) (by decide +kernel) (by decide +kernel) (by decide +kernel) (by decide +kernel)
theorem allAtoms_all (ts : List Jvm.Cond) (a : Array Jvm.Value) (st : Jvm.State) : (allAtoms ts).before a st = ts.all (fun c => c.before a st) := by
  induction ts with
  | nil => rfl
  | cons c t ih =>
    show (Jvm.Cond.and c (allAtoms t)).before a st = _
    rw [Jvm.Cond.before_and, ih, List.all_cons]
def words1 : List Jvm.Cond := Jvm.Cond.code x code maxLocals ret :: tables_1
/-- a 'code' word, met by the world's own term for the bytes: nothing is compared byte by byte -/
theorem code_word {y : MethodName} {bytes : ByteArray} {mx : Nat} {rt : Option FieldType} {a : Array Value} {s : State} {m : MethodId} {meth : Method} {c : Code} (h1 : s.methodNamed? y = some m) (h2 : s.vm.method? m = some meth) (h3 : meth.code = some c) (h4 : c.code = bytes)
    (h5 : (c.maxLocals == mx && c.exceptionTable.isEmpty && decide (c.maxStack ≤ mostOperands) && decide (meth.sig.returnType = rt) && !meth.locks && decide (parseMethodDescriptor y.desc = some meth.sig)) = true) : (Jvm.Cond.code y bytes mx rt).before a s = true := by
  simp only [Bool.and_eq_true, beq_iff_eq, Bool.not_eq_true', decide_eq_true_eq] at h5
  obtain ⟨⟨⟨⟨⟨g1, g2⟩, g3⟩, g4⟩, g5⟩, g6⟩ := h5
  simp [Cond.before, Cond.holds, Cond.value, h1, h2, h3, h4, g1, g2, g3, g4, g5, g6]
def isCode : Jvm.Cond → Bool
  | .code _ _ _ _ => true
  | _ => false
theorem all_split {L : List Jvm.Cond} {P : Jvm.Cond → Bool} (h1 : L.all (fun c => isCode c || P c) = true) (h2 : ∀ c ∈ L.filter isCode, P c = true) : L.all P = true := by
  refine List.all_eq_true.mpr fun c hc => ?_
  have h := List.all_eq_true.mp h1 c hc
  rcases Bool.eq_false_or_eq_true (isCode c) with hi | hi
  · exact h2 c (List.mem_filter.mpr ⟨hc, hi⟩)
  · simpa [hi] using h
set_option maxRecDepth 65536 in
theorem w_c0 : (Jvm.Cond.code x code maxLocals ret).before args0 about1 = true := code_word (m := ⟨1, 2⟩) (meth := k1m2) (c := k1c2) (by decide +kernel) rfl rfl rfl (by decide +kernel)
set_option maxRecDepth 65536 in
theorem w_c1 : (Jvm.Cond.code ({ cls := "java/lang/Integer", name := "valueOf", desc := "(I)Ljava/lang/Integer;" } : Jvm.MethodName) jdk_33_method_22_code (1 : Nat) (Option.some (Jvm.ClassFile.FieldType.object "java/lang/Integer"))).before args0 about1 = true := code_word (m := ⟨7, 0⟩) (meth := k7m0) (c := k7c0) (by decide +kernel) rfl rfl rfl (by decide +kernel)
set_option maxRecDepth 65536 in
theorem w_c2 : (Jvm.Cond.code ({ cls := "java/util/ArrayList", name := "<init>", desc := "()V" } : Jvm.MethodName) jdk_38_method_2_code (1 : Nat) (Option.none : Option Jvm.ClassFile.FieldType)).before args0 about1 = true := code_word (m := ⟨17, 0⟩) (meth := k17m0) (c := k17c0) (by decide +kernel) rfl rfl rfl (by decide +kernel)
set_option maxRecDepth 65536 in
theorem w_c3 : (Jvm.Cond.code ({ cls := "java/util/AbstractList", name := "<init>", desc := "()V" } : Jvm.MethodName) jdk_39_method_1_code (1 : Nat) (Option.none : Option Jvm.ClassFile.FieldType)).before args0 about1 = true := code_word (m := ⟨14, 0⟩) (meth := k14m0) (c := k14c0) (by decide +kernel) rfl rfl rfl (by decide +kernel)
set_option maxRecDepth 65536 in
theorem w_c4 : (Jvm.Cond.code ({ cls := "java/util/AbstractCollection", name := "<init>", desc := "()V" } : Jvm.MethodName) jdk_22_method_1_code (1 : Nat) (Option.none : Option Jvm.ClassFile.FieldType)).before args0 about1 = true := code_word (m := ⟨11, 0⟩) (meth := k11m0) (c := k11c0) (by decide +kernel) rfl rfl rfl (by decide +kernel)
set_option maxRecDepth 65536 in
theorem w_c5 : (Jvm.Cond.code ({ cls := "java/lang/Object", name := "<init>", desc := "()V" } : Jvm.MethodName) object_method_1_code (1 : Nat) (Option.none : Option Jvm.ClassFile.FieldType)).before args0 about1 = true := code_word (m := ⟨0, 0⟩) (meth := k0m0) (c := k0c0) (by decide +kernel) rfl rfl rfl (by decide +kernel)
set_option maxRecDepth 65536 in
theorem w_c6 : (Jvm.Cond.code ({ cls := "com/example/headers_to_descriptors/headerstodescriptors/ReadOnlyItems", name := "copyOf", desc := "(Ljava/util/List;)Lcom/example/headers_to_descriptors/headerstodescriptors/ReadOnlyItems;" } : Jvm.MethodName) prog_7_method_2_code (2 : Nat) (Option.some (Jvm.ClassFile.FieldType.object "com/example/headers_to_descriptors/headerstodescriptors/ReadOnlyItems"))).before args0 about1 = true := code_word (m := ⟨18, 1⟩) (meth := k18m1) (c := k18c1) (by decide +kernel) rfl rfl rfl (by decide +kernel)
set_option maxRecDepth 65536 in
theorem w_c7 : (Jvm.Cond.code ({ cls := "java/util/ArrayList", name := "toArray", desc := "()[Ljava/lang/Object;" } : Jvm.MethodName) jdk_38_method_16_code (1 : Nat) (Option.some (Jvm.ClassFile.FieldType.array (Jvm.ClassFile.FieldType.object "java/lang/Object")))).before args0 about1 = true := code_word (m := ⟨17, 3⟩) (meth := k17m3) (c := k17c3) (by decide +kernel) rfl rfl rfl (by decide +kernel)
set_option maxRecDepth 65536 in
theorem w_c8 : (Jvm.Cond.code ({ cls := "java/util/Arrays", name := "copyOf", desc := "([Ljava/lang/Object;I)[Ljava/lang/Object;" } : Jvm.MethodName) jdk_65_method_119_code (2 : Nat) (Option.some (Jvm.ClassFile.FieldType.array (Jvm.ClassFile.FieldType.object "java/lang/Object")))).before args0 about1 = true := code_word (m := ⟨19, 1⟩) (meth := k19m1) (c := k19c1) (by decide +kernel) rfl rfl rfl (by decide +kernel)
set_option maxRecDepth 65536 in
theorem w_c9 : (Jvm.Cond.code ({ cls := "java/util/Arrays", name := "copyOf", desc := "([Ljava/lang/Object;ILjava/lang/Class;)[Ljava/lang/Object;" } : Jvm.MethodName) jdk_65_method_120_code (4 : Nat) (Option.some (Jvm.ClassFile.FieldType.array (Jvm.ClassFile.FieldType.object "java/lang/Object")))).before args0 about1 = true := code_word (m := ⟨19, 2⟩) (meth := k19m2) (c := k19c2) (by decide +kernel) rfl rfl rfl (by decide +kernel)
set_option maxRecDepth 65536 in
theorem w_c10 : (Jvm.Cond.code ({ cls := "java/lang/Math", name := "min", desc := "(II)I" } : Jvm.MethodName) jdk_29_method_69_code (2 : Nat) (Option.some Jvm.ClassFile.FieldType.int)).before args0 about1 = true := code_word (m := ⟨20, 2⟩) (meth := k20m2) (c := k20c2) (by decide +kernel) rfl rfl rfl (by decide +kernel)
set_option maxRecDepth 65536 in
theorem w_c11 : (Jvm.Cond.code ({ cls := "com/example/headers_to_descriptors/headerstodescriptors/ReadOnlyItems", name := "<init>", desc := "([Ljava/lang/Object;)V" } : Jvm.MethodName) prog_7_method_1_code (2 : Nat) (Option.none : Option Jvm.ClassFile.FieldType)).before args0 about1 = true := code_word (m := ⟨18, 0⟩) (meth := k18m0) (c := k18c0) (by decide +kernel) rfl rfl rfl (by decide +kernel)
set_option maxRecDepth 65536 in
theorem w_c12 : (Jvm.Cond.code ({ cls := "java/util/ArrayList", name := "add", desc := "(Ljava/lang/Object;)Z" } : Jvm.MethodName) jdk_38_method_25_code (2 : Nat) (Option.some Jvm.ClassFile.FieldType.boolean)).before args0 about1 = true := code_word (m := ⟨17, 5⟩) (meth := k17m5) (c := k17c5) (by decide +kernel) rfl rfl rfl (by decide +kernel)
set_option maxRecDepth 65536 in
theorem w_c13 : (Jvm.Cond.code ({ cls := "java/util/ArrayList", name := "add", desc := "(Ljava/lang/Object;[Ljava/lang/Object;I)V" } : Jvm.MethodName) jdk_38_method_24_code (4 : Nat) (Option.none : Option Jvm.ClassFile.FieldType)).before args0 about1 = true := code_word (m := ⟨17, 4⟩) (meth := k17m4) (c := k17c4) (by decide +kernel) rfl rfl rfl (by decide +kernel)
set_option maxRecDepth 65536 in
theorem w_c14 : (Jvm.Cond.code ({ cls := "java/util/ArrayList", name := "grow", desc := "()[Ljava/lang/Object;" } : Jvm.MethodName) jdk_38_method_7_code (1 : Nat) (Option.some (Jvm.ClassFile.FieldType.array (Jvm.ClassFile.FieldType.object "java/lang/Object")))).before args0 about1 = true := code_word (m := ⟨17, 2⟩) (meth := k17m2) (c := k17c2) (by decide +kernel) rfl rfl rfl (by decide +kernel)
set_option maxRecDepth 65536 in
theorem w_c15 : (Jvm.Cond.code ({ cls := "java/util/ArrayList", name := "grow", desc := "(I)[Ljava/lang/Object;" } : Jvm.MethodName) jdk_38_method_6_code (4 : Nat) (Option.some (Jvm.ClassFile.FieldType.array (Jvm.ClassFile.FieldType.object "java/lang/Object")))).before args0 about1 = true := code_word (m := ⟨17, 1⟩) (meth := k17m1) (c := k17c1) (by decide +kernel) rfl rfl rfl (by decide +kernel)
set_option maxRecDepth 65536 in
theorem w_c16 : (Jvm.Cond.code ({ cls := "java/lang/Math", name := "max", desc := "(II)I" } : Jvm.MethodName) jdk_29_method_65_code (2 : Nat) (Option.some Jvm.ClassFile.FieldType.int)).before args0 about1 = true := code_word (m := ⟨20, 1⟩) (meth := k20m1) (c := k20c1) (by decide +kernel) rfl rfl rfl (by decide +kernel)
set_option maxRecDepth 65536 in
theorem w_c17 : (Jvm.Cond.code ({ cls := "com/example/headers_to_descriptors/headerstodescriptors/ReadOnlyItems", name := "size", desc := "()I" } : Jvm.MethodName) prog_7_method_4_code (1 : Nat) (Option.some Jvm.ClassFile.FieldType.int)).before args0 about1 = true := code_word (m := ⟨18, 3⟩) (meth := k18m3) (c := k18c3) (by decide +kernel) rfl rfl rfl (by decide +kernel)
set_option maxRecDepth 65536 in
theorem w_c18 : (Jvm.Cond.code ({ cls := "com/example/headers_to_descriptors/headerstodescriptors/ReadOnlyItemsCopyOfPinLaw", name := "pick", desc := "(ILjava/lang/Object;Ljava/lang/Object;Ljava/lang/Object;)[Ljava/lang/Object;" } : Jvm.MethodName) method_2_code (4 : Nat) (Option.some (Jvm.ClassFile.FieldType.array (Jvm.ClassFile.FieldType.object "java/lang/Object")))).before args0 about1 = true := code_word (m := ⟨1, 1⟩) (meth := k1m1) (c := k1c1) (by decide +kernel) rfl rfl rfl (by decide +kernel)
set_option maxRecDepth 65536 in
theorem w_c19 : (Jvm.Cond.code ({ cls := "com/example/headers_to_descriptors/headerstodescriptors/ReadOnlyItems", name := "toArray", desc := "()[Ljava/lang/Object;" } : Jvm.MethodName) prog_7_method_5_code (1 : Nat) (Option.some (Jvm.ClassFile.FieldType.array (Jvm.ClassFile.FieldType.object "java/lang/Object")))).before args0 about1 = true := code_word (m := ⟨18, 4⟩) (meth := k18m4) (c := k18c4) (by decide +kernel) rfl rfl rfl (by decide +kernel)
set_option maxRecDepth 65536 in
theorem w_c20 : (Jvm.Cond.code ({ cls := "java/lang/Integer", name := "<init>", desc := "(I)V" } : Jvm.MethodName) jdk_33_method_23_code (2 : Nat) (Option.none : Option Jvm.ClassFile.FieldType)).before args0 about1 = true := code_word (m := ⟨7, 1⟩) (meth := k7m1) (c := k7c1) (by decide +kernel) rfl rfl rfl (by decide +kernel)
set_option maxRecDepth 65536 in
theorem w_c21 : (Jvm.Cond.code ({ cls := "java/lang/Number", name := "<init>", desc := "()V" } : Jvm.MethodName) jdk_18_method_1_code (1 : Nat) (Option.none : Option Jvm.ClassFile.FieldType)).before args0 about1 = true := code_word (m := ⟨3, 0⟩) (meth := k3m0) (c := k3c0) (by decide +kernel) rfl rfl rfl (by decide +kernel)
set_option maxRecDepth 65536 in
theorem w_c22 : (Jvm.Cond.code ({ cls := "com/example/headers_to_descriptors/headerstodescriptors/ReadOnlyItems", name := "get", desc := "(I)Ljava/lang/Object;" } : Jvm.MethodName) prog_7_method_3_code (2 : Nat) (Option.some (Jvm.ClassFile.FieldType.object "java/lang/Object"))).before args0 about1 = true := code_word (m := ⟨18, 2⟩) (meth := k18m2) (c := k18c2) (by decide +kernel) rfl rfl rfl (by decide +kernel)
def codes1 : List Jvm.Cond := [Jvm.Cond.code x code maxLocals ret, Jvm.Cond.code ({ cls := "java/lang/Integer", name := "valueOf", desc := "(I)Ljava/lang/Integer;" } : Jvm.MethodName) jdk_33_method_22_code (1 : Nat) (Option.some (Jvm.ClassFile.FieldType.object "java/lang/Integer")), Jvm.Cond.code ({ cls := "java/util/ArrayList", name := "<init>", desc := "()V" } : Jvm.MethodName) jdk_38_method_2_code (1 : Nat) (Option.none : Option Jvm.ClassFile.FieldType), Jvm.Cond.code ({ cls := "java/util/AbstractList", name := "<init>", desc := "()V" } : Jvm.MethodName) jdk_39_method_1_code (1 : Nat) (Option.none : Option Jvm.ClassFile.FieldType), Jvm.Cond.code ({ cls := "java/util/AbstractCollection", name := "<init>", desc := "()V" } : Jvm.MethodName) jdk_22_method_1_code (1 : Nat) (Option.none : Option Jvm.ClassFile.FieldType), Jvm.Cond.code ({ cls := "java/lang/Object", name := "<init>", desc := "()V" } : Jvm.MethodName) object_method_1_code (1 : Nat) (Option.none : Option Jvm.ClassFile.FieldType), Jvm.Cond.code ({ cls := "com/example/headers_to_descriptors/headerstodescriptors/ReadOnlyItems", name := "copyOf", desc := "(Ljava/util/List;)Lcom/example/headers_to_descriptors/headerstodescriptors/ReadOnlyItems;" } : Jvm.MethodName) prog_7_method_2_code (2 : Nat) (Option.some (Jvm.ClassFile.FieldType.object "com/example/headers_to_descriptors/headerstodescriptors/ReadOnlyItems")), Jvm.Cond.code ({ cls := "java/util/ArrayList", name := "toArray", desc := "()[Ljava/lang/Object;" } : Jvm.MethodName) jdk_38_method_16_code (1 : Nat) (Option.some (Jvm.ClassFile.FieldType.array (Jvm.ClassFile.FieldType.object "java/lang/Object"))), Jvm.Cond.code ({ cls := "java/util/Arrays", name := "copyOf", desc := "([Ljava/lang/Object;I)[Ljava/lang/Object;" } : Jvm.MethodName) jdk_65_method_119_code (2 : Nat) (Option.some (Jvm.ClassFile.FieldType.array (Jvm.ClassFile.FieldType.object "java/lang/Object"))), Jvm.Cond.code ({ cls := "java/util/Arrays", name := "copyOf", desc := "([Ljava/lang/Object;ILjava/lang/Class;)[Ljava/lang/Object;" } : Jvm.MethodName) jdk_65_method_120_code (4 : Nat) (Option.some (Jvm.ClassFile.FieldType.array (Jvm.ClassFile.FieldType.object "java/lang/Object"))), Jvm.Cond.code ({ cls := "java/lang/Math", name := "min", desc := "(II)I" } : Jvm.MethodName) jdk_29_method_69_code (2 : Nat) (Option.some Jvm.ClassFile.FieldType.int), Jvm.Cond.code ({ cls := "com/example/headers_to_descriptors/headerstodescriptors/ReadOnlyItems", name := "<init>", desc := "([Ljava/lang/Object;)V" } : Jvm.MethodName) prog_7_method_1_code (2 : Nat) (Option.none : Option Jvm.ClassFile.FieldType), Jvm.Cond.code ({ cls := "java/util/ArrayList", name := "add", desc := "(Ljava/lang/Object;)Z" } : Jvm.MethodName) jdk_38_method_25_code (2 : Nat) (Option.some Jvm.ClassFile.FieldType.boolean), Jvm.Cond.code ({ cls := "java/util/ArrayList", name := "add", desc := "(Ljava/lang/Object;[Ljava/lang/Object;I)V" } : Jvm.MethodName) jdk_38_method_24_code (4 : Nat) (Option.none : Option Jvm.ClassFile.FieldType), Jvm.Cond.code ({ cls := "java/util/ArrayList", name := "grow", desc := "()[Ljava/lang/Object;" } : Jvm.MethodName) jdk_38_method_7_code (1 : Nat) (Option.some (Jvm.ClassFile.FieldType.array (Jvm.ClassFile.FieldType.object "java/lang/Object"))), Jvm.Cond.code ({ cls := "java/util/ArrayList", name := "grow", desc := "(I)[Ljava/lang/Object;" } : Jvm.MethodName) jdk_38_method_6_code (4 : Nat) (Option.some (Jvm.ClassFile.FieldType.array (Jvm.ClassFile.FieldType.object "java/lang/Object"))), Jvm.Cond.code ({ cls := "java/lang/Math", name := "max", desc := "(II)I" } : Jvm.MethodName) jdk_29_method_65_code (2 : Nat) (Option.some Jvm.ClassFile.FieldType.int), Jvm.Cond.code ({ cls := "com/example/headers_to_descriptors/headerstodescriptors/ReadOnlyItems", name := "size", desc := "()I" } : Jvm.MethodName) prog_7_method_4_code (1 : Nat) (Option.some Jvm.ClassFile.FieldType.int), Jvm.Cond.code ({ cls := "com/example/headers_to_descriptors/headerstodescriptors/ReadOnlyItemsCopyOfPinLaw", name := "pick", desc := "(ILjava/lang/Object;Ljava/lang/Object;Ljava/lang/Object;)[Ljava/lang/Object;" } : Jvm.MethodName) method_2_code (4 : Nat) (Option.some (Jvm.ClassFile.FieldType.array (Jvm.ClassFile.FieldType.object "java/lang/Object"))), Jvm.Cond.code ({ cls := "com/example/headers_to_descriptors/headerstodescriptors/ReadOnlyItems", name := "toArray", desc := "()[Ljava/lang/Object;" } : Jvm.MethodName) prog_7_method_5_code (1 : Nat) (Option.some (Jvm.ClassFile.FieldType.array (Jvm.ClassFile.FieldType.object "java/lang/Object"))), Jvm.Cond.code ({ cls := "java/lang/Integer", name := "<init>", desc := "(I)V" } : Jvm.MethodName) jdk_33_method_23_code (2 : Nat) (Option.none : Option Jvm.ClassFile.FieldType), Jvm.Cond.code ({ cls := "java/lang/Number", name := "<init>", desc := "()V" } : Jvm.MethodName) jdk_18_method_1_code (1 : Nat) (Option.none : Option Jvm.ClassFile.FieldType), Jvm.Cond.code ({ cls := "com/example/headers_to_descriptors/headerstodescriptors/ReadOnlyItems", name := "get", desc := "(I)Ljava/lang/Object;" } : Jvm.MethodName) prog_7_method_3_code (2 : Nat) (Option.some (Jvm.ClassFile.FieldType.object "java/lang/Object"))]
set_option maxRecDepth 65536 in
theorem codes_eq : words1.filter isCode = codes1 := rfl
theorem w_codes : ∀ c ∈ words1.filter isCode, c.before args0 about1 = true := by
  rw [codes_eq]
  intro c hc
  simp only [codes1, List.mem_cons, List.not_mem_nil, or_false] at hc
  rcases hc with rfl | rfl | rfl | rfl | rfl | rfl | rfl | rfl | rfl | rfl | rfl | rfl | rfl | rfl | rfl | rfl | rfl | rfl | rfl | rfl | rfl | rfl | rfl
  · exact w_c0
  · exact w_c1
  · exact w_c2
  · exact w_c3
  · exact w_c4
  · exact w_c5
  · exact w_c6
  · exact w_c7
  · exact w_c8
  · exact w_c9
  · exact w_c10
  · exact w_c11
  · exact w_c12
  · exact w_c13
  · exact w_c14
  · exact w_c15
  · exact w_c16
  · exact w_c17
  · exact w_c18
  · exact w_c19
  · exact w_c20
  · exact w_c21
  · exact w_c22
set_option maxRecDepth 65536 in
theorem w_t1 : (words1.take 24).all (fun c => isCode c || c.before args0 about1) = true := by decide +kernel
set_option maxRecDepth 65536 in
theorem w_t2 : ((words1.drop 24).take 24).all (fun c => isCode c || c.before args0 about1) = true := by decide +kernel
set_option maxRecDepth 65536 in
theorem w_t3 : (((words1.drop 24).drop 24).take 24).all (fun c => isCode c || c.before args0 about1) = true := by decide +kernel
set_option maxRecDepth 65536 in
theorem w_t4 : ((((words1.drop 24).drop 24).drop 24).take 24).all (fun c => isCode c || c.before args0 about1) = true := by decide +kernel
set_option maxRecDepth 65536 in
theorem w_t5 : (((((words1.drop 24).drop 24).drop 24).drop 24).take 24).all (fun c => isCode c || c.before args0 about1) = true := by decide +kernel
set_option maxRecDepth 65536 in
theorem w_t6 : ((((((words1.drop 24).drop 24).drop 24).drop 24).drop 24).take 24).all (fun c => isCode c || c.before args0 about1) = true := by decide +kernel
set_option maxRecDepth 65536 in
theorem w_t7 : ((((((words1.drop 24).drop 24).drop 24).drop 24).drop 24).drop 24).all (fun c => isCode c || c.before args0 about1) = true := by decide +kernel
theorem w_tables : (allAtoms (Jvm.Cond.code x code maxLocals ret :: tables_1)).before args0 about1 = true := by
  rw [allAtoms_all]
  show words1.all (fun c => c.before args0 about1) = true
  refine all_split ?_ w_codes
  rw [← List.take_append_drop 24 words1, List.all_append, w_t1, ← List.take_append_drop 24 (words1.drop 24), List.all_append, w_t2, ← List.take_append_drop 24 ((words1.drop 24).drop 24), List.all_append, w_t3, ← List.take_append_drop 24 (((words1.drop 24).drop 24).drop 24), List.all_append, w_t4, ← List.take_append_drop 24 ((((words1.drop 24).drop 24).drop 24).drop 24), List.all_append, w_t5, ← List.take_append_drop 24 (((((words1.drop 24).drop 24).drop 24).drop 24).drop 24), List.all_append, w_t6, w_t7]
  rfl
set_option maxRecDepth 65536 in
theorem w_rest : rest_1_c.before args0 about1 = true := by decide +kernel
set_option maxRecDepth 65536 in
theorem w_case : (Jvm.Cond.and given_1 narrow_1).before args0 about1 = true := by decide +kernel
theorem w_applies : (headSpec (Jvm.Cond.code x code maxLocals ret :: tables_1) room_1).applies x e0.platform about1 = true :=
  (Spec.applies_iff w_frames).mpr ⟨w_running, w_runnable, w_alone, w_named, w_hears, w_ripe, w_room, w_tables⟩
set_option maxRecDepth 65536 in
theorem atStart : AtStart classFile x code maxLocals ret World_1 tables_1 room_1 Calls_1 rest_1 Pre_1 launch0 p0 e0 about1 theMethod args0 below0 :=
  ⟨lists_1, trivial, launch0.admits_env _ _ _, launch0.least_env, fairChoices_fair.cas, fairChoices_fair.clock, w_frames, w_args, w_heap, w_applies, ⟨⟨28, k28, 2, by decide +kernel, rfl, rfl, _, rfl, rfl⟩, ⟨⟨17, k17, 3, by decide +kernel, rfl, rfl, _, rfl, rfl⟩, ⟨⟨18, k18, 4, by decide +kernel, rfl, rfl, _, rfl, rfl⟩, trivial⟩⟩⟩, w_rest, w_case⟩
end start1
theorem witness_1 : WitnessClaimed_1 := ⟨start1.p0, start1.e0, start1.about1, start1.theMethod, start1.args0, start1.below0, start1.atStart⟩
end Jvm.Pilot.@@N@@
